/-
  PLAIN LAWS, no Go program in sight: the order of byte strings and of pairs of them; what a binary search over a strictly rising row of pairs finds.
-/
import Derived.WalkKit
namespace Go.Proofs.Qxb6612206a.Pos

theorem bl_irrefl : ∀ x : List UInt8, Op.bytesLess x x = false
  | [] => rfl
  | a :: x => by simp [Op.bytesLess, bl_irrefl x]

theorem bl_trans : ∀ x y z : List UInt8, Op.bytesLess x y = true → Op.bytesLess y z = true → Op.bytesLess x z = true
  | _, _, [], _, h => by simp [Op.bytesLess] at h
  | _, [], _ :: _, h, _ => by simp [Op.bytesLess] at h
  | [], _ :: _, _ :: _, _, _ => rfl
  | a :: x, b :: y, c :: z, h1, h2 => by
    simp only [Op.bytesLess, Bool.or_eq_true, decide_eq_true_eq, Bool.and_eq_true, beq_iff_eq] at h1 h2 ⊢
    rcases h1 with h1 | ⟨rfl, h1⟩
    · rcases h2 with h2 | ⟨rfl, h2⟩
      · exact .inl (UInt8.lt_trans h1 h2)
      · exact .inl h1
    · rcases h2 with h2 | ⟨rfl, h2⟩
      · exact .inl h2
      · exact .inr ⟨rfl, bl_trans x y z h1 h2⟩

theorem bl_total : ∀ x y : List UInt8, Op.bytesLess x y = false → Op.bytesLess y x = false → x = y
  | [], [], _, _ => rfl
  | [], _ :: _, h, _ => by simp [Op.bytesLess] at h
  | _ :: _, [], _, h => by simp [Op.bytesLess] at h
  | a :: x, b :: y, h1, h2 => by
    simp only [Op.bytesLess, Bool.or_eq_false_iff, decide_eq_false_iff_not, Bool.and_eq_false_iff, beq_eq_false_iff_ne] at h1 h2
    have hab : a = b := UInt8.le_antisymm (UInt8.not_lt.1 h2.1) (UInt8.not_lt.1 h1.1)
    subst hab
    have e1 : Op.bytesLess x y = false := h1.2.resolve_left (fun h => h rfl)
    have e2 : Op.bytesLess y x = false := h2.2.resolve_left (fun h => h rfl)
    rw [bl_total x y e1 e2]

theorem bl_snoc : ∀ s : List UInt8, Op.bytesLess s (s ++ [0]) = true
  | [] => rfl
  | a :: s => by simp [Op.bytesLess, bl_snoc s]

/-- s followed by a zero byte is the very next string behind s. -/
theorem bl_next : ∀ s t : List UInt8, Op.bytesLess s t = true → Op.bytesLess t (s ++ [0]) = false
  | _, [], h => by simp [Op.bytesLess] at h
  | [], b :: t, _ => by
    have : ¬ b < 0 := UInt8.not_lt.2 (UInt8.zero_le)
    cases t <;> simp [Op.bytesLess, this]
  | a :: s, b :: t, h => by
    simp only [Op.bytesLess, Bool.or_eq_true, decide_eq_true_eq, Bool.and_eq_true, beq_iff_eq] at h
    simp only [List.cons_append, Op.bytesLess, Bool.or_eq_false_iff, decide_eq_false_iff_not, Bool.and_eq_false_iff, beq_eq_false_iff_ne]
    rcases h with h | ⟨rfl, h⟩
    · exact ⟨UInt8.not_lt.2 (UInt8.le_of_lt h), .inl (fun e => by subst e; exact UInt8.lt_irrefl _ h)⟩
    · exact ⟨UInt8.lt_irrefl _, .inr (bl_next s t h)⟩

/-- The order of pairs, as zzKeyLess has it. -/
def lt2 (p1 k1 p2 k2 : List UInt8) : Bool := Op.bytesLess p1 p2 || (p1 == p2 && Op.bytesLess k1 k2)

theorem lt2_iff (p1 k1 p2 k2 : List UInt8) : lt2 p1 k1 p2 k2 = true ↔ Op.bytesLess p1 p2 = true ∨ (p1 = p2 ∧ Op.bytesLess k1 k2 = true) := by
  simp [lt2]

theorem lt2_irrefl (p k : List UInt8) : lt2 p k p k = false := by simp [lt2, bl_irrefl]

theorem lt2_trans {p1 k1 p2 k2 p3 k3 : List UInt8} (h1 : lt2 p1 k1 p2 k2 = true) (h2 : lt2 p2 k2 p3 k3 = true) : lt2 p1 k1 p3 k3 = true := by
  rw [lt2_iff] at *
  rcases h1 with h1 | ⟨rfl, h1⟩
  · rcases h2 with h2 | ⟨rfl, h2⟩
    · exact .inl (bl_trans _ _ _ h1 h2)
    · exact .inl h1
  · rcases h2 with h2 | ⟨rfl, h2⟩
    · exact .inl h2
    · exact .inr ⟨rfl, bl_trans _ _ _ h1 h2⟩

/-- cmp.Compare at strings. -/
def cmp1 (x y : List UInt8) : Int := if Op.bytesLess x y = true then -1 else if x = y then 0 else 1
/-- comparePositions. -/
def cmp2 (p1 k1 p2 k2 : List UInt8) : Int := if cmp1 p1 p2 = 0 then cmp1 k1 k2 else cmp1 p1 p2

theorem cmp1_zero (x y : List UInt8) : cmp1 x y = 0 ↔ x = y := by
  unfold cmp1
  by_cases h : Op.bytesLess x y = true
  · rw [if_pos h]
    refine ⟨fun e => by omega, fun e => ?_⟩
    subst e; rw [bl_irrefl] at h; cases h
  · rw [if_neg h]
    by_cases e : x = y <;> simp [e]

theorem cmp1_neg (x y : List UInt8) : cmp1 x y < 0 ↔ Op.bytesLess x y = true := by
  unfold cmp1
  by_cases h : Op.bytesLess x y = true
  · simp [h]
  · rw [if_neg h]
    by_cases e : x = y <;> simp [e, h]
    · subst e; exact bl_irrefl x

theorem cmp2_zero (p1 k1 p2 k2 : List UInt8) : cmp2 p1 k1 p2 k2 = 0 ↔ p1 = p2 ∧ k1 = k2 := by
  unfold cmp2
  by_cases h : cmp1 p1 p2 = 0
  · rw [if_pos h, cmp1_zero]; rw [cmp1_zero] at h; simp [h]
  · rw [if_neg h]
    refine ⟨fun e => absurd e h, fun e => ?_⟩
    rw [cmp1_zero]; exact e.1

theorem cmp2_neg (p1 k1 p2 k2 : List UInt8) : cmp2 p1 k1 p2 k2 < 0 ↔ lt2 p1 k1 p2 k2 = true := by
  rw [lt2_iff]
  unfold cmp2
  by_cases h : cmp1 p1 p2 = 0
  · rw [if_pos h, cmp1_neg]
    rw [cmp1_zero] at h
    subst h
    simp [bl_irrefl]
  · rw [if_neg h, cmp1_neg]
    rw [cmp1_zero] at h
    simp [h]

theorem cmp2_range (p1 k1 p2 k2 : List UInt8) : -1 ≤ cmp2 p1 k1 p2 k2 ∧ cmp2 p1 k1 p2 k2 ≤ 1 := by
  unfold cmp2 cmp1
  split <;> split <;> first | omega | (split <;> omega)

/-- A strictly rising row of pairs. -/
def Rising (n : Nat) (A B : Nat → List UInt8) : Prop := ∀ i, i + 1 < n → lt2 (A i) (B i) (A (i + 1)) (B (i + 1)) = true

theorem Rising.lt {n : Nat} {A B : Nat → List UInt8} (h : Rising n A B) : ∀ (d i : Nat), i + d + 1 < n → lt2 (A i) (B i) (A (i + d + 1)) (B (i + d + 1)) = true
  | 0, i, hi => h i hi
  | d + 1, i, hi => lt2_trans (h.lt d i (by omega)) (h (i + d + 1) (by omega))

theorem Rising.of_lt {n : Nat} {A B : Nat → List UInt8} (h : Rising n A B) {i j : Nat} (hij : i < j) (hj : j < n) : lt2 (A i) (B i) (A j) (B j) = true := by
  have := h.lt (j - i - 1) i (by omega)
  rwa [show i + (j - i - 1) + 1 = j by omega] at this

/-- Where the search stands: all below i are less than the key, none from j on. -/
structure Between (n : Nat) (A B : Nat → List UInt8) (p k : List UInt8) (i j : Nat) : Prop where
  ij : i ≤ j
  jn : j ≤ n
  lo : ∀ t, t < i → lt2 (A t) (B t) p k = true
  hi : ∀ t, j ≤ t → t < n → lt2 (A t) (B t) p k = false

theorem Between.start (n : Nat) (A B : Nat → List UInt8) (p k : List UInt8) : Between n A B p k 0 n :=
  ⟨Nat.zero_le _, Nat.le_refl _, fun _ h => absurd h (Nat.not_lt_zero _), fun t h1 h2 => absurd h2 (by omega)⟩

theorem Between.up {n : Nat} {A B : Nat → List UInt8} {p k : List UInt8} {i j h : Nat} (b : Between n A B p k i j) (hr : Rising n A B) (hh : h < j) (hc : cmp2 (A h) (B h) p k < 0) : Between n A B p k (h + 1) j := by
  rw [cmp2_neg] at hc
  refine ⟨hh, b.jn, fun t ht => ?_, b.hi⟩
  by_cases e : t = h
  · subst e; exact hc
  · exact lt2_trans (hr.of_lt (show t < h by omega) (by have := b.jn; omega)) hc

theorem Between.down {n : Nat} {A B : Nat → List UInt8} {p k : List UInt8} {i j h : Nat} (b : Between n A B p k i j) (hr : Rising n A B) (hi : i ≤ h) (hj : h < j) (hc : ¬ cmp2 (A h) (B h) p k < 0) : Between n A B p k i h := by
  rw [cmp2_neg] at hc
  refine ⟨hi, by have := b.jn; omega, b.lo, fun t h1 h2 => ?_⟩
  by_cases e : t = h
  · subst e; exact Bool.eq_false_iff.2 hc
  · refine Bool.eq_false_iff.2 (fun hlt => hc (lt2_trans (hr.of_lt (show h < t by omega) h2) hlt))

/-- The key is held at t: the search ends there. -/
theorem Between.hit {n : Nat} {A B : Nat → List UInt8} {p k : List UInt8} {i t : Nat} (b : Between n A B p k i i) (hr : Rising n A B) (ht : t < n) (hp : A t = p) (hk : B t = k) : i = t := by
  subst hp hk
  rcases Nat.lt_trichotomy i t with h | h | h
  · have h1 := hr.of_lt h ht
    have h2 := b.hi i (Nat.le_refl _) (by omega)
    rw [h1] at h2; cases h2
  · exact h
  · have := b.lo t h
    rw [lt2_irrefl] at this; cases this

/-- The key just behind that of entry i (its second part followed by a zero byte) is held, if at all, by the next entry. -/
theorem next_only {n : Nat} {A B : Nat → List UInt8} (hr : Rising n A B) {i t : Nat} (hi : i < n) (ht : t < n) (hp : A t = A i) (hk : B t = B i ++ [0]) : t = i + 1 := by
  have hlt : lt2 (A i) (B i) (A t) (B t) = true := by rw [lt2_iff, hp, hk]; exact .inr ⟨rfl, bl_snoc _⟩
  rcases Nat.lt_trichotomy t i with h | h | h
  · have h1 := lt2_trans hlt (hr.of_lt h hi)
    rw [lt2_irrefl] at h1; cases h1
  · subst h; rw [lt2_irrefl] at hlt; cases hlt
  · by_cases e : t = i + 1
    · exact e
    · have h1 := hr i (by omega)
      have h2 := hr.of_lt (show i + 1 < t by omega) ht
      rw [lt2_iff] at h1 h2
      rw [hp, hk] at h2
      rcases h1 with h1 | ⟨e1, h1⟩
      · rcases h2 with h2 | ⟨e2, h2⟩
        · have := bl_trans _ _ _ h1 h2; rw [bl_irrefl] at this; cases this
        · rw [e2, bl_irrefl] at h1; cases h1
      · rcases h2 with h2 | ⟨e2, h2⟩
        · rw [← e1, bl_irrefl] at h2; cases h2
        · rw [bl_next _ _ h1] at h2; cases h2
end Go.Proofs.Qxb6612206a.Pos
