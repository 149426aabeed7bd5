/-
  THE WALKS, part B: the search among the positions.
-/
import Derived.Test.Qxb6612206aWalksA
import Derived.Deep.MidRow
namespace Go.Proofs.Qxb6612206a.Pos
open Go.RowKit
set_option linter.unusedVariables false

theorem closure_any (p k P K : ByteArray) (q : Int) (w : World) :
    Calls Try.prog 17 #[.agg #[.string p, .string k, .int .i64 q, .pointer none, .int .i32 0, .int .i64 0, .pointer none, .int .i32 0, .int .i64 0, .pointer none, .int .i32 0], .agg #[.string P, .string K]] w fun e w' =>
      e = .returned (.int .i64 (cmp2 p.toList k.toList P.toList K.toList)) ∧ Below w.heap.size w w' := by
  obtain ⟨z, hz⟩ : ∃ z, cmp2 p.toList k.toList P.toList K.toList = z := ⟨_, rfl⟩
  have hc : Hid (∀ w, Calls Try.prog 18 #[.agg #[.string p, .string k], .agg #[.string P, .string K]] w fun e w' => e = .returned (.int .i64 z) ∧ Below w.heap.size w w') := fun w => by rw [← hz]; exact comparePos_any p k P K w
  rw [hz]
  clear hz
  go_enter Try.func17, Try.ntmps17
  go_wp2_with (go_at_call 18; refine (hc.out _).mono ?_; rintro e w' ⟨rfl, hb⟩)
  go_ret
  refine ⟨rfl, (((Below.refl _ _).alloc (Nat.le_refl _) _).alloc (by simp) _).trans (Below.mono (by assumption) (by simp; omega))⟩

/-- One position's cells. -/
def pcells (p k : ByteArray) (q : Int) : List Value := [.string p, .string k, .int .i64 q, .pointer none, .int .i32 0, .int .i64 0, .pointer none, .int .i32 0, .int .i64 0, .pointer none, .int .i32 0]

/-- From the head of block g on lie n positions, eleven cells each. -/
def PosAt (w : World) (g n : Nat) (P K : Nat → ByteArray) (q : Nat → Int) : Prop := ∀ i, i < n → w.rangeAt g (i * 11) (pcells (P i) (K i) (q i))

theorem below_cell {w w' : World} (hb : Below w.heap.size w w') {a : Addr} {v : Value} (h : w.cell? a = some v) : w'.cell? a = some v := by
  rw [hb.cell (World.block_lt_of_cell? w a h)]; exact h

/-- The closure's contract, as the search meets it. -/
def Cmp (P K : ByteArray) : Prop := ∀ (p k : ByteArray) (q z : Int) (w : World), cmp2 p.toList k.toList P.toList K.toList = z → Calls Try.prog 17 #[.agg #[.string p, .string k, .int .i64 q, .pointer none, .int .i32 0, .int .i64 0, .pointer none, .int .i32 0, .int .i64 0, .pointer none, .int .i32 0], .agg #[.string P, .string K]] w fun e w' =>
      e = .returned (.int .i64 z) ∧ Below w.heap.size w w'
theorem cmp_all (P K : ByteArray) : Cmp P K := fun p k q z w h => by subst h; exact closure_any p k P K q w

theorem PosAt.eleven {w : World} {g n : Nat} {Ps Ks : Nat → ByteArray} {qs : Nat → Int} (hp : PosAt w g n Ps Ks qs) {h : Nat} (hh : h < n) :
    w.cell? ⟨g, h * 11, none⟩ = some (.string (Ps h)) ∧ w.cell? ⟨g, h * 11 + 1, none⟩ = some (.string (Ks h)) ∧ w.cell? ⟨g, h * 11 + 2, none⟩ = some (.int .i64 (qs h)) ∧ w.cell? ⟨g, h * 11 + 3, none⟩ = some (.pointer none) ∧ w.cell? ⟨g, h * 11 + 4, none⟩ = some (.int .i32 0) ∧ w.cell? ⟨g, h * 11 + 5, none⟩ = some (.int .i64 0) ∧ w.cell? ⟨g, h * 11 + 6, none⟩ = some (.pointer none) ∧ w.cell? ⟨g, h * 11 + 7, none⟩ = some (.int .i32 0) ∧ w.cell? ⟨g, h * 11 + 8, none⟩ = some (.int .i64 0) ∧ w.cell? ⟨g, h * 11 + 9, none⟩ = some (.pointer none) ∧ w.cell? ⟨g, h * 11 + 10, none⟩ = some (.int .i32 0) := by
  have := hp h hh
  exact ⟨this 0 _ rfl, this 1 _ rfl, this 2 _ rfl, this 3 _ rfl, this 4 _ rfl, this 5 _ rfl, this 6 _ rfl, this 7 _ rfl, this 8 _ rfl, this 9 _ rfl, this 10 _ rfl⟩

theorem PosAt.below {B : Nat} {w w' : World} {g n : Nat} {Ps Ks : Nat → ByteArray} {qs : Nat → Int} (h : PosAt w g n Ps Ks qs) (hb : Below B w w') (hlt : g < B) : PosAt w' g n Ps Ks qs := fun i hi j v hv => by
  rw [hb.cell hlt]; exact h i hi j v hv


/-- How the search ends: at i, where it has come to stand; 'found' is whether the key is there. -/
def SearchOut (n : Nat) (A B : Nat → List UInt8) (p k : List UInt8) (w : World) (e : Ending) (w' : World) : Prop :=
  ∃ i : Nat, Between n A B p k i i ∧ e = .returned (.tuple #[.int .i64 i, .bool (decide (i < n) && (cmp2 (A i) (B i) p k == 0))]) ∧ Below w.heap.size w w'

set_option maxRecDepth 100000 in
set_option maxHeartbeats 2000000 in
theorem search_any (g n c : Nat) (a : Option Addr) (ha : 0 < n → a = some ⟨g, 0, none⟩) (Ps Ks : Nat → ByteArray) (qs : Nat → Int) (p k : ByteArray) (w : World) (hpos : PosAt w g n Ps Ks qs) (hg : 0 < n → g < w.heap.size) (hn : n ≤ 1048576)
    (hr : Rising n (fun i => (Ps i).toList) (fun i => (Ks i).toList)) :
    Calls Try.prog 16 #[.slice a n c, .agg #[.string p, .string k], .func (.func 17) #[] #[]] w fun e w' => SearchOut n (fun i => (Ps i).toList) (fun i => (Ks i).toList) p.toList k.toList w e w' := by
  have HA : Hid (0 < n → a = some ⟨g, 0, none⟩) := ha
  have HR : Hid (Rising n (fun i => (Ps i).toList) (fun i => (Ks i).toList)) := hr
  have hcmp : Cmp p k := cmp_all p k
  clear ha hr
  go_enter Try.func16, Try.ntmps16
  go_wp2
  go_loopw [9, 10, 11] (fun ti tj _ wr => ∃ i j : Nat, ti = .int .i64 i ∧ tj = .int .i64 j ∧ Between n (fun i => (Ps i).toList) (fun i => (Ks i).toList) p.toList k.toList i j ∧ Below w.heap.size w wr ∧ wr.cell? ⟨w.heap.size, 0, none⟩ = some (.string p) ∧ wr.cell? ⟨w.heap.size, 1, none⟩ = some (.string k)) (fun ti tj _ _ => (intOf tj).toNat - (intOf ti).toNat)
  case atStart => exact ⟨0, n, rfl, rfl, Between.start _ _ _ _ _, (Below.refl _ _).alloc (Nat.le_refl _) _, by simp, by simp⟩
  case round =>
    obtain ⟨i, j, rfl, rfl, hbt, hbl, hc0, hc1⟩ := hrel
    have hij := hbt.ij
    have hjn := hbt.jn
    by_cases hlt : i < j
    · obtain ⟨h, hh⟩ : ∃ h : Nat, ((i : Int) + j) / 2 = (h : Int) := ⟨(i + j) / 2, by omega⟩
      have h1 : i ≤ h := by omega
      have h2 : h < j := by omega
      obtain rfl := HA.out (by omega)
      obtain ⟨c0, c1, c2, c3, c4, c5, c6, c7, c8, c9, c10⟩ := (hpos.below hbl (hg (by omega))).eleven (show h < n by omega)
      obtain ⟨z, hz⟩ : ∃ z, cmp2 (Ps h).toList (Ks h).toList p.toList k.toList = z := ⟨_, rfl⟩
      have HZ : Hid (cmp2 (Ps h).toList (Ks h).toList p.toList k.toList = z) := hz
      have b1 : (0 : Int) ≤ (h : Int) := by omega
      have b2 : (h : Int) < (n : Int) := by omega
      clear hz
      by_cases hneg : z < 0
      · go_wp2_with fail
        go_region_held3 (fun w' => Below w.heap.size w w' ∧ w'.cell? ⟨w.heap.size, 0, none⟩ = some (.string p) ∧ w'.cell? ⟨w.heap.size, 1, none⟩ = some (.string k) ∧ w'.cell? ⟨g, h * 11, none⟩ = some (.string (Ps h)) ∧ w'.cell? ⟨g, h * 11 + 1, none⟩ = some (.string (Ks h)) ∧ w'.cell? ⟨g, h * 11 + 2, none⟩ = some (.int .i64 (qs h)) ∧ w'.cell? ⟨g, h * 11 + 3, none⟩ = some (.pointer none) ∧ w'.cell? ⟨g, h * 11 + 4, none⟩ = some (.int .i32 0) ∧ w'.cell? ⟨g, h * 11 + 5, none⟩ = some (.int .i64 0) ∧ w'.cell? ⟨g, h * 11 + 6, none⟩ = some (.pointer none) ∧ w'.cell? ⟨g, h * 11 + 7, none⟩ = some (.int .i32 0) ∧ w'.cell? ⟨g, h * 11 + 8, none⟩ = some (.int .i64 0) ∧ w'.cell? ⟨g, h * 11 + 9, none⟩ = some (.pointer none) ∧ w'.cell? ⟨g, h * 11 + 10, none⟩ = some (.int .i32 0))
          ((go_split_ands; (repeat' apply And.intro) <;> first | assumption | (refine below_cell (by assumption) ?_; assumption) | (refine Below.drew ?_; assumption) | (refine Below.trans (by assumption) (Below.mono (by assumption) (Below.size (by assumption)))) | (simp; assumption)))
          (first | (go_at_call 17; refine (hcmp _ _ _ z _ HZ.out).mono ?_; rintro e w' ⟨rfl, hbx⟩))
        rename_i hHeld
        have hf0 := hHeld.1
        have hf1 := hHeld.2.1
        have hf2 := hHeld.2.2.1
        clear hHeld
        go_wp2
        go_roundw
        case rel => exact ⟨h + 1, j, by go_num, rfl, hbt.up HR.out h2 (by have := HZ.out; show cmp2 (Ps h).toList (Ks h).toList p.toList k.toList < 0; omega), hf0, hf1, hf2⟩
        case measure => simp [intOf]; omega
      · go_wp2_with fail
        go_region_held3 (fun w' => Below w.heap.size w w' ∧ w'.cell? ⟨w.heap.size, 0, none⟩ = some (.string p) ∧ w'.cell? ⟨w.heap.size, 1, none⟩ = some (.string k) ∧ w'.cell? ⟨g, h * 11, none⟩ = some (.string (Ps h)) ∧ w'.cell? ⟨g, h * 11 + 1, none⟩ = some (.string (Ks h)) ∧ w'.cell? ⟨g, h * 11 + 2, none⟩ = some (.int .i64 (qs h)) ∧ w'.cell? ⟨g, h * 11 + 3, none⟩ = some (.pointer none) ∧ w'.cell? ⟨g, h * 11 + 4, none⟩ = some (.int .i32 0) ∧ w'.cell? ⟨g, h * 11 + 5, none⟩ = some (.int .i64 0) ∧ w'.cell? ⟨g, h * 11 + 6, none⟩ = some (.pointer none) ∧ w'.cell? ⟨g, h * 11 + 7, none⟩ = some (.int .i32 0) ∧ w'.cell? ⟨g, h * 11 + 8, none⟩ = some (.int .i64 0) ∧ w'.cell? ⟨g, h * 11 + 9, none⟩ = some (.pointer none) ∧ w'.cell? ⟨g, h * 11 + 10, none⟩ = some (.int .i32 0))
          ((go_split_ands; (repeat' apply And.intro) <;> first | assumption | (refine below_cell (by assumption) ?_; assumption) | (refine Below.drew ?_; assumption) | (refine Below.trans (by assumption) (Below.mono (by assumption) (Below.size (by assumption)))) | (simp; assumption)))
          (first | (go_at_call 17; refine (hcmp _ _ _ z _ HZ.out).mono ?_; rintro e w' ⟨rfl, hbx⟩))
        rename_i hHeld
        have hf0 := hHeld.1
        have hf1 := hHeld.2.1
        have hf2 := hHeld.2.2.1
        clear hHeld
        go_wp2
        go_roundw
        case rel => exact ⟨i, h, rfl, rfl, hbt.down HR.out h1 h2 (by have := HZ.out; show ¬ cmp2 (Ps h).toList (Ks h).toList p.toList k.toList < 0; omega), hf0, hf1, hf2⟩
        case measure => simp [intOf]; omega
    · obtain rfl : i = j := by omega
      by_cases hin : i < n
      · obtain rfl := HA.out (by omega)
        obtain ⟨c0, c1, c2, c3, c4, c5, c6, c7, c8, c9, c10⟩ := (hpos.below hbl (hg (by omega))).eleven hin
        obtain ⟨z, hz⟩ : ∃ z, cmp2 (Ps i).toList (Ks i).toList p.toList k.toList = z := ⟨_, rfl⟩
        have HZ : Hid (cmp2 (Ps i).toList (Ks i).toList p.toList k.toList = z) := hz
        have b1 : (0 : Int) ≤ (i : Int) := by omega
        have b2 : (i : Int) < (n : Int) := by omega
        clear hz
        go_wp2_with fail
        go_region_held3 (fun w' => Below w.heap.size w w' ∧ w'.cell? ⟨w.heap.size, 0, none⟩ = some (.string p) ∧ w'.cell? ⟨w.heap.size, 1, none⟩ = some (.string k) ∧ w'.cell? ⟨g, i * 11, none⟩ = some (.string (Ps i)) ∧ w'.cell? ⟨g, i * 11 + 1, none⟩ = some (.string (Ks i)) ∧ w'.cell? ⟨g, i * 11 + 2, none⟩ = some (.int .i64 (qs i)) ∧ w'.cell? ⟨g, i * 11 + 3, none⟩ = some (.pointer none) ∧ w'.cell? ⟨g, i * 11 + 4, none⟩ = some (.int .i32 0) ∧ w'.cell? ⟨g, i * 11 + 5, none⟩ = some (.int .i64 0) ∧ w'.cell? ⟨g, i * 11 + 6, none⟩ = some (.pointer none) ∧ w'.cell? ⟨g, i * 11 + 7, none⟩ = some (.int .i32 0) ∧ w'.cell? ⟨g, i * 11 + 8, none⟩ = some (.int .i64 0) ∧ w'.cell? ⟨g, i * 11 + 9, none⟩ = some (.pointer none) ∧ w'.cell? ⟨g, i * 11 + 10, none⟩ = some (.int .i32 0))
          ((go_split_ands; (repeat' apply And.intro) <;> first | assumption | (refine below_cell (by assumption) ?_; assumption) | (refine Below.drew ?_; assumption) | (refine Below.trans (by assumption) (Below.mono (by assumption) (Below.size (by assumption)))) | (simp; assumption)))
          (first | (go_at_call 17; refine (hcmp _ _ _ z _ HZ.out).mono ?_; rintro e w' ⟨rfl, hbx⟩))
        rename_i hHeld
        have hf0 := hHeld.1
        clear hHeld
        go_wp2
        go_ret2
        refine ⟨i, hbt, ?_, hf0⟩
        have := HZ.out
        simp [hin, this]
      · have hd : decide ((i : Int) < (n : Int)) = false := by simp; omega
        go_wp2_with fail
        go_quiet (fail)
        go_wp2
        go_ret2
        refine ⟨i, hbt, ?_, ?_⟩
        · simp [hin]
        · exact hbl.trans ⟨rfl, rfl, rfl, Nat.le_refl _, fun _ _ => rfl⟩
end Go.Proofs.Qxb6612206a.Pos
