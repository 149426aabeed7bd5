/-
  THE WALKS, part E: the client is made.
-/
import Derived.Test.Qxb6612206aWalksC
import Derived.Test.Qxb6612206aWalksD
import Derived.Test.Qxb6612206aDrawn
import Derived.Deep.AppendLies
namespace Go.Proofs.Qxb6612206a.Pos
open Go.RowKit Go.Proofs.Qxb6612206a.Dr
set_option linter.unusedVariables false
set_option linter.unusedSimpArgs false

theorem dec_any (q : Int) (w : World) : Calls Try.prog 13 #[.int .i64 q, .int .i32 0] w fun e w' => e = .returned (.agg #[.int .i64 q, .pointer none, .int .i32 0]) ∧ ∃ o, w' = w.alloc o := by
  go_enter Try.func13, Try.ntmps13
  go_wp2
  exact bodyPost_ret (v := .agg #[.int .i64 q, .pointer none, .int .i32 0]) (by simp [results, Try.results13, go_sem]) rfl ⟨rfl, _, rfl⟩

/-- The cells of the first k positions. -/
def prow (Ps Ks : Nat → ByteArray) (qs : Nat → Int) : Nat → List Value
  | 0 => []
  | k + 1 => prow Ps Ks qs k ++ pcells (Ps k) (Ks k) (qs k)

theorem prow_length (Ps Ks : Nat → ByteArray) (qs : Nat → Int) : ∀ k, (prow Ps Ks qs k).length = k * 11
  | 0 => rfl
  | k + 1 => by rw [prow, List.length_append, prow_length Ps Ks qs k]; simp [pcells]; omega

theorem prow_at (Ps Ks : Nat → ByteArray) (qs : Nat → Int) : ∀ k i, i < k → ∀ j v, (pcells (Ps i) (Ks i) (qs i))[j]? = some v → (prow Ps Ks qs k)[i * 11 + j]? = some v
  | 0, i, h, _, _, _ => absurd h (Nat.not_lt_zero _)
  | k + 1, i, h, j, v, hv => by
    have hj : j < 11 := (List.getElem?_eq_some_iff.1 hv).1
    rw [prow]
    by_cases e : i = k
    · subst e
      rw [List.getElem?_append_right (by rw [prow_length]; omega), prow_length]
      rw [show i * 11 + j - i * 11 = j by omega]
      exact hv
    · rw [List.getElem?_append_left (by rw [prow_length]; omega)]
      exact prow_at Ps Ks qs k i (by omega) j v hv

/-- Out of a row that the call owns: the positions lie there. -/
theorem pos_of_own {w : World} {base n : Nat} {v : Value} {Ps Ks : Nat → ByteArray} {qs : Nat → Int} (h : w.ownsRow base 51 11 v n (prow Ps Ks qs n)) :
    ∃ g a c, v = .slice a n c ∧ (0 < n → a = some ⟨g, 0, none⟩) ∧ PosAt w g n Ps Ks qs ∧ (0 < n → g < w.heap.size) := by
  rcases h.2 with ⟨rfl, rfl⟩ | ⟨g, cap, cur, rfl, hb, hh, h1, h2, h3, h4⟩
  · exact ⟨0, none, 0, rfl, fun h => absurd h (Nat.lt_irrefl _), fun i hi => absurd hi (Nat.not_lt_zero _), fun h => absurd h (Nat.lt_irrefl _)⟩
  · refine ⟨g, _, cap, rfl, fun _ => rfl, fun i hi j v hv => ?_, fun _ => ?_⟩
    · rw [cell_of_row w g (i * 11 + j) cur 51 (0, 0) hh]
      have := prow_at Ps Ks qs n i hi j v hv
      rw [← h4] at this
      have hj : j < 11 := (List.getElem?_eq_some_iff.1 hv).1
      rw [List.getElem?_take_of_lt (by omega)] at this
      simpa using this
    · rcases Nat.lt_or_ge g w.heap.size with h | h
      · exact h
      · rw [Array.getElem?_eq_none h] at hh; cases hh

/-- What holds while the client is filled. -/
structure Fill (w : World) (n : Nat) (Ps Ks : Nat → ByteArray) (qs : Nat → Int) (k : Nat) (v : Value) (wr : World) : Prop where
  cell : wr.cell? ⟨w.heap.size, 4, none⟩ = some v
  free : wr.frozen? ⟨w.heap.size, 4, none⟩ = false
  own : wr.ownsRow (w.heap.size + 1) 51 11 v k (prow Ps Ks qs k)
  bel : Below w.heap.size w wr
  lt : w.heap.size < wr.heap.size

theorem Fill.drew {w : World} {n : Nat} {Ps Ks : Nat → ByteArray} {qs : Nat → Int} {k : Nat} {v : Value} {wr : World} (h : Fill w n Ps Ks qs k v wr) : Fill w n Ps Ks qs k v wr.drew :=
  ⟨h.cell, h.free, h.own.drew, h.bel.drew, h.lt⟩
theorem Fill.alloc {w : World} {n : Nat} {Ps Ks : Nat → ByteArray} {qs : Nat → Int} {k : Nat} {v : Value} {wr : World} (h : Fill w n Ps Ks qs k v wr) (o : Obj) : Fill w n Ps Ks qs k v (wr.alloc o) :=
  ⟨cell_alloc h.cell, by rw [World.frozen?_alloc_past _ _ _ h.lt]; exact h.free, h.own.alloc o, h.bel.alloc (Nat.le_of_lt h.lt) o, by have := h.lt; simp; omega⟩

theorem own_far {w : World} {base : Nat} {e : TypeId} {size : Nat} {v : Value} {n : Nat} {xs : List Value} (h : w.ownsRow base e size v n xs) : ∀ b, b < base → some b ≠ v.ownBlock := fun b hb => by
  rcases h.2 with ⟨rfl, _⟩ | ⟨g, cap, cur, rfl, hg, _⟩
  · simp [Value.ownBlock]
  · simp [Value.ownBlock]; omega
theorem Fill.next {w : World} {n : Nat} {Ps Ks : Nat → ByteArray} {qs : Nat → Int} {k : Nat} {v : Value} {x w1 : World} (F : Fill w n Ps Ks qs k v x) {g cap : Nat}
    (own1 : w1.ownsRow (w.heap.size + 1) 51 11 (.slice (some ⟨g, 0, none⟩) (k + 1) cap) (k + 1) (prow Ps Ks qs k ++ pcells (Ps k) (Ks k) (qs k))) (grow : x.grownBy w1 v.ownBlock) (hc : w1.cell? ⟨w.heap.size, 4, none⟩ = some v) :
    Fill w n Ps Ks qs (k + 1) (.slice (some ⟨g, 0, none⟩) (k + 1) cap) (w1.setCell ⟨w.heap.size, 4, none⟩ (.slice (some ⟨g, 0, none⟩) (k + 1) cap)) := by
  have hl := F.lt
  have far := own_far F.own
  refine ⟨World.cell?_setCell_same _ _ _ hc, ?_, ?_, ?_, ?_⟩
  · rw [World.frozen?_setCell, grow.frozen_far _ (by exact hl) (far _ (by simp))]; exact F.free
  · exact ownsRow_setCell_below own1 (by simp) _
  · exact (F.bel.grown grow (Nat.le_of_lt hl) (fun r hr => by have := far; rcases Nat.lt_or_ge r (w.heap.size + 1) with h | h; exact absurd hr.symm (far r h); omega)).setCell (Nat.le_refl _) _
  · have := grow.size; simp [World.setCell]; omega

set_option maxRecDepth 100000 in
set_option maxHeartbeats 4000000 in
theorem newPositions_any (a1 a2 a3 : Option Addr) (b1 o1 b2 o2 b3 o3 : Nat) (n c1 c2 c3 : Nat) (Ps Ks : Nat → ByteArray) (qs : Nat → Int) (w : World) (hp : Strs w a1 b1 o1 n Ps) (hk : Strs w a2 b2 o2 n Ks) (hq : Ints w a3 b3 o3 n qs) (m1 : n ≤ 1048576) :
    Calls Try.prog 8 #[.slice a1 n c1, .slice a2 n c2, .slice a3 n c3] w fun e w' => e = .returned (.pointer (some ⟨w.heap.size, 0, none⟩)) ∧ (∃ v, Fill w n Ps Ks qs n v w') := by
  have HP : Hid (Strs w a1 b1 o1 n Ps) := hp
  have HK : Hid (Strs w a2 b2 o2 n Ks) := hk
  have HQ : Hid (Ints w a3 b3 o3 n qs) := hq
  have hdec : Hid (∀ q w, _) := fun q w => dec_any q w
  obtain ⟨i0, hi0, hz0, hz1, hz2⟩ := info_parts info51
  clear hp hk hq
  go_enter Try.func8, Try.ntmps8
  go_wp2
  go_loopw [8, 13] (fun _ i wr => ∃ k : Nat, k ≤ n ∧ i = .int .i64 k ∧ ∃ v, Fill w n Ps Ks qs k v wr) (fun _ i _ => n - (intOf i).toNat)
  case atStart => exact ⟨0, Nat.zero_le _, rfl, _, ⟨by simp, by simp, World.ownsRow_nil _ _ _ _, (Below.refl _ _).alloc (Nat.le_refl _) _, by simp⟩⟩
  case round =>
    obtain ⟨k, hk, rfl, v, hF⟩ := hrel
    by_cases hlt : k < n
    · obtain rfl := HP.out.ha (by omega)
      obtain rfl := HK.out.ha (by omega)
      obtain rfl := HQ.out.ha (by omega)
      have cp : wr.cell? ⟨b1, o1 + k, none⟩ = some (.string (Ps k)) := below_cell hF.bel (HP.out.cell k hlt)
      have ck : wr.cell? ⟨b2, o2 + k, none⟩ = some (.string (Ks k)) := below_cell hF.bel (HK.out.cell k hlt)
      have cq : wr.cell? ⟨b3, o3 + k, none⟩ = some (.int .i64 (qs k)) := below_cell hF.bel (HQ.out.cell k hlt)
      have cv := hF.cell
      have q1 : b1 < w.heap.size := World.block_lt_of_cell? w _ (HP.out.cell k hlt)
      have q2 : b2 < w.heap.size := World.block_lt_of_cell? w _ (HK.out.cell k hlt)
      have q3 : b3 < w.heap.size := World.block_lt_of_cell? w _ (HQ.out.cell k hlt)
      have hmx : k + 1 ≤ maxLen := by unfold maxLen; omega
      have hby : (k + 1) * 104 ≤ 140737488355328 := by omega
      have i1 : (0 : Int) ≤ (k : Int) := by omega
      have i2 : (k : Int) < (n : Int) := by omega
      go_wp2_with fail
      have hS : (fun w' => w'.cell? ⟨w.heap.size, 4, none⟩ = some v ∧ w'.cell? ⟨b1, o1 + k, none⟩ = some (.string (Ps k)) ∧ w'.cell? ⟨b2, o2 + k, none⟩ = some (.string (Ks k)) ∧ w'.cell? ⟨b3, o3 + k, none⟩ = some (.int .i64 (qs k))) wr.drew := ⟨cv, cp, ck, cq⟩
      refine wp_region_N (S := fun w' => w'.cell? ⟨w.heap.size, 4, none⟩ = some v ∧ w'.cell? ⟨b1, o1 + k, none⟩ = some (.string (Ps k)) ∧ w'.cell? ⟨b2, o2 + k, none⟩ = some (.string (Ks k)) ∧ w'.cell? ⟨b3, o3 + k, none⟩ = some (.int .i64 (qs k))) (m := 22) 25 #[false, false, false, false, false, false, false, false, false, false, false, false, false, false, false, false, false, false, false, false, false, false, false, false, false] (by kernel_rfl) rfl (by kernel_rfl) ?_
      refine take #[true, false, false, false, false, false, false, false, false, false, false, false, false, false, false, false, false, false, false, false, false, false, false, false, false] (i := 0) (d := 16) (v := .pointer (some ⟨w.heap.size, 0, none⟩)) rfl rfl (by kernel_rfl) (by kernel_rfl) (fun _ _ _ h => h) (Or.inl ⟨by rfl, by intro w hSw; go_simp⟩) hS ?_
      simp only [List.setIfInBounds_toArray, List.set_cons_zero, List.set_cons_succ]
      refine take #[true, true, false, false, false, false, false, false, false, false, false, false, false, false, false, false, false, false, false, false, false, false, false, false, false] (i := 1) (d := 17) (v := .pointer (some ⟨w.heap.size, 0, none⟩)) rfl rfl (by kernel_rfl) (by kernel_rfl) (fun _ _ _ h => h) (Or.inl ⟨by rfl, by intro w hSw; go_simp⟩) hS ?_
      simp only [List.setIfInBounds_toArray, List.set_cons_zero, List.set_cons_succ]
      refine take #[true, true, true, false, false, false, false, false, false, false, false, false, false, false, false, false, false, false, false, false, false, false, false, false, false] (i := 2) (d := 18) (v := .pointer (some ⟨w.heap.size, 0, none⟩)) rfl rfl (by kernel_rfl) (by kernel_rfl) (fun _ _ _ h => h) (Or.inl ⟨by rfl, by intro w hSw; go_simp⟩) hS ?_
      simp only [List.setIfInBounds_toArray, List.set_cons_zero, List.set_cons_succ]
      refine take #[true, true, true, true, false, false, false, false, false, false, false, false, false, false, false, false, false, false, false, false, false, false, false, false, false] (i := 3) (d := 19) (v := .pointer (some ⟨w.heap.size, 4, none⟩)) rfl rfl (by kernel_rfl) (by kernel_rfl) (fun _ _ _ h => h) (Or.inl ⟨by rfl, by intro w hSw; go_simp⟩) hS ?_
      simp only [List.setIfInBounds_toArray, List.set_cons_zero, List.set_cons_succ]
      refine take #[true, true, true, true, true, false, false, false, false, false, false, false, false, false, false, false, false, false, false, false, false, false, false, false, false] (i := 4) (d := 20) (v := v) rfl rfl (by kernel_rfl) (by kernel_rfl) (fun _ _ _ h => h) (Or.inl ⟨by rfl, by intro w hSw; go_simp⟩) hS ?_
      simp only [List.setIfInBounds_toArray, List.set_cons_zero, List.set_cons_succ]
      refine take #[true, true, true, true, true, true, false, false, false, false, false, false, false, false, false, false, false, false, false, false, false, false, false, false, false] (i := 5) (d := 21) (v := .slice (some ⟨b1, o1, none⟩) n c1) rfl rfl (by kernel_rfl) (by kernel_rfl) (fun _ _ _ h => h) (Or.inl ⟨by rfl, by intro w hSw; go_simp⟩) hS ?_
      simp only [List.setIfInBounds_toArray, List.set_cons_zero, List.set_cons_succ]
      refine take #[true, true, true, true, true, true, true, false, false, false, false, false, false, false, false, false, false, false, false, false, false, false, false, false, false] (i := 6) (d := 22) (v := .int .i64 k) rfl rfl (by kernel_rfl) (by kernel_rfl) (fun _ _ _ h => h) (Or.inl ⟨by rfl, by intro w hSw; go_simp⟩) hS ?_
      simp only [List.setIfInBounds_toArray, List.set_cons_zero, List.set_cons_succ]
      refine take #[true, true, true, true, true, true, true, true, false, false, false, false, false, false, false, false, false, false, false, false, false, false, false, false, false] (i := 7) (d := 23) (v := .pointer (some ⟨b1, o1 + k, none⟩)) rfl rfl (by kernel_rfl) (by kernel_rfl) (fun _ _ _ h => h) (Or.inl ⟨by rfl, by intro w hSw; go_simp⟩) hS ?_
      simp only [List.setIfInBounds_toArray, List.set_cons_zero, List.set_cons_succ]
      refine take #[true, true, true, true, true, true, true, true, true, false, false, false, false, false, false, false, false, false, false, false, false, false, false, false, false] (i := 8) (d := 24) (v := .string (Ps k)) rfl rfl (by kernel_rfl) (by kernel_rfl) (fun _ _ _ h => h) (Or.inl ⟨by rfl, by intro w hSw; go_simp⟩) hS ?_
      simp only [List.setIfInBounds_toArray, List.set_cons_zero, List.set_cons_succ]
      refine take #[true, true, true, true, true, true, true, true, true, true, false, false, false, false, false, false, false, false, false, false, false, false, false, false, false] (i := 9) (d := 25) (v := .slice (some ⟨b2, o2, none⟩) n c2) rfl rfl (by kernel_rfl) (by kernel_rfl) (fun _ _ _ h => h) (Or.inl ⟨by rfl, by intro w hSw; go_simp⟩) hS ?_
      simp only [List.setIfInBounds_toArray, List.set_cons_zero, List.set_cons_succ]
      refine take #[true, true, true, true, true, true, true, true, true, true, true, false, false, false, false, false, false, false, false, false, false, false, false, false, false] (i := 10) (d := 26) (v := .int .i64 k) rfl rfl (by kernel_rfl) (by kernel_rfl) (fun _ _ _ h => h) (Or.inl ⟨by rfl, by intro w hSw; go_simp⟩) hS ?_
      simp only [List.setIfInBounds_toArray, List.set_cons_zero, List.set_cons_succ]
      refine take #[true, true, true, true, true, true, true, true, true, true, true, true, false, false, false, false, false, false, false, false, false, false, false, false, false] (i := 11) (d := 27) (v := .pointer (some ⟨b2, o2 + k, none⟩)) rfl rfl (by kernel_rfl) (by kernel_rfl) (fun _ _ _ h => h) (Or.inl ⟨by rfl, by intro w hSw; go_simp⟩) hS ?_
      simp only [List.setIfInBounds_toArray, List.set_cons_zero, List.set_cons_succ]
      refine take #[true, true, true, true, true, true, true, true, true, true, true, true, true, false, false, false, false, false, false, false, false, false, false, false, false] (i := 12) (d := 28) (v := .string (Ks k)) rfl rfl (by kernel_rfl) (by kernel_rfl) (fun _ _ _ h => h) (Or.inl ⟨by rfl, by intro w hSw; go_simp⟩) hS ?_
      simp only [List.setIfInBounds_toArray, List.set_cons_zero, List.set_cons_succ]
      refine take #[true, true, true, true, true, true, true, true, true, true, true, true, true, true, false, false, false, false, false, false, false, false, false, false, false] (i := 13) (d := 29) (v := .agg #[.string (Ps k), .string (Ks k)]) rfl rfl (by kernel_rfl) (by kernel_rfl) (fun _ _ _ h => h) (Or.inl ⟨by rfl, by intro w hSw; go_simp⟩) hS ?_
      simp only [List.setIfInBounds_toArray, List.set_cons_zero, List.set_cons_succ]
      refine take #[true, true, true, true, true, true, true, true, true, true, true, true, true, true, true, false, false, false, false, false, false, false, false, false, false] (i := 14) (d := 30) (v := .slice (some ⟨b3, o3, none⟩) n c3) rfl rfl (by kernel_rfl) (by kernel_rfl) (fun _ _ _ h => h) (Or.inl ⟨by rfl, by intro w hSw; go_simp⟩) hS ?_
      simp only [List.setIfInBounds_toArray, List.set_cons_zero, List.set_cons_succ]
      refine take #[true, true, true, true, true, true, true, true, true, true, true, true, true, true, true, true, false, false, false, false, false, false, false, false, false] (i := 15) (d := 31) (v := .int .i64 k) rfl rfl (by kernel_rfl) (by kernel_rfl) (fun _ _ _ h => h) (Or.inl ⟨by rfl, by intro w hSw; go_simp⟩) hS ?_
      simp only [List.setIfInBounds_toArray, List.set_cons_zero, List.set_cons_succ]
      refine take #[true, true, true, true, true, true, true, true, true, true, true, true, true, true, true, true, true, false, false, false, false, false, false, false, false] (i := 16) (d := 32) (v := .pointer (some ⟨b3, o3 + k, none⟩)) rfl rfl (by kernel_rfl) (by kernel_rfl) (fun _ _ _ h => h) (Or.inl ⟨by rfl, by intro w hSw; go_simp⟩) hS ?_
      simp only [List.setIfInBounds_toArray, List.set_cons_zero, List.set_cons_succ]
      refine take #[true, true, true, true, true, true, true, true, true, true, true, true, true, true, true, true, true, true, false, false, false, false, false, false, false] (i := 17) (d := 33) (v := .int .i64 (qs k)) rfl rfl (by kernel_rfl) (by kernel_rfl) (fun _ _ _ h => h) (Or.inl ⟨by rfl, by intro w hSw; go_simp⟩) hS ?_
      simp only [List.setIfInBounds_toArray, List.set_cons_zero, List.set_cons_succ]
      refine one #[true, true, true, true, true, true, true, true, true, true, true, true, true, true, true, true, true, true, true, false, false, false, false, false, false] (i := 18) rfl (by kernel_rfl) (by kernel_rfl) (fun K hK => ?_)
      go_simp
      refine (hdec.out _ _).mono ?_
      rintro e x1 ⟨rfl, o, hx1⟩
      have F1 : Fill w n Ps Ks qs k v x1 := by rw [hx1]; exact hF.drew.alloc o
      have hS1 : (fun w' => w'.cell? ⟨w.heap.size, 4, none⟩ = some v ∧ w'.cell? ⟨b1, o1 + k, none⟩ = some (.string (Ps k)) ∧ w'.cell? ⟨b2, o2 + k, none⟩ = some (.string (Ks k)) ∧ w'.cell? ⟨b3, o3 + k, none⟩ = some (.int .i64 (qs k))) x1 := by rw [hx1]; exact ⟨cell_alloc cv, cell_alloc cp, cell_alloc ck, cell_alloc cq⟩
      clear hx1
      go_wp2_with fail
      refine hK.out _ _ (fun _ => hS1) ?_
      clear hK K
      try simp only [Act.put, List.setIfInBounds_toArray, List.set_cons_zero, List.set_cons_succ]
      refine take #[true, true, true, true, true, true, true, true, true, true, true, true, true, true, true, true, true, true, true, true, false, false, false, false, false] (i := 19) (d := 35) (v := .agg #[.string (Ps k), .string (Ks k), .int .i64 (qs k), .pointer none, .int .i32 0, .int .i64 0, .pointer none, .int .i32 0, .int .i64 0, .pointer none, .int .i32 0]) rfl rfl (by kernel_rfl) (by kernel_rfl) (fun _ _ _ h => h) (Or.inl ⟨by rfl, by intro w hSw; go_simp⟩) hS1 ?_
      simp only [List.setIfInBounds_toArray, List.set_cons_zero, List.set_cons_succ]
      refine one #[true, true, true, true, true, true, true, true, true, true, true, true, true, true, true, true, true, true, true, true, true, false, false, false, false] (i := 20) rfl (by kernel_rfl) (by kernel_rfl) (fun K hK => ?_)
      go_simp
      generalize hx2 : x1.alloc (.cells #[.string (Ps k), .string (Ks k), .int .i64 (qs k), .pointer none, .int .i32 0, .int .i64 0, .pointer none, .int .i32 0, .int .i64 0, .pointer none, .int .i32 0] 51) = x2
      have F2 : Fill w n Ps Ks qs k v x2 := by rw [← hx2]; exact F1.alloc _
      have hS2 : (fun w' => w'.cell? ⟨w.heap.size, 4, none⟩ = some v ∧ w'.cell? ⟨b1, o1 + k, none⟩ = some (.string (Ps k)) ∧ w'.cell? ⟨b2, o2 + k, none⟩ = some (.string (Ks k)) ∧ w'.cell? ⟨b3, o3 + k, none⟩ = some (.int .i64 (qs k))) x2 := by rw [← hx2]; exact ⟨cell_alloc hS1.1, cell_alloc hS1.2.1, cell_alloc hS1.2.2.1, cell_alloc hS1.2.2.2⟩
      have hb2 : x2.heap[x1.heap.size]? = some (.cells #[.string (Ps k), .string (Ks k), .int .i64 (qs k), .pointer none, .int .i32 0, .int .i64 0, .pointer none, .int .i32 0, .int .i64 0, .pointer none, .int .i32 0] 51 (0, 0)) := by rw [← hx2]; exact heap_alloc_new x1 _
      have hbase : w.heap.size + 1 ≤ x2.heap.size := F2.lt
      clear hx2
      refine hK.out _ _ (fun _ => hS2) ?_
      clear hK K F1 hS1
      try simp only [Act.put, List.setIfInBounds_toArray, List.set_cons_zero, List.set_cons_succ]
      refine one #[true, true, true, true, true, true, true, true, true, true, true, true, true, true, true, true, true, true, true, true, true, true, false, false, false] (i := 21) rfl (by kernel_rfl) (by kernel_rfl) (fun K hK => ?_)
      refine step_append_lies _ (by rfl) (.tmp 20) (.tmp 36) 37 (by rfl) (w.heap.size + 1) 51 i0 _ 11 104 Try.underlying37 hi0 hz0 hz1 hz2 rfl (by omega) v k (prow Ps Ks qs k) (by rfl) F2.own ⟨x1.heap.size, 0, none⟩ 1 1 (pcells (Ps k) (Ks k) (qs k)) (by rfl) (by rfl) (World.news_of_block hb2) (by simp [pcells, Value.oneCell']) (by omega) hmx hby hbase x2.heap.size rfl ?_
      intro g cap w1 own1 grow hat hlt1
      have far : ∀ b, b < w.heap.size + 1 → some b ≠ v.ownBlock := own_far F2.own
      have hl1 := World.block_lt_of_cell? x2 _ hS2.1
      have hl2 := World.block_lt_of_cell? x2 _ hS2.2.1
      have hl3 := World.block_lt_of_cell? x2 _ hS2.2.2.1
      have hl4 := World.block_lt_of_cell? x2 _ hS2.2.2.2
      have hS3 : (fun w' => w'.cell? ⟨w.heap.size, 4, none⟩ = some v ∧ w'.cell? ⟨b1, o1 + k, none⟩ = some (.string (Ps k)) ∧ w'.cell? ⟨b2, o2 + k, none⟩ = some (.string (Ks k)) ∧ w'.cell? ⟨b3, o3 + k, none⟩ = some (.int .i64 (qs k))) w1 := ⟨by rw [grow.cell_far _ hl1 (far _ (by simp))]; exact hS2.1, by rw [grow.cell_far _ hl2 (far _ (Nat.lt_succ_of_lt q1))]; exact hS2.2.1, by rw [grow.cell_far _ hl3 (far _ (Nat.lt_succ_of_lt q2))]; exact hS2.2.2.1, by rw [grow.cell_far _ hl4 (far _ (Nat.lt_succ_of_lt q3))]; exact hS2.2.2.2⟩
      have G : Fill w n Ps Ks qs (k + 1) (.slice (some ⟨g, 0, none⟩) (k + 1) cap) (w1.setCell ⟨w.heap.size, 4, none⟩ (.slice (some ⟨g, 0, none⟩) (k + 1) cap)) := F2.next own1 grow hS3.1
      have fz : w1.frozen? ⟨w.heap.size, 4, none⟩ = false := by rw [grow.frozen_far _ hl1 (far _ (by simp))]; exact F2.free
      have cz := hS3.1
      refine hK.out _ _ (fun _ => hS3) ?_
      clear hK K hS hS2 hF F2 far hl1 hl2 hl3 hl4 own1 grow hat hb2 cv cp ck cq
      try simp only [Act.put, List.setIfInBounds_toArray, List.set_cons_zero, List.set_cons_succ]
      refine one #[true, true, true, true, true, true, true, true, true, true, true, true, true, true, true, true, true, true, true, true, true, true, true, false, false] (i := 22) rfl (by kernel_rfl) (by kernel_rfl) (fun K hK => ?_)
      go_simp
      refine hK.out _ _ (fun h => absurd h (by omega)) ?_
      clear hK K
      try simp only [Act.put, List.setIfInBounds_toArray, List.set_cons_zero, List.set_cons_succ]
      refine one #[true, true, true, true, true, true, true, true, true, true, true, true, true, true, true, true, true, true, true, true, true, true, true, true, false] (i := 23) rfl (by kernel_rfl) (by kernel_rfl) (fun K hK => ?_)
      go_simp
      refine hK.out _ _ (fun h => absurd h (by omega)) ?_
      clear hK K
      try simp only [Act.put, List.setIfInBounds_toArray, List.set_cons_zero, List.set_cons_succ]
      refine one #[true, true, true, true, true, true, true, true, true, true, true, true, true, true, true, true, true, true, true, true, true, true, true, true, true] (i := 24) rfl (by kernel_rfl) (by kernel_rfl) (fun K hK => ?_)
      go_simp
      refine hK.out _ _ (fun h => absurd h (by omega)) ?_
      clear hK K
      try simp only [Act.put, List.setIfInBounds_toArray, List.set_cons_zero, List.set_cons_succ]
      refine wpAnyN_done (by kernel_rfl) ?_ _
      go_wp2
      go_roundw
      case rel => exact ⟨k + 1, by omega, by go_num, _, G⟩
      case measure => simp [intOf]; omega
    · obtain rfl : k = n := by omega
      go_wp2
      go_ret
      exact ⟨rfl, v, hF⟩
end Go.Proofs.Qxb6612206a.Pos
