/-
  THE WALKS, part A: comparing strings and keys.
-/
import Derived.Test.Qxb6612206aRows
import Derived.Test.Qxb6612206aKeys
import Derived.WalkKit
import Derived.WalkLawsBesides
import Derived.BigQuiet
import Derived.Deep.QuietTactic
import Derived.Deep.RegionHeld3
import Derived.Deep.DrawnRows
import Derived.Below
namespace Go.Proofs.Qxb6612206a.Pos
open Go.RowKit
set_option linter.unusedVariables false

theorem ret_int {a b : Int} (h : a = b) : Ending.returned (.int .i64 a) = .returned (.int .i64 b) := by rw [h]

theorem isNaN_s (x : ByteArray) (w : World) : Calls Try.prog 22 #[.string x] w fun e w' => e = .returned (.bool false) ∧ w' = w := by
  go_enter Try.func22, Try.ntmps22
  go_wp2
  go_ret
  exact ⟨by simp, rfl⟩
theorem isNaN_p (x : ByteArray) (w : World) : Calls Try.prog 23 #[.string x] w fun e w' => e = .returned (.bool false) ∧ w' = w := by
  go_enter Try.func23, Try.ntmps23
  go_wp2
  go_ret
  exact ⟨by simp, rfl⟩

theorem compare_s (x y : ByteArray) (w : World) : Calls Try.prog 20 #[.string x, .string y] w fun e w' => e = .returned (.int .i64 (cmp1 x.toList y.toList)) ∧ w' = w := by
  by_cases h : Op.bytesLess x.toList y.toList = true
  · have hc : cmp1 x.toList y.toList = -1 := by unfold cmp1; rw [if_pos h]
    rw [hc]; clear hc
    go_enter Try.func20, Try.ntmps20
    go_wp2_with (go_at_call 22; refine (isNaN_s _ _).mono ?_; rintro e w' ⟨rfl, rfl⟩)
    go_ret
    exact ⟨rfl, rfl⟩
  · by_cases e : x.toList = y.toList
    · have hc : cmp1 x.toList y.toList = 0 := by unfold cmp1; rw [if_neg h, if_pos e]
      have he : (x.toList == y.toList) = true := by simp [e]
      have h' : Op.bytesLess x.toList y.toList = false := by simpa using h
      rw [hc]; clear hc e h
      go_enter Try.func20, Try.ntmps20
      go_wp2_with (go_at_call 22; refine (isNaN_s _ _).mono ?_; rintro e w' ⟨rfl, rfl⟩)
      go_ret
      exact ⟨rfl, rfl⟩
    · have hc : cmp1 x.toList y.toList = 1 := by unfold cmp1; rw [if_neg h, if_neg e]
      have he : (x.toList == y.toList) = false := by simp [e]
      have h' : Op.bytesLess x.toList y.toList = false := by simpa using h
      rw [hc]; clear hc e h
      go_enter Try.func20, Try.ntmps20
      go_wp2_with (go_at_call 22; refine (isNaN_s _ _).mono ?_; rintro e w' ⟨rfl, rfl⟩)
      go_ret
      exact ⟨rfl, rfl⟩

theorem compare_p (x y : ByteArray) (w : World) : Calls Try.prog 21 #[.string x, .string y] w fun e w' => e = .returned (.int .i64 (cmp1 x.toList y.toList)) ∧ w' = w := by
  by_cases h : Op.bytesLess x.toList y.toList = true
  · have hc : cmp1 x.toList y.toList = -1 := by unfold cmp1; rw [if_pos h]
    rw [hc]; clear hc
    go_enter Try.func21, Try.ntmps21
    go_wp2_with (go_at_call 23; refine (isNaN_p _ _).mono ?_; rintro e w' ⟨rfl, rfl⟩)
    go_ret
    exact ⟨rfl, rfl⟩
  · by_cases e : x.toList = y.toList
    · have hc : cmp1 x.toList y.toList = 0 := by unfold cmp1; rw [if_neg h, if_pos e]
      have he : (x.toList == y.toList) = true := by simp [e]
      have h' : Op.bytesLess x.toList y.toList = false := by simpa using h
      rw [hc]; clear hc e h
      go_enter Try.func21, Try.ntmps21
      go_wp2_with (go_at_call 23; refine (isNaN_p _ _).mono ?_; rintro e w' ⟨rfl, rfl⟩)
      go_ret
      exact ⟨rfl, rfl⟩
    · have hc : cmp1 x.toList y.toList = 1 := by unfold cmp1; rw [if_neg h, if_neg e]
      have he : (x.toList == y.toList) = false := by simp [e]
      have h' : Op.bytesLess x.toList y.toList = false := by simpa using h
      rw [hc]; clear hc e h
      go_enter Try.func21, Try.ntmps21
      go_wp2_with (go_at_call 23; refine (isNaN_p _ _).mono ?_; rintro e w' ⟨rfl, rfl⟩)
      go_ret
      exact ⟨rfl, rfl⟩

/-- cmp.Or at two ints: the first that is not zero, else zero. -/
theorem or_any (g : Nat) (x y : Int) (w : World) (c0 : w.cell? ⟨g, 0, none⟩ = some (.int .i64 x)) (c1 : w.cell? ⟨g, 1, none⟩ = some (.int .i64 y)) :
    Calls Try.prog 19 #[.slice (some ⟨g, 0, none⟩) 2 2] w fun e w' => e = .returned (.int .i64 (if x = 0 then y else x)) ∧ w' = w := by
  by_cases hx : x = 0
  · subst hx
    rw [if_pos rfl]
    by_cases hy : y = 0
    · subst hy
      go_enter Try.func19, Try.ntmps19
      go_wp2
      refine wp_loop_rounds 3 ?_
      rw [rounds_succ]
      go_wp2
      rw [rounds_succ]
      go_wp2
      rw [rounds_succ]
      go_wp2
      go_ret
      exact ⟨rfl, rfl⟩
    · have hb : (y != 0) = true := by simp [hy]
      go_enter Try.func19, Try.ntmps19
      go_wp2
      refine wp_loop_rounds 2 ?_
      rw [rounds_succ]
      go_wp2
      rw [rounds_succ]
      go_wp2
      go_ret
      exact ⟨rfl, rfl⟩
  · rw [if_neg hx]
    have hb : (x != 0) = true := by simp [hx]
    go_enter Try.func19, Try.ntmps19
    go_wp2
    refine wp_loop_rounds 1 ?_
    rw [rounds_succ]
    go_wp2
    go_ret
    exact ⟨rfl, rfl⟩

/-- A world that has grown behind its first blocks, of which nothing below H has turned. -/
structure Boxes (H : Nat) (w w' : World) : Prop where
  bel : Below w.heap.size w w'
  lt : H ≤ w'.heap.size
  ge : w.heap.size ≤ H
theorem Boxes.alloc {H : Nat} {w w' : World} (h : Boxes H w w') (o : Obj) : Boxes H w (w'.alloc o) := ⟨h.bel.alloc (by have := h.lt; have := h.ge; omega) o, by have := h.lt; simp; omega, h.ge⟩
theorem Boxes.drew {H : Nat} {w w' : World} (h : Boxes H w w') : Boxes H w w'.drew := ⟨h.bel.drew, h.lt, h.ge⟩
theorem Boxes.start2 (w : World) (a b : Obj) : Boxes (w.heap.size + 2) w ((w.alloc a).alloc b) := ⟨((Below.refl _ _).alloc (Nat.le_refl _) _).alloc (by simp) _, by simp, by omega⟩
theorem cell_alloc {w : World} {a : Addr} {v : Value} {o : Obj} (h : w.cell? a = some v) : (w.alloc o).cell? a = some v := by
  rw [World.cell?_alloc_lt _ _ _ (World.block_lt_of_cell? w a h)]; exact h


theorem cmp2_if (p1 k1 p2 k2 : List UInt8) : (if cmp1 p1 p2 = 0 then cmp1 k1 k2 else cmp1 p1 p2) = cmp2 p1 k1 p2 k2 := rfl

set_option maxRecDepth 100000 in
set_option maxHeartbeats 2000000 in
theorem comparePos_any (p1 k1 p2 k2 : ByteArray) (w : World) : Calls Try.prog 18 #[.agg #[.string p1, .string k1], .agg #[.string p2, .string k2]] w fun e w' =>
    e = .returned (.int .i64 (cmp2 p1.toList k1.toList p2.toList k2.toList)) ∧ Below w.heap.size w w' := by
  rw [← cmp2_if]
  obtain ⟨x, hx⟩ : ∃ x, cmp1 p1.toList p2.toList = x := ⟨_, rfl⟩
  obtain ⟨y, hy⟩ : ∃ y, cmp1 k1.toList k2.toList = y := ⟨_, rfl⟩
  have hs : Hid (∀ w, Calls Try.prog 20 #[.string p1, .string p2] w fun e w' => e = .returned (.int .i64 x) ∧ w' = w) := fun w => by rw [← hx]; exact compare_s p1 p2 w
  have hp : Hid (∀ w, Calls Try.prog 21 #[.string k1, .string k2] w fun e w' => e = .returned (.int .i64 y) ∧ w' = w) := fun w => by rw [← hy]; exact compare_p k1 k2 w
  rw [hx, hy]
  clear hx hy
  obtain ⟨z, hz⟩ : ∃ z, (if x = 0 then y else x) = z := ⟨_, rfl⟩
  have ho : Hid (∀ (g : Nat) (w : World), w.cell? ⟨g, 0, none⟩ = some (.int .i64 x) → w.cell? ⟨g, 1, none⟩ = some (.int .i64 y) → Calls Try.prog 19 #[.slice (some ⟨g, 0, none⟩) 2 2] w fun e w' => e = .returned (.int .i64 z) ∧ w' = w) := fun g w h0 h1 => by rw [← hz]; exact or_any g x y w h0 h1
  rw [hz]
  clear hz
  go_enter Try.func18, Try.ntmps18
  go_wp2
  obtain ⟨W, hW⟩ : ∃ W, W = ((w.alloc (.cells #[.string p1, .string k1] 45)).alloc (.cells #[.string p2, .string k2] 45)) := ⟨_, rfl⟩
  have s0 : Boxes (w.heap.size + 2) w W := by rw [hW]; exact Boxes.start2 _ _ _
  have a0 : W.cell? ⟨w.heap.size, 0, none⟩ = some (.string p1) := by rw [hW]; simp
  have a1 : W.cell? ⟨w.heap.size, 1, none⟩ = some (.string k1) := by rw [hW]; simp
  have b0 : W.cell? ⟨w.heap.size + 1, 0, none⟩ = some (.string p2) := by rw [hW]; simp
  have b1 : W.cell? ⟨w.heap.size + 1, 1, none⟩ = some (.string k2) := by rw [hW]; simp
  rw [← hW]
  clear hW
  go_region_held3 (fun w' => Boxes (w.heap.size + 2) w w' ∧ w'.cell? ⟨w.heap.size, 0, none⟩ = some (.string p1) ∧ w'.cell? ⟨w.heap.size, 1, none⟩ = some (.string k1) ∧ w'.cell? ⟨w.heap.size + 1, 0, none⟩ = some (.string p2) ∧ w'.cell? ⟨w.heap.size + 1, 1, none⟩ = some (.string k2))
    ((go_split_ands; (repeat' apply And.intro) <;> first | assumption | ((repeat (first | assumption | apply Boxes.drew | apply Boxes.alloc)); done) | (apply cell_alloc; assumption) | (simp; done)))
    (first | (go_at_call 20; refine (hs.out _).mono ?_; rintro e w' ⟨rfl, rfl⟩) | (go_at_call 21; refine (hp.out _).mono ?_; rintro e w' ⟨rfl, rfl⟩) | (go_at_call 19; refine (ho.out _ _ (by simp) (by simp)).mono ?_; rintro e w' ⟨rfl, rfl⟩))
  all_goals
    rename_i hHeld
    have hfin := hHeld.1.bel
    go_wp2
    go_ret
    exact ⟨rfl, hfin⟩
end Go.Proofs.Qxb6612206a.Pos
