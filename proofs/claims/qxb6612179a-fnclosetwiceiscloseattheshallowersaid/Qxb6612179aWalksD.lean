/-
  THE WALKS under 'FnCloseTwiceIsCloseAtTheShallower', part D: a block against itself.
-/
import Derived.Test.Qxb6612179aWalksC
import Derived.Deep.RegionHeld3
import Derived.Deep.DrawnRows
namespace Go.Proofs.Qxb6612179a.Cl
open Go.RowKit
set_option linter.unusedVariables false

theorem kind_any (x : Blk) (w : World) : Calls Try.prog 18 #[.agg x.arr] w fun e w' => e = .returned (.int .u8 x.kind) ∧ w' = w.alloc (.cells x.arr 34) := by
  unfold Blk.arr
  go_enter Try.func18, Try.ntmps18
  go_wp2
  go_ret
  exact ⟨rfl, rfl⟩
theorem line_any (x : Blk) (w : World) : Calls Try.prog 19 #[.agg x.arr] w fun e w' => e = .returned (.int .i64 x.line) ∧ w' = w.alloc (.cells x.arr 34) := by
  unfold Blk.arr
  go_enter Try.func19, Try.ntmps19
  go_wp2
  go_ret
  exact ⟨rfl, rfl⟩
theorem width_any (x : Blk) (w : World) : Calls Try.prog 20 #[.agg x.arr] w fun e w' => e = .returned (.int .i64 x.width) ∧ w' = w.alloc (.cells x.arr 34) := by
  unfold Blk.arr
  go_enter Try.func20, Try.ntmps20
  go_wp2
  go_ret
  exact ⟨rfl, rfl⟩
theorem filled_any (x : Blk) (w : World) : Calls Try.prog 21 #[.agg x.arr] w fun e w' => e = .returned (.bool x.filled) ∧ w' = w.alloc (.cells x.arr 34) := by
  unfold Blk.arr
  go_enter Try.func21, Try.ntmps21
  go_wp2
  go_ret
  exact ⟨rfl, rfl⟩
theorem fence_any (x : Blk) (w : World) : Calls Try.prog 22 #[.agg x.arr] w fun e w' => e = .returned (.string x.fence) ∧ w' = w.alloc (.cells x.arr 34) := by
  unfold Blk.arr
  go_enter Try.func22, Try.ntmps22
  go_wp2
  go_ret
  exact ⟨rfl, rfl⟩
theorem html_any (x : Blk) (w : World) : Calls Try.prog 23 #[.agg x.arr] w fun e w' => e = .returned (.int .i64 x.html) ∧ w' = w.alloc (.cells x.arr 34) := by
  unfold Blk.arr
  go_enter Try.func23, Try.ntmps23
  go_wp2
  go_ret
  exact ⟨rfl, rfl⟩

/-- The two boxes of sameBlock's own, at B and B + 1, in a world that has grown behind them. -/
structure Boxes (w : World) (w' : World) : Prop where
  bel : Below w.heap.size w w'
  lt : w.heap.size + 1 < w'.heap.size
theorem Boxes.alloc {w w' : World} (h : Boxes w w') (o : Obj) : Boxes w (w'.alloc o) := ⟨h.bel.alloc (by have := h.lt; omega) o, by have := h.lt; simp; omega⟩
theorem Boxes.drew {w w' : World} (h : Boxes w w') : Boxes w w'.drew := ⟨h.bel.drew, h.lt⟩
theorem Boxes.start (w : World) (a b : Obj) : Boxes w ((w.alloc a).alloc b) := ⟨((Below.refl _ _).alloc (Nat.le_refl _) _).alloc (by simp) _, by simp⟩

theorem cell_alloc {w : World} {a : Addr} {v : Value} {o : Obj} (h : w.cell? a = some v) : (w.alloc o).cell? a = some v := by
  rw [World.cell?_alloc_lt _ _ _ (World.block_lt_of_cell? w a h)]; exact h


/-- The same contracts, the new block a letter. -/
def Gets (f : Nat) (x : Blk) (v : Value) : Prop := ∀ w, Calls Try.prog f #[.agg #[.int .u8 x.kind, .int .i64 x.line, .int .i64 x.width, .bool x.filled, .string x.fence, .int .i64 x.html]] w fun e w' => e = .returned v ∧ ∃ o, w' = w.alloc o
theorem gets_of {f : Nat} {x : Blk} {v : Value} (h : ∀ w, Calls Try.prog f #[.agg x.arr] w fun e w' => e = .returned v ∧ w' = w.alloc (.cells x.arr 34)) : Gets f x v :=
  fun w => (h w).mono fun e w' ⟨he, hw⟩ => ⟨he, _, hw⟩

set_option maxRecDepth 100000 in
set_option maxHeartbeats 4000000 in
theorem same_any (x : Blk) (w : World) : Calls Try.prog 12 #[.agg x.arr, .agg x.arr] w fun e w' => e = .returned (.bool true) ∧ Below w.heap.size w w' := by
  have kk : Gets 18 x _ := gets_of (kind_any x)
  have kl : Gets 19 x _ := gets_of (line_any x)
  have kw : Gets 20 x _ := gets_of (width_any x)
  have kf : Gets 21 x _ := gets_of (filled_any x)
  have ke : Gets 22 x _ := gets_of (fence_any x)
  have kh : Gets 23 x _ := gets_of (html_any x)
  unfold Blk.arr
  go_enter Try.func12, Try.ntmps12
  go_wp2
  obtain ⟨W, hW⟩ : ∃ W, W = ((w.alloc (.cells x.arr 34)).alloc (.cells x.arr 36)) := ⟨_, rfl⟩
  have s0 : Boxes w W := by rw [hW]; exact Boxes.start _ _ _
  have a0 : W.cell? ⟨w.heap.size, 0, none⟩ = some (.int .u8 x.kind) := by rw [hW]; simp [Blk.arr]
  have a1 : W.cell? ⟨w.heap.size, 1, none⟩ = some (.int .i64 x.line) := by rw [hW]; simp [Blk.arr]
  have a2 : W.cell? ⟨w.heap.size, 2, none⟩ = some (.int .i64 x.width) := by rw [hW]; simp [Blk.arr]
  have a3 : W.cell? ⟨w.heap.size, 3, none⟩ = some (.bool x.filled) := by rw [hW]; simp [Blk.arr]
  have a4 : W.cell? ⟨w.heap.size, 4, none⟩ = some (.string x.fence) := by rw [hW]; simp [Blk.arr]
  have a5 : W.cell? ⟨w.heap.size, 5, none⟩ = some (.int .i64 x.html) := by rw [hW]; simp [Blk.arr]
  have b0 : W.cell? ⟨w.heap.size + 1, 0, none⟩ = some (.int .u8 x.kind) := by rw [hW]; simp [Blk.arr]
  have b1 : W.cell? ⟨w.heap.size + 1, 1, none⟩ = some (.int .i64 x.line) := by rw [hW]; simp [Blk.arr]
  have b2 : W.cell? ⟨w.heap.size + 1, 2, none⟩ = some (.int .i64 x.width) := by rw [hW]; simp [Blk.arr]
  have b3 : W.cell? ⟨w.heap.size + 1, 3, none⟩ = some (.bool x.filled) := by rw [hW]; simp [Blk.arr]
  have b4 : W.cell? ⟨w.heap.size + 1, 4, none⟩ = some (.string x.fence) := by rw [hW]; simp [Blk.arr]
  have b5 : W.cell? ⟨w.heap.size + 1, 5, none⟩ = some (.int .i64 x.html) := by rw [hW]; simp [Blk.arr]
  unfold Blk.arr at hW
  rw [← hW]
  obtain ⟨B, hB⟩ : ∃ B, w.heap.size = B := ⟨_, rfl⟩
  have HB : Hid (w.heap.size = B) := hB
  rw [hB] at a0 a1 a2 a3 a4 a5 b0 b1 b2 b3 b4 b5 ⊢
  clear hB hW
  go_region_held3 (fun w' => Boxes w w' ∧ w'.cell? ⟨B, 0, none⟩ = some (.int .u8 x.kind) ∧ w'.cell? ⟨B, 1, none⟩ = some (.int .i64 x.line) ∧ w'.cell? ⟨B, 2, none⟩ = some (.int .i64 x.width) ∧ w'.cell? ⟨B, 3, none⟩ = some (.bool x.filled) ∧ w'.cell? ⟨B, 4, none⟩ = some (.string x.fence) ∧ w'.cell? ⟨B, 5, none⟩ = some (.int .i64 x.html) ∧
      w'.cell? ⟨B + 1, 0, none⟩ = some (.int .u8 x.kind) ∧ w'.cell? ⟨B + 1, 1, none⟩ = some (.int .i64 x.line) ∧ w'.cell? ⟨B + 1, 2, none⟩ = some (.int .i64 x.width) ∧ w'.cell? ⟨B + 1, 3, none⟩ = some (.bool x.filled) ∧ w'.cell? ⟨B + 1, 4, none⟩ = some (.string x.fence) ∧ w'.cell? ⟨B + 1, 5, none⟩ = some (.int .i64 x.html))
    ((go_split_ands; (repeat' apply And.intro) <;> first | assumption | ((repeat (first | assumption | apply Boxes.drew | apply Boxes.alloc)); done) | (apply cell_alloc; assumption) | (simp; done)))
    (first | (go_at_call 18; refine (kk _).mono ?_; rintro e w' ⟨rfl, o, rfl⟩) | (go_at_call 19; refine (kl _).mono ?_; rintro e w' ⟨rfl, o, rfl⟩) | (go_at_call 20; refine (kw _).mono ?_; rintro e w' ⟨rfl, o, rfl⟩) | (go_at_call 21; refine (kf _).mono ?_; rintro e w' ⟨rfl, o, rfl⟩) | (go_at_call 22; refine (ke _).mono ?_; rintro e w' ⟨rfl, o, rfl⟩) | (go_at_call 23; refine (kh _).mono ?_; rintro e w' ⟨rfl, o, rfl⟩))
  go_wp2
  go_ret
  refine ⟨rfl, ?_⟩
  have hfin : ∀ W', Boxes w W' → Below w.heap.size w W' := fun _ h => h.bel
  apply hfin
  repeat (first | assumption | apply Boxes.drew | apply Boxes.alloc)
end Go.Proofs.Qxb6612179a.Cl
