/-
  THE WALKS under 'FnCloseTwiceIsCloseAtTheShallower', part B: the copy of the blocks; the reader that is made; close; what a reader holds open.
-/
import Derived.Test.Qxb6612179aWalksA
import Derived.Lib.SliceRun
namespace Go.Proofs.Qxb6612179a.Cl
open Go.RowKit
set_option linter.unusedVariables false

theorem info36 : (Try.prog.info? 36).map (fun i => (i.zero, i.size, i.bytes)) = some (some (.agg #[.int .u8 0, .int .i64 0, .int .i64 0, .bool false, .string ⟨#[]⟩, .int .i64 0]), 6, 56) := by kernel_rfl
theorem info34 : (Try.prog.info? 34).map (fun i => (i.zero, i.size, i.bytes)) = some (some (.agg #[.int .u8 0, .int .i64 0, .int .i64 0, .bool false, .string ⟨#[]⟩, .int .i64 0]), 6, 56) := by kernel_rfl

/-- The cells that 'make' lays. -/
def made (n : Nat) : Array Value := madeCells (Value.agg #[.int .u8 0, .int .i64 0, .int .i64 0, .bool false, .string ⟨#[]⟩, .int .i64 0]).cells (n * 6)
theorem made_size (n : Nat) : (made n).size = n * 6 := size_madeCells _ _

theorem make36 (n : Nat) (hn : n ≤ 1048576) (w : World) : (Instr.makeSlice 22 (.int .i64 (n : Int)) (.int .i64 (n : Int))).run Try.prog w = .ok (.slice (some ⟨w.heap.size, 0, none⟩) n n) (w.alloc (.cells (made n) 36)) := by
  obtain ⟨i0, hi, hz0, hz1, hz2⟩ := info_parts info36
  have := run_make (P := Try.prog) w 22 36 i0 _ Try.underlying22 hi hz0 .i64 .i64 n n (by omega) (by omega) (by rw [hz2]; omega) (by omega)
  rw [hz1] at this
  simpa [made] using this
theorem make34 (n : Nat) (hn : n ≤ 1048576) (w : World) : (Instr.makeSlice 29 (.int .i64 (n : Int)) (.int .i64 (n : Int))).run Try.prog w = .ok (.slice (some ⟨w.heap.size, 0, none⟩) n n) (w.alloc (.cells (made n) 34)) := by
  obtain ⟨i0, hi, hz0, hz1, hz2⟩ := info_parts info34
  have := run_make (P := Try.prog) w 29 34 i0 _ Try.underlying29 hi hz0 .i64 .i64 n n (by omega) (by omega) (by rw [hz2]; omega) (by omega)
  rw [hz1] at this
  simpa [made] using this

theorem there_made (w : World) (n t : Nat) : (w.alloc (.cells (made n) t)).there w.heap.size 0 (n * 6) := by
  intro j hj
  have := made_size n
  simp [this, hj]

theorem size36 (x : Blk) : (Try.prog.info? 36).map (·.size) = some x.cells.length := by kernel_rfl
theorem size34 (x : Blk) : (Try.prog.info? 34).map (·.size) = some x.cells.length := by kernel_rfl
theorem size36a (x : Blk) : (Try.prog.info? 36).map (·.size) = some x.cells.toArray.size := by kernel_rfl
theorem size34a (x : Blk) : (Try.prog.info? 34).map (·.size) = some x.cells.toArray.size := by kernel_rfl
theorem cells_one (x : Blk) : x.cells.toArray.all (·.oneCell') = true := by simp [Blk.cells, Value.oneCell']
theorem cells_size (x : Blk) : x.cells.toArray.size = 6 := rfl
theorem cells_length (x : Blk) : x.cells.length = 6 := rfl

theorem there_sub {w : World} {b n : Nat} (h : w.there b 0 (n * 6)) {k : Nat} (hk : k < n) : w.there b (k * 6) 6 := fun j hj => by
  have := h (k * 6 + j) (by omega)
  simpa [Nat.add_assoc] using this

/-- One block more is laid behind k of them. -/
theorem rows_step {w : World} {g n k : Nat} {X : Nat → Blk} (hr : RowsAt w g 0 k X) (ht : w.there g 0 (n * 6)) (hk : k < n) : RowsAt (w.setCells g (k * 6) (X k).cells) g 0 (k + 1) X := by
  intro i hi
  rw [Nat.zero_add]
  by_cases e : i = k
  · subst e
    exact World.rangeAt_setCells_same w g (i * 6) _ (there_sub ht hk)
  · refine World.rangeAt_setCells_apart (by simpa using hr i (by omega)) g (k * 6) _ (.inr (.inl ?_))
    rw [cells_length]; omega

theorem RowsAt.below {B : Nat} {w w' : World} {b o n : Nat} {X : Nat → Blk} (h : RowsAt w b o n X) (hb : Below B w w') (hlt : b < B) : RowsAt w' b o n X := fun i hi j v hv => by
  rw [hb.cell hlt]; exact h i hi j v hv

theorem Below.setCells {B : Nat} {a : World} {g : Nat} (hg : B ≤ g) : ∀ (vs : List Value) (o : Nat) (w : World), Below B a w → Below B a (w.setCells g o vs)
  | [], _, _, h => h
  | v :: r, o, w, h => by
    rw [World.setCells]
    exact Below.setCells hg r (o + 1) _ (h.setCell hg v)

theorem size_setCells (g : Nat) : ∀ (vs : List Value) (o : Nat) (w : World), (w.setCells g o vs).heap.size = w.heap.size
  | [], _, _ => rfl
  | v :: r, o, w => by
    rw [World.setCells, size_setCells g r (o + 1)]
    simp [World.setCell]

set_option maxHeartbeats 1000000 in
theorem clone_some (a : Addr) (b o n c : Nat) (X : Nat → Blk) (w : World) (ha : 0 < n → a = ⟨b, o, none⟩) (h : RowsAt w b o n X) (hb : 0 < n → b < w.heap.size) (hn : n ≤ 1048576) :
    Calls Try.prog 8 #[.slice (some a) n c] w fun e w' => e = .returned (.slice (some ⟨w.heap.size, 0, none⟩) n n) ∧ RowsAt w' w.heap.size 0 n X ∧ Below w.heap.size w w' ∧ w.heap.size < w'.heap.size := by
  have hmk := make36 n hn
  have hnil := fun (w : World) (a : Option Addr) (n c : Nat) => Lib.run_eql_slice_nil (P := Try.prog) w 22 36 a n c 0 0 Try.underlying22
  have HA : Hid (0 < n → a = ⟨b, o, none⟩) := ha
  clear ha
  go_enter Try.func8, Try.ntmps8
  go_wp2
  go_loopw [4] (fun i wr => ∃ k : Nat, k ≤ n ∧ i = .int .i64 k ∧ RowsAt wr w.heap.size 0 k X ∧ wr.there w.heap.size 0 (n * 6) ∧ Below w.heap.size w wr ∧ w.heap.size < wr.heap.size) (fun i _ => n - (intOf i).toNat)
  case atStart => exact ⟨0, Nat.zero_le _, rfl, fun i hi => absurd hi (Nat.not_lt_zero _), there_made w n 36, (Below.refl _ _).alloc (Nat.le_refl _) _, by simp⟩
  case round =>
    obtain ⟨k, hk, rfl, hr, ht, hbl, hsz⟩ := hrel
    by_cases hlt : k < n
    · obtain rfl := HA.out (by omega)
      have hX' := (h.below hbl (hb (by omega))) k hlt
      have ht' := there_sub ht hlt
      go_wp2_with (first | (refine wpList_load_mid (by rfl) 36 (.tmp 20) (by rfl) b (o + k * 6) (by simp [Act.eval]) (X k).cells _ (by exact hX') Try.underlying36 rfl (size36 _) ?_) | (refine wpList_store_mid (by rfl) 36 (.tmp 22) (.tmp 21) (by rfl) w.heap.size (k * 6) (X k).cells.toArray (by simp [Act.eval]) (by simp [Act.eval]) (by rw [cells_size]; exact ht') (size36a (X k)) (cells_one (X k)) ?_))
      go_roundw
      case rel => exact ⟨k + 1, by omega, by go_num, rows_step hr ht hlt, World.there_setCells ht _ _ _, Below.setCells (Nat.le_refl _) _ _ _ hbl, by rw [size_setCells]; exact hsz⟩
      case measure => simp [intOf]; omega
    · obtain rfl : k = n := by omega
      go_wp2
      go_ret
      exact ⟨rfl, hr, hbl, hsz⟩

theorem clone_nil (w : World) : Calls Try.prog 8 #[.slice none 0 0] w fun e w' => e = .returned (.slice none 0 0) ∧ w' = w := by
  have hnil := fun (w : World) (a : Option Addr) (n c : Nat) => Lib.run_eql_slice_nil (P := Try.prog) w 22 36 a n c 0 0 Try.underlying22
  go_enter Try.func8, Try.ntmps8
  go_wp2
  go_ret
  exact ⟨rfl, rfl⟩

/-- The six values of a block, written out. -/
def Blk.arr (x : Blk) : Array Value := #[.int .u8 x.kind, .int .i64 x.line, .int .i64 x.width, .bool x.filled, .string x.fence, .int .i64 x.html]
theorem arr_eq (x : Blk) : x.cells.toArray = x.arr := rfl

theorem newBlock_any (x : Blk) (w : World) :
    Calls Try.prog 14 #[.int .u8 x.kind, .int .i64 x.line, .int .i64 x.width, .bool x.filled, .string x.fence, .int .i64 x.html] w fun e w' => e = .returned (.agg x.cells.toArray) ∧ w' = w.alloc (.cells x.arr 34) := by
  go_enter Try.func14, Try.ntmps14
  go_wp2
  exact bodyPost_ret (v := .agg x.cells.toArray) (by simp [results, Try.results14, go_sem, arr_eq, Blk.arr]) rfl ⟨rfl, rfl⟩

/-- A reader lies in block R: it holds open the first d of the n blocks that lie in block g. -/
structure Rd (w : World) (R g d n : Nat) (X : Nat → Blk) : Prop where
  cell : w.cell? ⟨R, 0, none⟩ = some (.slice (some ⟨g, 0, none⟩) d n)
  free : w.frozen? ⟨R, 0, none⟩ = false
  rows : RowsAt w g 0 n X
  ne : g ≠ R
  lt : g < w.heap.size
  lt' : R < w.heap.size

theorem readerOpen_any (R g d n : Nat) (X : Nat → Blk) (w : World) (h : Rd w R g d n X) :
    Calls Try.prog 11 #[.pointer (some ⟨R, 0, none⟩)] w fun e w' => e = .returned (.slice (some ⟨g, 0, none⟩) d n) ∧ w' = w := by
  have hc := h.cell
  go_enter Try.func11, Try.ntmps11
  go_wp2
  go_ret
  exact ⟨rfl, rfl⟩

theorem close_any (R g d n k : Nat) (X : Nat → Blk) (w : World) (h : Rd w R g d n X) (hk : k ≤ d) (hd : d ≤ n) (hn : n ≤ 1048576) :
    Calls Try.prog 17 #[.pointer (some ⟨R, 0, none⟩), .int .i64 (k : Int)] w fun e w' => e = .returned (.tuple #[]) ∧ w' = w.setCell ⟨R, 0, none⟩ (.slice (some ⟨g, 0, none⟩) k n) := by
  have hc := h.cell
  have hf := h.free
  go_enter Try.func17, Try.ntmps17
  go_wp2
  go_end0
  exact ⟨rfl, rfl⟩

theorem zzclose_any (R g d n k : Nat) (X : Nat → Blk) (w : World) (h : Rd w R g d n X) (hk : k ≤ d) (hd : d ≤ n) (hn : n ≤ 1048576) :
    Calls Try.prog 10 #[.pointer (some ⟨R, 0, none⟩), .int .i64 (k : Int)] w fun e w' => e = .returned (.tuple #[]) ∧ w' = w.setCell ⟨R, 0, none⟩ (.slice (some ⟨g, 0, none⟩) k n) := by
  go_enter Try.func10, Try.ntmps10
  go_wp2_with (go_at_call 17; refine (close_any R g d n k X _ h hk hd hn).mono ?_; rintro e w' ⟨rfl, rfl⟩)
  go_end0
  exact ⟨rfl, rfl⟩
end Go.Proofs.Qxb6612179a.Cl
