/-
  THE WALKS under 'FnCloseTwiceIsCloseAtTheShallower', part C: the reader is made.
-/
import Derived.Test.Qxb6612179aWalksB
namespace Go.Proofs.Qxb6612179a.Cl
open Go.RowKit
set_option linter.unusedVariables false

theorem info43 : (Try.prog.info? 43).map (fun i => (i.zero, i.size, i.bytes)) = some (some (.agg #[.int .i64 0, .int .i64 0]), 2, 16) := by kernel_rfl
theorem make43 (w : World) : (Instr.makeSlice 41 (.int .i64 0) (.int .i64 0)).run Try.prog w = .ok (.slice (some ⟨w.heap.size, 0, none⟩) 0 0) (w.alloc (.cells #[] 43)) := by
  obtain ⟨i0, hi, hz0, hz1, hz2⟩ := info_parts info43
  have := run_make (P := Try.prog) w 41 43 i0 _ Try.underlying41 hi hz0 .i64 .i64 0 0 (by omega) (by omega) (by rw [hz2]; omega) (by omega)
  rw [hz1] at this
  have e : ∀ z, madeCells z 0 = #[] := fun z => Array.eq_empty_of_size_eq_zero (size_madeCells z 0)
  simpa [e] using this

theorem RowsAt.alloc {w : World} {b o n : Nat} {X : Nat → Blk} (h : RowsAt w b o n X) (ob : Obj) : RowsAt (w.alloc ob) b o n X := fun i hi => World.rangeAt_alloc (h i hi) ob

set_option maxHeartbeats 1000000 in
theorem newReader_any (a : Option Addr) (b o n c : Nat) (X : Nat → Blk) (w : World) (ha : 0 < n → a = some ⟨b, o, none⟩) (h : RowsAt w b o n X) (hb : 0 < n → b < w.heap.size) (hn : n ≤ 1048576) :
    Calls Try.prog 9 #[.slice a n c, .slice none 0 0, .slice none 0 0, .int .i64 0, .string { data := #[] }] w fun e w' => (∃ R, e = .returned (.pointer (some ⟨R, 0, none⟩)) ∧ Rd w' R w.heap.size n n X ∧ w.heap.size < R) ∧ Below w.heap.size w w' := by
  have hmk := make34 n hn
  have hmk2 := make43
  have HA : Hid (0 < n → a = some ⟨b, o, none⟩) := ha
  clear ha
  go_enter Try.func9, Try.ntmps9
  go_wp2
  go_loopw [12, 13] (fun i _ wr => ∃ k : Nat, k ≤ n ∧ i = .int .i64 k ∧ RowsAt wr w.heap.size 0 k X ∧ wr.there w.heap.size 0 (n * 6) ∧ Below w.heap.size w wr ∧ w.heap.size < wr.heap.size) (fun i _ _ => n - (intOf i).toNat)
  case atStart => exact ⟨0, Nat.zero_le _, rfl, fun i hi => absurd hi (Nat.not_lt_zero _), there_made w n 34, (Below.refl _ _).alloc (Nat.le_refl _) _, by simp⟩
  case round =>
    obtain ⟨k, hk, rfl, hr, ht, hbl, hsz⟩ := hrel
    by_cases hlt : k < n
    · obtain rfl := HA.out (by omega)
      have hX' := (h.below hbl (hb (by omega))) k hlt
      have c0 : wr.cell? ⟨b, o + k * 6, none⟩ = some (.int .u8 (X k).kind) := hX' 0 _ rfl
      have c1 : wr.cell? ⟨b, o + k * 6 + 1, none⟩ = some (.int .i64 (X k).line) := hX' 1 _ rfl
      have c2 : wr.cell? ⟨b, o + k * 6 + 2, none⟩ = some (.int .i64 (X k).width) := hX' 2 _ rfl
      have c3 : wr.cell? ⟨b, o + k * 6 + 3, none⟩ = some (.bool (X k).filled) := hX' 3 _ rfl
      have c4 : wr.cell? ⟨b, o + k * 6 + 4, none⟩ = some (.string (X k).fence) := hX' 4 _ rfl
      have c5 : wr.cell? ⟨b, o + k * 6 + 5, none⟩ = some (.int .i64 (X k).html) := hX' 5 _ rfl
      have ht2 : ∀ o1 o2, ((wr.alloc o1).alloc o2).there w.heap.size (k * 6) 6 := fun o1 o2 => World.there_alloc (World.there_alloc (there_sub ht hlt) _) _
      clear hX'
      go_wp2_with (first | (go_at_call 14; refine (newBlock_any (X k) _).mono ?_; rintro e w' ⟨rfl, rfl⟩) | (refine wpList_store_mid (by rfl) 34 (.tmp 44) (.tmp 43) (by rfl) w.heap.size (k * 6) (X k).cells.toArray (by simp [Act.eval]) (by simp [Act.eval]) (by rw [cells_size]; exact ht2 _ _) (size34a (X k)) (cells_one (X k)) ?_))
      go_roundw
      case rel =>
        refine ⟨k + 1, by omega, by go_num, ?_, ?_, ?_, ?_⟩
        · exact rows_step (RowsAt.alloc (RowsAt.alloc hr _) _) (World.there_alloc (World.there_alloc ht _) _) hlt
        · exact World.there_setCells (World.there_alloc (World.there_alloc ht _) _) _ _ _
        · exact Below.setCells (Nat.le_refl _) _ _ _ ((hbl.alloc (by omega) _).alloc (by simp; omega) _)
        · rw [size_setCells]; simp; omega
      case measure => simp [intOf]; omega
    · obtain rfl : k = n := by omega
      go_wp2
      refine wp_loop_rounds 1 ?_
      rw [rounds_succ]
      go_wp2
      go_ret
      refine ⟨⟨_, rfl, ⟨by simp, by simp, RowsAt.alloc (RowsAt.alloc hr _) _, by first | omega | (simp; omega), by first | omega | (simp; omega), by simp⟩, by first | omega | (simp; omega)⟩, (hbl.alloc (by omega) _).alloc (by simp; omega) _⟩
end Go.Proofs.Qxb6612179a.Cl
