/-
  THE WALKS under 'FnTrafficDifferenceOfReadingsIsWhatWasCounted': the two atomic methods, the exports, Traffic.
-/
import Derived.Test.Qxb6612175aRows
import Derived.WalkKit
import Derived.BigQuiet
import Derived.Deep.QuietTactic
import Derived.RowKit3
namespace Go.Proofs.Qxb6612175a.Tr
open Go.ChangeShapes Go.WideShapes Go.RowKit

theorem load_any (b o : Nat) (x : Int) (w : World) (h0 : w.cell? ⟨b, o, none⟩ = some (.int .u64 x)) :
    Calls Try.prog 19 #[.pointer (some ⟨b, o, none⟩)] w fun e w' => e = .returned (.int .u64 x) ∧ w' = w := by
  have hl := run_call_load (P := Try.prog) Try.func24 (by kernel_rfl) (by kernel_rfl) (by kernel_rfl) .u64 (by kernel_rfl) h0
  go_enter Try.func19, Try.ntmps19
  go_wp2
  go_ret
  exact ⟨rfl, rfl⟩

theorem add_any (b o : Nat) (x y s : Int) (hs : IntKind.u64.wrap (x + y) = s) (w : World) (h0 : w.cell? ⟨b, o, none⟩ = some (.int .u64 x)) (f0 : w.frozen? ⟨b, o, none⟩ = false) :
    Calls Try.prog 18 #[.pointer (some ⟨b, o, none⟩), .int .u64 y] w fun e w' => e = .returned (.int .u64 s) ∧ w' = w.setCell ⟨b, o, none⟩ (.int .u64 s) := by
  have hl := run_call_add (P := Try.prog) Try.func23 (by kernel_rfl) (by kernel_rfl) (by kernel_rfl) .u64 (by kernel_rfl) (s := s) (y := y) h0 f0 (by simp [go_sem, hs])
  clear hs
  go_enter Try.func18, Try.ntmps18
  go_wp2
  go_ret
  exact ⟨rfl, rfl⟩

/-- The transport that the law made: block B = the heap's old size; its two counters. -/
structure Inv (w0 : World) (B : Nat) (s r : Int) (w : World) : Prop where
  c14 : w.cell? ⟨B, 14, none⟩ = some (.int .u64 s)
  c15 : w.cell? ⟨B, 15, none⟩ = some (.int .u64 r)
  f14 : w.frozen? ⟨B, 14, none⟩ = false
  f15 : w.frozen? ⟨B, 15, none⟩ = false
  g : Grown w0 w

theorem new_any (w : World) : Calls Try.prog 5 #[] w fun e w' => e = .returned (.pointer (some ⟨w.heap.size, 0, none⟩)) ∧ Inv w w.heap.size 0 0 w' := by
  go_enter Try.func5, Try.ntmps5
  go_wp2
  go_ret
  exact ⟨rfl, by simp, by simp, by simp, by simp, Grown.alloc (Grown.refl _) _ _⟩

theorem sent_any (w0 : World) (B : Nat) (hB : w0.heap.size ≤ B) (s r n s' : Int) (hs : IntKind.u64.wrap (s + n) = s') (w : World) (h : Inv w0 B s r w) :
    Calls Try.prog 6 #[.pointer (some ⟨B, 0, none⟩), .int .u64 n] w fun e w' => e = .returned (.tuple #[]) ∧ Inv w0 B s' r w' := by
  obtain ⟨c14, c15, f14, f15, g⟩ := h
  have H : Hid (IntKind.u64.wrap (s + n) = s') := hs
  clear hs
  go_enter Try.func6, Try.ntmps6
  go_wp2_with (go_at_call 18; refine (add_any B 14 s n s' H.out _ c14 f14).mono ?_; rintro e w' ⟨rfl, rfl⟩)
  go_end0
  refine ⟨rfl, ?_, ?_, ?_, ?_, ?_⟩
  · simp [go_sem, c14]
  · simp [go_sem, c15]
  · simp [go_sem, f14]
  · simp [go_sem, f15]
  · exact g.setCell hB _

theorem received_any (w0 : World) (B : Nat) (hB : w0.heap.size ≤ B) (s r n r' : Int) (hr : IntKind.u64.wrap (r + n) = r') (w : World) (h : Inv w0 B s r w) :
    Calls Try.prog 7 #[.pointer (some ⟨B, 0, none⟩), .int .u64 n] w fun e w' => e = .returned (.tuple #[]) ∧ Inv w0 B s r' w' := by
  obtain ⟨c14, c15, f14, f15, g⟩ := h
  have H : Hid (IntKind.u64.wrap (r + n) = r') := hr
  clear hr
  go_enter Try.func7, Try.ntmps7
  go_wp2_with (go_at_call 18; refine (add_any B 15 r n r' H.out _ c15 f15).mono ?_; rintro e w' ⟨rfl, rfl⟩)
  go_end0
  refine ⟨rfl, ?_, ?_, ?_, ?_, ?_⟩
  · simp [go_sem, c14]
  · simp [go_sem, c15]
  · simp [go_sem, f14]
  · simp [go_sem, f15]
  · exact g.setCell hB _

theorem traffic_any (w0 : World) (B : Nat) (s r : Int) (w : World) (h : Inv w0 B s r w) :
    Calls Try.prog 8 #[.pointer (some ⟨B, 0, none⟩)] w fun e w' => e = .returned (.tuple #[.int .u64 s, .int .u64 r]) ∧ Inv w0 B s r w' := by
  obtain ⟨c14, c15, f14, f15, g⟩ := h
  go_enter Try.func8, Try.ntmps8
  go_wp2_with fail
  go_quiet (first | (go_at_call 19; exact Calls.quiet_of_same (load_any B 14 s _ c14)) | (go_at_call 19; exact Calls.quiet_of_same (load_any B 15 r _ c15)))
  go_wp2
  go_ret2
  exact ⟨rfl, c14, c15, f14, f15, g⟩
end Go.Proofs.Qxb6612175a.Tr
