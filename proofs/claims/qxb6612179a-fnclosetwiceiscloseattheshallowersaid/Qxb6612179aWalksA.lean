/-
  THE WALKS under 'FnCloseTwiceIsCloseAtTheShallower', part A: the two guards, which only read.
-/
import Derived.Test.Qxb6612179aRows
import Derived.WalkKit
import Derived.Deep.MidRow
import Derived.Below
namespace Go.Proofs.Qxb6612179a.Cl
open Go.RowKit

/-- One block, as plain data. -/
structure Blk where
  kind : Int
  line : Int
  width : Int
  filled : Bool
  fence : ByteArray
  html : Int

def Blk.cells (x : Blk) : List Value := [.int .u8 x.kind, .int .i64 x.line, .int .i64 x.width, .bool x.filled, .string x.fence, .int .i64 x.html]

/-- From offset o of block b on lie the blocks X 0 .. X (n-1), six cells each. -/
def RowsAt (w : World) (b o n : Nat) (X : Nat → Blk) : Prop := ∀ i, i < n → w.rangeAt b (o + i * 6) (X i).cells

theorem RowsAt.fence {w : World} {b o n : Nat} {X : Nat → Blk} (h : RowsAt w b o n X) {i : Nat} (hi : i < n) : w.cell? ⟨b, o + i * 6 + 4, none⟩ = some (.string (X i).fence) :=
  h i hi 4 _ rfl

/-- What the walk is told of the slice that came in: its address (plain where there is an element), its blocks, and that each fence is no longer than any string. -/
structure Came (w : World) (b o : Nat) (n : Nat) (X : Nat → Blk) : Prop where
  rows : RowsAt w b o n X
  len : ∀ i, i < n → (X i).fence.size ≤ maxLen

/-- How a guard ends: it says yes or no, and turns nothing; where it says yes, p holds. -/
def GuardOut (w : World) (p : Prop) (e : Ending) (w' : World) : Prop := (∃ r : Bool, e = .returned (.bool r) ∧ (r = true → p)) ∧ w' = w
theorem GuardOut.no {w : World} {p : Prop} {e : Ending} (h : e = .returned (.bool false)) : GuardOut w p e w := ⟨⟨false, h, by simp⟩, rfl⟩
theorem GuardOut.yes {w : World} {p : Prop} {e : Ending} (h : e = .returned (.bool true)) (hp : p) : GuardOut w p e w := ⟨⟨true, h, fun _ => hp⟩, rfl⟩

set_option maxHeartbeats 400000 in
theorem zzBytes_any (a : Option Addr) (b o : Nat) (n c : Nat) (f s : Int) (X : Nat → Blk) (w : World) (ha : 0 < n → a = some ⟨b, o, none⟩) (h : Came w b o n X) (hn : n ≤ maxLen) :
    Calls Try.prog 6 #[.slice a n c, .int .i64 f, .int .i64 s] w fun e w' => GuardOut w (n ≤ 1048576) e w' := by
  unfold maxLen at hn
  by_cases hb : (1048576 : Int) < n
  · clear ha h
    go_enter Try.func6, Try.ntmps6
    go_wp2
    go_ret
    exact GuardOut.no rfl
  · have HA : Hid (0 < n → a = some ⟨b, o, none⟩) := ha
    clear ha
    go_enter Try.func6, Try.ntmps6
    go_wp2
    go_loop [7, 8] (fun t i => ∃ k : Nat, ∃ m : Nat, k ≤ n ∧ m ≤ 1048576 ∧ i = .int .i64 k ∧ t = .int .i64 m) (fun _ i => n - (intOf i).toNat)
    case atStart => exact ⟨0, n, Nat.zero_le _, by omega, rfl, rfl⟩
    case round =>
      obtain ⟨k, m, hk, hm, rfl, rfl⟩ := hrel
      by_cases hlt : k < n
      · obtain rfl := HA.out (by omega)
        have hc := h.rows.fence hlt
        have hl := h.len k hlt
        unfold maxLen at hl
        go_wp2
        · go_ret
          exact GuardOut.no rfl
        · go_ret
          exact GuardOut.no rfl
        · go_round
          case rel => exact ⟨k + 1, m + (X k).fence.size, by omega, by omega, by go_num, by go_num⟩
          case measure => simp [intOf]; omega
      · go_wp2
        go_ret
        exact GuardOut.yes rfl (by omega)

set_option maxHeartbeats 1000000 in
theorem readerFits_any (a : Option Addr) (b o : Nat) (n c : Nat) (X : Nat → Blk) (w : World) (ha : 0 < n → a = some ⟨b, o, none⟩) (h : Came w b o n X) (hn : n ≤ maxLen) :
    Calls Try.prog 7 #[.slice a n c, .slice none 0 0, .slice none 0 0, .string { data := #[] }] w fun e w' => GuardOut w (n ≤ 65536) e w' := by
  unfold maxLen at hn
  by_cases hb : (65536 : Int) < n
  · clear ha h
    go_enter Try.func7, Try.ntmps7
    go_wp2
    go_ret
    exact GuardOut.no rfl
  by_cases hb2 : (1048576 : Int) < n * 56
  · clear ha h
    go_enter Try.func7, Try.ntmps7
    go_wp2
    go_ret
    exact GuardOut.no rfl
  · have HA : Hid (0 < n → a = some ⟨b, o, none⟩) := ha
    clear ha
    go_enter Try.func7, Try.ntmps7
    go_wp2
    go_loop [9, 10] (fun t i => ∃ k : Nat, ∃ m : Int, k ≤ n ∧ i = .int .i64 k ∧ t = .int .i64 m) (fun _ i => n - (intOf i).toNat)
    case atStart => exact ⟨0, _, Nat.zero_le _, rfl, rfl⟩
    case round =>
      obtain ⟨k, m, hk, rfl, rfl⟩ := hrel
      by_cases hlt : k < n
      · obtain rfl := HA.out (by omega)
        have hc := h.rows.fence hlt
        have hl := h.len k hlt
        unfold maxLen at hl
        go_wp2
        · go_ret
          exact GuardOut.no rfl
        · go_round
          case rel => exact ⟨k + 1, _, by omega, by go_num, rfl⟩
          case measure => simp [intOf]; omega
      · go_wp2
        refine wp_loop_rounds 1 ?_
        rw [rounds_succ]
        go_wp2
        go_ret
        exact GuardOut.yes rfl (by omega)
end Go.Proofs.Qxb6612179a.Cl
