/-
  THE WALKS, part A: a Mode's name.
-/
import Derived.Test.Qxb6612252aDoorRows
import Derived.Test.Qxb6612252aDoorShelf
import Derived.Test.Qxb6612252aDoorNum
import Derived.WalkKit
import Derived.WalkLawsBesides
import Derived.WalkSmall
import Derived.Lib.ItoaLen
namespace Go.Proofs.Qxb6612252aDoor.Md
open Go.RowKit
set_option linter.unusedVariables false

/-- The table's name, as the row lists it. -/
def p10 : String := (Rows.fnModeStringTableRow.laid.map (·.1)).getD 2 (Rows.fnModeStringTableRow.spec)

theorem below_grow (w : World) (k : Nat) (os : Array Obj) : Below w.heap.size w (Sort.grow (w.drewN k) os) :=
  ⟨rfl, rfl, rfl, by simp [Sort.grow, World.drewN], fun i hi => by
    show (w.heap ++ os)[i]? = w.heap[i]?
    rw [Array.getElem?_append_left hi]⟩

theorem itoa_calls (n : Int) (h0 : -9223372036854775808 ≤ n) (h1 : n ≤ 9223372036854775807) (w : World) (htab : Lib.TabIs Tryd.prog w p10 .u64 Lib.pow10Tab) :
    Calls Tryd.prog 9 #[.int .i64 n] w fun e w' => e = .returned (.string ⟨(Lib.itoa n).toArray⟩) ∧ Below w.heap.size w w' :=
  (Any.strconv_Itoa Tryd.laysM171 n h0 h1 w htab).mono fun e w' ⟨he, k, os, hw⟩ => ⟨he, by subst hw; exact below_grow w k os⟩

/-- It hands back a string of these bytes; nothing that was there has turned. -/
def StrOut (l : List UInt8) (w : World) (e : Ending) (w' : World) : Prop := (∃ s : ByteArray, e = .returned (.string s) ∧ s.toList = l) ∧ Below w.heap.size w w'

theorem bytes_of (s : ByteArray) : s.toList = s.data.toList := ByteArray.toList_eq s

theorem unnamed_any (n : Int) (h0 : -9223372036854775808 ≤ n) (h1 : n ≤ 9223372036854775807) (w : World) (htab : Lib.TabIs Tryd.prog w p10 .u64 Lib.pow10Tab) :
    Calls Tryd.prog 8 #[.int .i64 n, .string ⟨#[77, 111, 100, 101]⟩] w fun e w' => StrOut ([77, 111, 100, 101, 40] ++ Lib.itoa n ++ [41]) w e w' := by
  have hl := Lib.itoa_length_le n h0 h1
  have hi : Hid (∀ w, _) := fun w ht => itoa_calls n h0 h1 w ht
  have HT : Hid (Lib.TabIs Tryd.prog w p10 .u64 Lib.pow10Tab) := htab
  clear htab
  generalize Lib.itoa n = l at *
  go_enter Tryd.func8, Tryd.ntmps8
  go_wp2_with (go_at_call 9; refine (hi.out _ HT.out).mono ?_; rintro e w' ⟨rfl, hb⟩)
  go_ret
  exact ⟨⟨_, rfl, by rw [bytes_of]; simp⟩, by assumption⟩

/-- What the two variables hold: the table of powers; the row of names. -/
structure Laid (w : World) (b o c : Nat) : Prop where
  tab : Lib.TabIs Tryd.prog w p10 .u64 Lib.pow10Tab
  names : w.cell? ⟨0, 0, none⟩ = some (.slice (some ⟨b, o, none⟩) 2 c)
  n0 : w.cell? ⟨b, o, none⟩ = some (.string ⟨#[105, 110, 116, 101, 114, 97, 99, 116, 105, 118, 101]⟩)
  n1 : w.cell? ⟨b, o + 1, none⟩ = some (.string ⟨#[98, 97, 116, 99, 104]⟩)

theorem name_any (b o c : Nat) (n : Int) (h0 : -9223372036854775808 ≤ n) (h1 : n ≤ 9223372036854775807) (w : World) (h : Laid w b o c) :
    Calls Tryd.prog 7 #[.int .i64 n, .slice (some ⟨b, o, none⟩) 2 c, .string ⟨#[77, 111, 100, 101]⟩] w fun e w' => StrOut (modeStr n) w e w' := by
  have hc0 := h.n0
  have hc1 := h.n1
  rcases (show n < 0 ∨ n = 0 ∨ n = 1 ∨ 2 ≤ n by omega) with hn | hn | hn | hn
  · rw [modeStr_other (by omega) (by omega)]
    have hu : Hid (Calls Tryd.prog 8 #[.int .i64 n, .string ⟨#[77, 111, 100, 101]⟩] w fun e w' => StrOut ([77, 111, 100, 101, 40] ++ Lib.itoa n ++ [41]) w e w') := unnamed_any n h0 h1 w h.tab
    generalize [77, 111, 100, 101, 40] ++ Lib.itoa n ++ [41] = l at *
    clear h
    go_enter Tryd.func7, Tryd.ntmps7
    go_wp2_with (go_at_call 8; refine hu.out.mono ?_; rintro e w' ⟨⟨s, rfl, hs⟩, hb⟩)
    go_ret
    exact ⟨⟨_, rfl, by assumption⟩, by assumption⟩
  · subst hn
    clear h
    go_enter Tryd.func7, Tryd.ntmps7
    go_wp2
    go_ret
    exact ⟨⟨_, rfl, by rw [bytes_of]; rfl⟩, Below.refl _ _⟩
  · subst hn
    clear h
    go_enter Tryd.func7, Tryd.ntmps7
    go_wp2
    go_ret
    exact ⟨⟨_, rfl, by rw [bytes_of]; rfl⟩, Below.refl _ _⟩
  · rw [modeStr_other (by omega) (by omega)]
    have hu : Hid (Calls Tryd.prog 8 #[.int .i64 n, .string ⟨#[77, 111, 100, 101]⟩] w fun e w' => StrOut ([77, 111, 100, 101, 40] ++ Lib.itoa n ++ [41]) w e w') := unnamed_any n h0 h1 w h.tab
    generalize [77, 111, 100, 101, 40] ++ Lib.itoa n ++ [41] = l at *
    clear h
    go_enter Tryd.func7, Tryd.ntmps7
    go_wp2_with (go_at_call 8; refine hu.out.mono ?_; rintro e w' ⟨⟨s, rfl, hs⟩, hb⟩)
    go_ret
    exact ⟨⟨_, rfl, by assumption⟩, by assumption⟩

theorem string_any (b o c : Nat) (n : Int) (h0 : -9223372036854775808 ≤ n) (h1 : n ≤ 9223372036854775807) (w : World) (h : Laid w b o c) :
    Calls Tryd.prog 5 #[.int .i64 n] w fun e w' => StrOut (modeStr n) w e w' := by
  have hc := h.names
  have hu : Hid (Calls Tryd.prog 7 #[.int .i64 n, .slice (some ⟨b, o, none⟩) 2 c, .string ⟨#[77, 111, 100, 101]⟩] w fun e w' => StrOut (modeStr n) w e w') := name_any b o c n h0 h1 w h
  clear h
  generalize modeStr n = l at *
  go_enter Tryd.func5, Tryd.ntmps5
  go_wp2_with (go_at_call 7; refine hu.out.mono ?_; rintro e w' ⟨⟨s, rfl, hs⟩, hb⟩)
  go_ret
  exact ⟨⟨_, rfl, by assumption⟩, by assumption⟩
end Go.Proofs.Qxb6612252aDoor.Md
