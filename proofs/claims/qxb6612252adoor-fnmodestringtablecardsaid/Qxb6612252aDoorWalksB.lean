/-
  THE WALKS, part B: the law of injectivity.
-/
import Derived.Test.Qxb6612252aDoorWalksA
namespace Go.Proofs.Qxb6612252aDoor.Md
open Go.RowKit
set_option linter.unusedVariables false

theorem below_cell {w w' : World} (hb : Below w.heap.size w w') {a : Addr} {v : Value} (h : w.cell? a = some v) : w'.cell? a = some v := by
  rw [hb.cell (World.block_lt_of_cell? w a h)]; exact h

/-- The table's variable has a number. -/
theorem g10 : ∃ g, Tryd.prog.globalNamed p10 = some g := ⟨1, by kernel_rfl⟩

theorem Laid.below {w w' : World} {b o c : Nat} (h : Laid w b o c) (hb : Below w.heap.size w w') : Laid w' b o c := by
  obtain ⟨g, hg⟩ := g10
  refine ⟨?_, below_cell hb h.names, below_cell hb h.n0, below_cell hb h.n1⟩
  have hv : w.var? Tryd.prog p10 = some _ := h.tab
  refine var?_below hb hg ?_ hv
  unfold World.var? at hv
  simp only [hg, Option.bind_some] at hv
  rcases Nat.lt_or_ge g w.heap.size with h' | h'
  · exact h'
  · rw [Array.getElem?_eq_none h'] at hv; simp at hv

def LawOut (w : World) (e : Ending) (w' : World) : Prop := e = .returned (.bool true) ∧ Below w.heap.size w w'

theorem injective_any (b o c : Nat) (m n : Int) (m0 : -9223372036854775808 ≤ m) (m1 : m ≤ 9223372036854775807) (n0 : -9223372036854775808 ≤ n) (n1 : n ≤ 9223372036854775807) (w : World) (h : Laid w b o c) :
    Calls Tryd.prog 4 #[.int .i64 m, .int .i64 n] w fun e w' => LawOut w e w' := by
  have HL : Hid (Laid w b o c) := h
  clear h
  go_enter Tryd.func4, Tryd.ntmps4
  go_wp2_with fail
  refine (string_any b o c m m0 m1 w HL.out).mono ?_
  rintro e x1 ⟨⟨s, rfl, hs⟩, hb1⟩
  have HS : Hid (s.toList = modeStr m) := hs
  have e1 : s.toList.isEmpty = false := by rw [hs]; cases hq : modeStr m with | nil => exact absurd hq (modeStr_ne m) | cons _ _ => rfl
  clear hs
  go_wp2_with fail
  refine (string_any b o c n n0 n1 x1 (HL.out.below hb1)).mono ?_
  rintro e x2 ⟨⟨t, rfl, ht⟩, hb2⟩
  have HT : Hid (t.toList = modeStr n) := ht
  have e2 : t.toList.isEmpty = false := by rw [ht]; cases hq : modeStr n with | nil => exact absurd hq (modeStr_ne n) | cons _ _ => rfl
  clear ht
  have HB : Hid (Below w.heap.size w x2) := hb1.trans (hb2.mono hb1.size)
  clear hb1 hb2
  by_cases hmn : m = n
  · subst hmn
    have e3 : (s.toList == t.toList) = true := by rw [HS.out, HT.out]; simp
    go_wp2
    go_ret
    exact ⟨rfl, HB.out⟩
  · have e3 : (s.toList == t.toList) = false := by rw [HS.out, HT.out, beq_eq_false_iff_ne]; exact fun e => hmn (modeStr_inj e)
    have e4 : (m == n) = false := by simp [hmn]
    clear hmn
    go_wp2
    go_ret
    exact ⟨rfl, HB.out⟩
end Go.Proofs.Qxb6612252aDoor.Md
