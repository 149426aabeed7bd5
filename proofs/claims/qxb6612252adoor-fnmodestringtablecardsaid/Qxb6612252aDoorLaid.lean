/-
  FROM WHAT THE ROWS LIST ('laid') TO WHAT THE WALKS ASK; the start that fits.
-/
import Derived.Test.Qxb6612252aDoorWalksB
import Derived.ProofKit
import Derived.LaidMore
import Derived.OpenShut
import Derived.Stop.Joined
import Derived.Deep.Slices
import Derived.Lib.LaidTab
namespace Go.Proofs.Qxb6612252aDoor.Md
open Go.ChangeShapes Go.WideShapes Go.ChangeAt Go.RowKit Go.Deep
set_option linter.unusedVariables false
set_option linter.unusedSimpArgs false

theorem own : ownKnob Tryd.prog.godebug = none := by kernel_rfl
theorem laidOut : laidOutB Tryd.prog = true := by kernel_rfl
theorem cells9 : Tryd.prog.cellsOf 9 = 1 := by kernel_rfl
theorem cells29 : Tryd.prog.cellsOf 29 = 1 := by kernel_rfl
theorem cells41 : Tryd.prog.cellsOf 41 = 20 := by kernel_rfl

/-- What the rows list. -/
def L4 : List (String × DataW Unit) := Rows.fnModeStringTableRow.laid
/-- The names' variable's name. -/
def nm : String := (Rows.fnModeStringTableRow.laid.map (·.1)).getD 3 (Rows.fnModeStringTableRow.spec)
theorem gNames : Tryd.prog.globalNamed nm = some 0 := by kernel_rfl
theorem tNames : (Tryd.prog.globals[0]?).map (·.type) = some 28 := by kernel_rfl
theorem gPow : Tryd.prog.globalNamed p10 = some 1 := by kernel_rfl
theorem tPow : (Tryd.prog.globals[1]?).map (·.type) = some 41 := by kernel_rfl

theorem door_met (os : Os) (args : Array Value) : laidMetH Tryd.prog L4 ((World.doorLaid Tryd.prog 400 os).forCall (fun _ _ => 0) ⟨#[], args, []⟩).memory :=
  laidMetH_of_parts3 (fuel := 8) (laidMet_of_run' 8 (by kernel_rfl) (by kernel_rfl)) (by kernel_rfl) (by kernel_rfl)

theorem tab_eq : (Rows.laid_internal_strconv_uint64pow10 : DataW Unit) = Lib.tabData .u64 Lib.pow10Tab := by kernel_rfl

theorem str_of {s : ByteArray} {l : List UInt8} (h : s.data.toList = l) : s = ⟨l.toArray⟩ := by
  subst h; cases s; simp

theorem of_laid {W : World} (h : laidMetH Tryd.prog L4 W) : ∃ b o c, Laid W b o c := by
  rw [MakeChecks.laidMetH_plain _ _ _ (by kernel_rfl)] at h
  obtain ⟨ps, ⟨g0, t0, cs0, f0, p0, q0, hg0, ht0, hv0, hd0, ⟨g1, t1, cs1, f1, p1, q1, hg1, ht1, hv1, hd1, ⟨g2, t2, cs2, f2, p2, q2, hg2, ht2, hv2, hd2, ⟨g3, t3, cs3, f3, p3, q3, hg3, ht3, hv3, hd3, _, _⟩, _⟩, _⟩, _⟩, _, _⟩ := h
  obtain rfl := Option.some.inj (gPow.symm.trans hg2)
  obtain rfl := Option.some.inj (gNames.symm.trans hg3)
  obtain rfl := Option.some.inj (tPow.symm.trans ht2)
  obtain rfl := Option.some.inj (tNames.symm.trans ht3)
  have htab : Lib.TabIs Tryd.prog W p10 .u64 Lib.pow10Tab := by
    rw [tab_eq] at hd2
    have e := Lib.cells_of_tab Tryd.underlying41 Tryd.underlying29 cells29 cells41 hd2
    unfold Lib.TabIs
    rw [← e]
    exact hv2
  rcases open_slice1 Tryd.underlying28 cells9 hd3 with ⟨_, hx⟩ | ⟨a, len, cap, m, k, V, D, Pl, hcs, hb, hl, hm, hmm, hx, hV⟩
  · simp only [Prod.mk.injEq] at hx
    exact absurd hx.1 (fun e => by cases e)
  simp only [Prod.mk.injEq] at hx
  have hx1 : DataW.slice [.lit (.string interactive), .lit (.string batch)] [] = DataW.slice ((List.range len).map D) ((List.range (m - len)).map fun j => D (len + j)) := hx.1
  have hlen : len = 2 := by
    have := congrArg (fun d : DataW Unit => match d with | .slice l _ => l.length | _ => 0) hx1
    simpa using this.symm
  subst hlen
  simp only [DataW.slice.injEq, List.range_succ, List.range_zero, List.nil_append, List.map_append, List.map_cons, List.map_nil, List.cons_append, List.cons.injEq, and_true] at hx1
  obtain ⟨⟨d0, d1⟩, _⟩ := hx1
  have hm2 : 2 ≤ m := by simp only [if_true] at hmm; omega
  obtain ⟨v0, r0⟩ := hV 0 (by omega)
  obtain ⟨v1, r1⟩ := hV 1 (by omega)
  obtain ⟨s0, e0, x0, _⟩ := DataW.trod_string Tryd.underlying9 r0
  obtain ⟨s1, e1, x1, _⟩ := DataW.trod_string Tryd.underlying9 r1
  simp only [List.cons.injEq, and_true, Prod.mk.injEq] at e0 e1 x0 x1
  rw [← d0] at x0
  rw [← d1] at x1
  have q0 : s0.data.toList = interactive := by have := x0.1; simpa using this.symm
  have q1 : s1.data.toList = batch := by have := x1.1; simpa using this.symm
  rw [e0, str_of q0] at v0
  rw [e1, str_of q1] at v1
  obtain ⟨ab, ao, spot⟩ := a
  have hspot : spot = none := by simpa [Addr.add] using World.cell?_spot v0
  subst hspot
  rw [add_plain] at v0 v1
  refine ⟨ab, ao, cap, htab, ?_, v0, v1⟩
  have := World.var?_cell hg3 hv3 0
  rw [Array.eq_one_of_toList hcs] at this
  simpa using this

/-- The names' variable is one cell: a slice. -/
theorem one_of_slice {H : Type} {enc : TypeId × Value → H} {W : World} {sp : Nat → Bool} {held : Bool} {fuel : Nat} {cs : Array Value} {x : DataW H × List MemPlace} (hd : DataW.trod enc Tryd.prog W 0 sp held fuel 28 cs.toList = some x) : ∃ v, cs = #[v] := by
  rcases open_slice1 Tryd.underlying28 cells9 hd with ⟨hcs, _⟩ | ⟨a, len, cap, m, k, V, D, Pl, hcs, _⟩
  · exact ⟨_, Array.eq_one_of_toList hcs⟩
  · exact ⟨_, Array.eq_one_of_toList hcs⟩
theorem slice_cells {H : Type} {enc : TypeId × Value → H} {W : World} {sp : Nat → Bool} {held : Bool} {fuel : Nat} {v : Value} {x : DataW H × List MemPlace} (hd : DataW.trod enc Tryd.prog W 0 sp held fuel 28 (#[v] : Array Value).toList = some x) : v.cells.toList = (#[v] : Array Value).toList := by
  rcases open_slice1 Tryd.underlying28 cells9 hd with ⟨hcs, _⟩ | ⟨a, len, cap, m, k, V, D, Pl, hcs, _⟩
  · simp at hcs; subst hcs; rfl
  · simp at hcs; subst hcs; rfl
end Go.Proofs.Qxb6612252aDoor.Md
