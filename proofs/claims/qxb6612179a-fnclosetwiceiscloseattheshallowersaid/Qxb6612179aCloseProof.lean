/-
  PROOF OF Rows.FnCloseTwiceIsCloseAtTheShallowerSaid. The frame is the guide's (proof-skeleton.mjs, a law over slices), turned to a slice of structs; the walks are ours.
-/
import Derived.Test.Qxb6612179aRows
import Derived.Test.Qxb6612179aWalksE
import Derived.WalkKit
import Derived.ProofKit
import Derived.OpenShut
import Derived.ShutString
import Derived.ChangeOld
import Derived.Below
import Derived.Deep.Slices
namespace Go.Proofs.Qxb6612179a.fnCloseTwiceIsCloseAtTheShallower
open Go.ChangeShapes Go.WideShapes Go.ChangeAt Go.RowKit Go.Deep
open Go.Proofs.Qxb6612179a.Cl
set_option linter.unusedVariables false

theorem own : ownKnob Try.prog.godebug = none := by kernel_rfl
theorem laidOut : laidOutB Try.prog = true := by kernel_rfl
theorem cells36 : Try.prog.cellsOf 36 = 6 := by kernel_rfl
theorem cells5 : Try.prog.cellsOf 5 = 1 := by kernel_rfl
theorem cells3 : Try.prog.cellsOf 3 = 1 := by kernel_rfl
theorem cells4 : Try.prog.cellsOf 4 = 1 := by kernel_rfl
theorem cells9 : Try.prog.cellsOf 9 = 1 := by kernel_rfl
def blk0 : Blk := ⟨0, 0, 0, false, ⟨#[]⟩, 0⟩

/-- One element of the slice, opened. -/
theorem open_blk {H : Type} {enc : TypeId × Value → H} {w : World} {base : Nat} {spare : Nat → Bool} {held : Bool} {n : Nat} {cs : List Value} {x : DataW H × List MemPlace}
    (h : DataW.trod enc Try.prog w base spare held n 36 cs = some x) : ∃ b : Blk, cs = b.cells ∧ b.fence.size ≤ maxLen := by
  obtain ⟨xs, k, hk, hxy, hl, hxl, hf⟩ := DataW.trod_struct Try.underlying36 h
  rw [cells36] at hl
  match xs, hxl, cs, hl with
  | [y0, y1, y2, y3, y4, y5], _, [v0, v1, v2, v3, v4, v5], _ =>
    have g0 := hf 0 _ rfl
    have g1 := hf 1 _ rfl
    have g2 := hf 2 _ rfl
    have g3 := hf 3 _ rfl
    have g4 := hf 4 _ rfl
    have g5 := hf 5 _ rfl
    simp [cells5, cells3, cells4, cells9] at g0 g1 g2 g3 g4 g5
    obtain ⟨n0, e0, _, _⟩ := DataW.trod_int Try.underlying5 g0
    obtain ⟨n1, e1, _, _⟩ := DataW.trod_int Try.underlying3 g1
    obtain ⟨n2, e2, _, _⟩ := DataW.trod_int Try.underlying3 g2
    obtain ⟨n3, e3, _⟩ := DataW.trod_bool Try.underlying4 g3
    obtain ⟨n4, e4, _, hs⟩ := DataW.trod_string Try.underlying9 g4
    obtain ⟨n5, e5, _, _⟩ := DataW.trod_int Try.underlying3 g5
    simp at e0 e1 e2 e3 e4 e5
    subst e0 e1 e2 e3 e4 e5
    exact ⟨⟨n0, n1, n2, n3, n4, n5⟩, rfl, hs⟩

set_option maxRecDepth 100000 in
theorem lifted (os : Os) (started : os.Started) (H : Type) (enc : TypeId × Value → H) :
    ReturnsInHanded {} Try.checked os 3 .any (Rows.fnCloseTwiceIsCloseAtTheShallowerSpec.pre6 enc Try.prog Try.f3 Rows.fnCloseTwiceIsCloseAtTheShallowerRow.domain false) (Rows.fnCloseTwiceIsCloseAtTheShallowerSpec.post enc Try.prog Try.f3 false true false false) := by
  refine returnsInHanded_of_change (C := Try.checked) own started (by kernel_rfl) Try.func3
    (ChangeSpec.witness6 (enc := enc) (C := Try.checked) false ⟨#[], #[.slice none 0 0, .int .i64 0, .int .i64 0], []⟩ 8 (by kernel_rfl) (by kernel_rfl) (by kernel_rfl) (by kernel_rfl)) ?_
  intro W base args ds gs before hval0 hW hcnd _
  have hval : ∀ (j : Nat) t v, Try.f3.params[j]? = some t → args[j]? = some v → Value.okWide Try.prog W .any base t v := hval0
  have hW' := hW
  obtain ⟨p, q, hA0, hV, rfl, hfz, hnd⟩ := hW
  have hA : DataW.TrodAll enc Try.prog W 0 (fun _ => true) true Try.f3.params.toList args.toList ds p := hA0
  rw [Try.params3] at hA hval
  obtain ⟨v0, vs0, d0, ds0, p0, q0, hargs, rfl, rfl, h0, r0⟩ := trodAll_cons hA
  obtain ⟨v1, vs1, d1, ds1, p1, q1, rfl, rfl, rfl, h1, r1⟩ := trodAll_cons r0
  obtain ⟨v2, vs2, d2, ds2, p2, q2, rfl, rfl, rfl, h2, r2⟩ := trodAll_cons r1
  obtain ⟨rfl, rfl, rfl⟩ := trodAll_nil r2
  obtain rfl : args = #[v0, v1, v2] := by cases args; simp_all
  obtain ⟨rfl, rfl⟩ := trodVars_none hV
  obtain ⟨a0, len0, cap0, rfl⟩ := okWide_slice Try.underlying22 (hval 0 22 v0 rfl rfl)
  have k0 := h0
  have lt0 : ∀ x ∈ p0, x.block < W.heap.size := by obtain ⟨m, hm⟩ := k0; exact DataW.trod_lt m _ _ _ hm
  obtain ⟨b, o, X, hnil, ha, hcame, hb, hlen⟩ : ∃ b o X, (a0 = none → len0 = 0 ∧ cap0 = 0) ∧ (0 < len0 → a0 = some ⟨b, o, none⟩) ∧ Came W b o len0 X ∧ (0 < len0 → b < W.heap.size) ∧ len0 ≤ maxLen := by
    obtain ⟨fuel, hf⟩ := h0
    rcases open_slice Try.underlying22 hf with ⟨hcs, _⟩ | ⟨a, len, cap, m, n, D, Pl, hcs, hb, hl, hm, hmm, _, hx⟩
    · simp [Value.cells] at hcs
      obtain ⟨rfl, rfl, rfl⟩ := hcs
      exact ⟨0, 0, fun _ => blk0, fun _ => ⟨rfl, rfl⟩, fun h => absurd h (Nat.lt_irrefl _), ⟨fun i hi => absurd hi (Nat.not_lt_zero _), fun i hi => absurd hi (Nat.not_lt_zero _)⟩, fun h => absurd h (Nat.lt_irrefl _), Nat.zero_le _⟩
    · simp [Value.cells] at hcs
      obtain ⟨rfl, rfl, rfl⟩ := hcs
      simp only [if_true] at hmm
      subst hmm
      rw [cells36] at hx
      obtain ⟨ab, ao, spot⟩ := a
      have inh : Inhabited Blk := ⟨blk0⟩
      obtain ⟨X, hX⟩ := choose_lt (α := Blk) (n := m) (p := fun i x => (∀ j v, x.cells[j]? = some v → W.cell? ((⟨ab, ao, spot⟩ : Addr).add (i * 6 + j)) = some v) ∧ x.fence.size ≤ maxLen) (fun i hi => by
        obtain ⟨cs', h1, h2⟩ := hx i hi
        obtain ⟨x, rfl, hs⟩ := open_blk h2
        obtain ⟨_, hlen', hcell⟩ := World.cells?_some h1
        refine ⟨x, fun j v hv => ?_, hs⟩
        have hj : j < 6 := by have := (List.getElem?_eq_some_iff.1 hv).1; rwa [hlen'] at this
        have := hcell j hj
        rw [add_add] at this
        rw [this, hv])
      have hspot : 0 < len0 → spot = none := fun hp => by
        have := (hX 0 (by omega)).1 0 _ rfl
        simpa [Addr.add] using World.cell?_spot this
      have hcl : ∀ i, i < len0 → ∀ j v, (X i).cells[j]? = some v → W.cell? ⟨ab, ao + i * 6 + j, none⟩ = some v := fun i hi j v hv => by
        have := (hX i (by omega)).1 j v hv
        rw [hspot (by omega), Addr.add_mid] at this
        rw [Nat.add_assoc]
        exact this
      refine ⟨ab, ao, X, fun h => (by cases h), fun hp => by rw [hspot hp], ⟨fun i hi j v hv => hcl i hi j v hv, fun i hi => (hX i (by omega)).2⟩, fun hp => ?_, by omega⟩
      exact World.block_lt_of_cell? W _ (hcl 0 hp 0 _ rfl)
  obtain ⟨a1, rfl, rfl, rfl, w1⟩ := open_int Try.underlying3 (hval 1 3 v1 rfl rfl) h1
  obtain ⟨a2, rfl, rfl, rfl, w2⟩ := open_int Try.underlying3 (hval 2 3 v2 rfl rfl) h2
  clear hA0 hval0
  refine (law_any a0 b o len0 cap0 a1 a2 X W hnil ha hcame hb hlen).mono fun e W' ⟨he, bel⟩ => ?_
  subst he
  exact ⟨_, rfl, _, _, _, [], _, [], hW', trodAll_mk1 (shut_bool Try.underlying4 _), (trodAll_cons_mk (Below.trod laidOut (by kernel_rfl) (of_decide_eq_true (by kernel_rfl)) k0 bel lt0) (trodAll_cons_mk (shut_int Try.underlying3 w1) (trodAll_cons_mk (shut_int Try.underlying3 w2) trodAll_mk0))), rfl, bel.frame _, fun h => by cases h⟩

theorem over : Rows.fnCloseTwiceIsCloseAtTheShallowerRow.holds Try.pinned (OpenSpec.ofChange Rows.fnCloseTwiceIsCloseAtTheShallowerSpec) :=
  OpenClaim.holds_of_wide 3 Try.f3 rfl rfl rfl rfl rfl rfl rfl ⟨rfl, rfl, rfl, rfl, rfl⟩ rfl rfl rfl rfl rfl (by kernel_rfl) Try.func3 (by kernel_rfl)
    (of_decide_eq_true (by kernel_rfl)) (by unfold Func.isWrapper; first | (rw [if_pos (by decide +kernel)]; kernel_rfl) | (rw [if_neg (by decide +kernel)]; exact ⟨rfl, rfl⟩))
    (fun os started H enc _ => lifted os started H enc)

/-- THE STATEMENT -/
theorem proved : Rows.FnCloseTwiceIsCloseAtTheShallowerSaid := over
end Go.Proofs.Qxb6612179a.fnCloseTwiceIsCloseAtTheShallower
