/-
  PROOF OF Rows.FnModeStringInjectiveCardSaid: the row (FnModeStringInjectiveSaid) after the guide's MapyProofs and BalancedProofs; the card by the builder's one call (ToyasCard, MapyCard).
-/
import Derived.Test.Qxb6612252aDoorRows
import Derived.Test.Qxb6612252aDoorTie
import Derived.Test.Qxb6612252aDoorCards
import Derived.Test.Qxb6612252aDoorLaid
import Derived.SevenTiedAt
namespace Go.Proofs.Qxb6612252aDoor.fnModeStringInjective
open Go.ChangeShapes Go.WideShapes Go.ChangeAt Go.RowKit Go.Deep
open Go.Proofs.Qxb6612252aDoor.Md
set_option linter.unusedVariables false

set_option maxHeartbeats 1600000 in
set_option maxRecDepth 100000 in
theorem lifted (os : Os) (started : os.Started) (H : Type) (enc : TypeId × Value → H) :
    ReturnsInHanded {} Tryd.checked os 4 .any (fun w args => (Rows.fnModeStringInjectiveSpec.pre enc Tryd.prog Tryd.f4 [] false w args ∧ laidMetH Tryd.prog L4 w) ∧ sizedMet enc Tryd.prog Tryd.f4 (OpenSpec.ofChange Rows.fnModeStringInjectiveSpec) false w args)
      (Rows.fnModeStringInjectiveSpec.post enc Tryd.prog Tryd.f4 false true false false) := by
  refine returnsInHanded_of_change_and (C := Tryd.checked) (X := fun w _ => laidMetH Tryd.prog L4 w) (fun _ _ _ hh h => h.of_heap hh) own started (by kernel_rfl) Tryd.func4
    (ChangeSpec.witness_shaped (enc := enc) (C := Tryd.checked) (os := os) (X := fun w _ => laidMetH Tryd.prog L4 w) false (World.doorLaid Tryd.prog 400 os) #[.int .i64 0, .int .i64 0] 8 rfl (World.shaped_of_RefB (by kernel_rfl) (by kernel_rfl)) (by kernel_rfl) (by kernel_rfl) (by kernel_rfl) (door_met os _)) ?_
  intro W base args ds gs before hval0 hW _ _ hL _
  have hval : ∀ (j : Nat) t v, Tryd.f4.params[j]? = some t → args[j]? = some v → Value.okWide Tryd.prog W .any base t v := hval0
  have hW' := hW
  obtain ⟨p, q, hA0, hV0, rfl, hfz, hnd⟩ := hW
  have hA : DataW.TrodAll enc Tryd.prog W 0 (fun _ => true) true Tryd.f4.params.toList args.toList ds p := hA0
  have hV : DataW.TrodVars enc Tryd.prog W (fun _ => true) [nm] gs q := hV0
  rw [Tryd.params4] at hA hval
  obtain ⟨v0, v1, d0, d1, p0, p1, rfl, rfl, rfl, h0, h1⟩ := trodAll_two hA
  obtain ⟨g, t, cs, fuel, d, p', rfl, hg, ht, hvar, hd, rfl⟩ := trodVars_one hV
  obtain rfl := Option.some.inj (gNames.symm.trans hg)
  obtain rfl := Option.some.inj (tNames.symm.trans ht)
  obtain ⟨a0, rfl, rfl, rfl, w0⟩ := open_int Tryd.underlying3 (hval 0 3 v0 rfl rfl) h0
  obtain ⟨a1, rfl, rfl, rfl, w1⟩ := open_int Tryd.underlying3 (hval 1 3 v1 rfl rfl) h1
  obtain ⟨b, o, c, hlaid⟩ := of_laid hL
  clear hA0 hV0 hval0 hA hV
  have b0 := bounds_i64 w0
  have b1 := bounds_i64 w1
  have hltv : ∀ x ∈ p', x.block < W.heap.size := fun x hx => hW'.lt x (List.mem_append_right _ (List.mem_append_right _ hx))
  have h0lt : 0 < W.heap.size := World.block_lt_of_cell? W _ hlaid.names
  obtain ⟨vv, rfl⟩ : ∃ vv, cs = #[vv] := one_of_slice hd
  refine (injective_any b o c a0 a1 b0.1 b0.2 b1.1 b1.2 W hlaid).mono fun e W' ⟨he, hB⟩ => ?_
  subst he
  obtain ⟨fuel', hd'⟩ := Below.trod laidOut (by kernel_rfl) (of_decide_eq_true (by kernel_rfl)) (v := vv) (⟨fuel, by rw [slice_cells hd]; exact hd⟩ : DataW.Trod enc Tryd.prog W 0 (fun _ => true) true 28 vv d p') hB hltv
  have hv' := trodVars_mk1 (enc := enc) (spare := fun b => decide (b < W.heap.size)) hg ht (var?_below hB hg h0lt hvar) (by rw [slice_cells hd] at hd'; exact hd')
  refine ⟨_, rfl, _, _, _, [], [], (MemPlace.row ⟨0, 0, none⟩ (#[vv] : Array Value).size ++ p'), hW', ?_, ?_, ?_, hB.frame _, fun h => by cases h⟩
  · exact trodAll_mk1 (shut_bool Tryd.underlying4 _)
  · exact trodAll_mk2 (shut_int Tryd.underlying3 w0) (shut_int Tryd.underlying3 w1)
  · exact hv'

theorem over : Rows.FnModeStringInjectiveSaid :=
  OpenClaim.holds_of_wide 4 Tryd.f4 rfl rfl rfl rfl rfl rfl rfl ⟨rfl, rfl, rfl, rfl, rfl⟩ rfl rfl rfl rfl rfl (by kernel_rfl) Tryd.func4 (by kernel_rfl)
    (of_decide_eq_true (by kernel_rfl)) (by unfold Func.isWrapper; first | (rw [if_pos (by decide +kernel)]; kernel_rfl) | (rw [if_neg (by decide +kernel)]; exact ⟨rfl, rfl⟩))
    (fun os started H enc _ => lifted os started H enc)

/-- THE STATEMENT: the tied card -/
theorem proved : Rows.FnModeStringInjectiveCardSaid :=
  Claim7.holds_tied_plain_at .later [] [.data, .data, .data, .widerDeep] true (true, "b9155e67f5dc34a99c7a466b8bcc1eeb3b73505a328b8a954edafeae4e15728e") false
    over (fun _ h => by cases h) (by kernel_rfl) (fun _ h => by cases h) fnModeStringInjective_row_tie rfl ⟨rfl, rfl⟩ (by kernel_rfl) rfl
    (fun f fn hf hfn => by
      obtain rfl : f = 4 := Option.some.inj ((show Tryd.prog.funcNamed Rows.fnModeStringInjectiveRow.func = some 4 by kernel_rfl).symm.trans hf) |>.symm
      obtain rfl : fn = Tryd.f4 := (Option.some.inj (Tryd.func4.symm.trans hfn)).symm
      exact ⟨by kernel_rfl, fun j t ht => by
        rw [Tryd.params4] at ht
        have hm : t ∈ [3, 3] := by simpa using Array.mem_of_getElem? ht
        have hall : ([3, 3].all fun u => !Tryd.prog.wantsStandIn u) = true := by kernel_rfl
        exact (show Tryd.prog.wantsStandIn t = false by simpa using List.all_eq_true.1 hall t hm)⟩)
    (by kernel_rfl)
end Go.Proofs.Qxb6612252aDoor.fnModeStringInjective
