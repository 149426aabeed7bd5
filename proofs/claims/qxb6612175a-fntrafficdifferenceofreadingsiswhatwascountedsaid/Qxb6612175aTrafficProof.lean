/-
  PROOF OF Rows.FnTrafficDifferenceOfReadingsIsWhatWasCountedSaid. The frame is the guide's template (written by proof-skeleton.mjs); the walk is ours.
-/
import Derived.Test.Qxb6612175aRows
import Derived.Test.Qxb6612175aWalks
import Derived.WalkKit
import Derived.ProofKit
import Derived.OpenShut
import Derived.ShutString
namespace Go.Proofs.Qxb6612175a.fnTrafficDifferenceOfReadingsIsWhatWasCounted
open Go.ChangeShapes Go.WideShapes Go.ChangeAt Go.RowKit
open Go.ChangeMaps (open_string shut_string)
set_option linter.unusedVariables false      -- a walk need not use every 'w<i>' (that an integer argument fits its kind)

theorem own : ownKnob Try.prog.godebug = none := by kernel_rfl

/-! ### STEP 1: THE WALK -/
theorem wrap_fit (a : Int) (w : (Lit.int .u64 a).wf = true) : IntKind.u64.wrap (0 + a) = a := by
  have := bounds_u64 w
  rw [IntKind.wrap_u64]; omega
theorem wrap_back (a n : Int) (w : (Lit.int .u64 n).wf = true) : IntKind.u64.wrap (IntKind.u64.wrap (a + n) - a) = n := by
  have := bounds_u64 w
  rw [IntKind.wrap_u64, IntKind.wrap_u64]; omega

theorem walk (a0 : Int) (a1 : Int) (a2 : Int) (a3 : Int) (w0 : (Lit.int .u64 a0).wf = true) (w1 : (Lit.int .u64 a1).wf = true) (w2 : (Lit.int .u64 a2).wf = true) (w3 : (Lit.int .u64 a3).wf = true) (w : World) :
    Calls Try.prog 3 #[.int .u64 a0, .int .u64 a1, .int .u64 a2, .int .u64 a3] w fun e w' => e = .returned (.bool true) ∧ Grown w w' := by
  obtain ⟨S, hS⟩ : ∃ S, IntKind.u64.wrap (a0 + a2) = S := ⟨_, rfl⟩
  obtain ⟨R, hR⟩ : ∃ R, IntKind.u64.wrap (a1 + a3) = R := ⟨_, rfl⟩
  have HS : Hid (IntKind.u64.wrap (a0 + a2) = S) := hS
  have HR : Hid (IntKind.u64.wrap (a1 + a3) = R) := hR
  have e1 : (IntKind.u64.wrap (S - a0) == a2) = true := by rw [← hS, wrap_back a0 a2 w2]; simp
  have e2 : (IntKind.u64.wrap (R - a1) == a3) = true := by rw [← hR, wrap_back a1 a3 w3]; simp
  clear hS hR
  have HB : Hid (w.heap.size ≤ w.heap.size) := Nat.le_refl _
  go_enter Try.func3, Try.ntmps3
  go_wp2_with fail
  refine (Tr.new_any w).mono ?_
  rintro e x1 ⟨rfl, i1⟩
  go_wp2_with fail
  refine (Tr.sent_any w w.heap.size HB.out 0 0 a0 a0 (wrap_fit a0 w0) x1 i1).mono ?_
  rintro e x2 ⟨rfl, i2⟩
  go_wp2_with fail
  refine (Tr.received_any w w.heap.size HB.out a0 0 a1 a1 (wrap_fit a1 w1) x2 i2).mono ?_
  rintro e x3 ⟨rfl, i3⟩
  go_wp2_with fail
  refine (Tr.traffic_any w w.heap.size a0 a1 x3 i3).mono ?_
  rintro e x4 ⟨rfl, i4⟩
  go_wp2_with fail
  refine (Tr.traffic_any w w.heap.size a0 a1 x4 i4).mono ?_
  rintro e x5 ⟨rfl, i5⟩
  go_wp2_with fail
  refine (Tr.sent_any w w.heap.size HB.out a0 a1 a2 S HS.out x5 i5).mono ?_
  rintro e x6 ⟨rfl, i6⟩
  go_wp2_with fail
  refine (Tr.received_any w w.heap.size HB.out S a1 a3 R HR.out x6 i6).mono ?_
  rintro e x7 ⟨rfl, i7⟩
  go_wp2_with fail
  refine (Tr.traffic_any w w.heap.size S R x7 i7).mono ?_
  rintro e x8 ⟨rfl, i8⟩
  go_wp2_with fail
  go_ret
  exact ⟨rfl, i8.g⟩

/-! ### THE ROW's STEP: WRITTEN OUT: LEAVE IT -/
set_option maxRecDepth 100000 in
theorem lifted (os : Os) (started : os.Started) (H : Type) (enc : TypeId × Value → H) :
    ReturnsInHanded {} Try.checked os 3 .any (Rows.fnTrafficDifferenceOfReadingsIsWhatWasCountedSpec.pre6 enc Try.prog Try.f3 Rows.fnTrafficDifferenceOfReadingsIsWhatWasCountedRow.domain false) (Rows.fnTrafficDifferenceOfReadingsIsWhatWasCountedSpec.post enc Try.prog Try.f3 false true false false) := by
  refine returnsInHanded_of_change (C := Try.checked) own started (by kernel_rfl) Try.func3
    (ChangeSpec.witness6 (enc := enc) (C := Try.checked) false ⟨#[], #[.int .u64 0, .int .u64 0, .int .u64 0, .int .u64 0], []⟩ 8 (by kernel_rfl) (by kernel_rfl) (by kernel_rfl) (by kernel_rfl)) ?_
  intro W base args ds gs before hval0 hW hcnd _
  have hval : ∀ (j : Nat) t v, Try.f3.params[j]? = some t → args[j]? = some v → Value.okWide Try.prog W .any base t v := hval0
  have hW' := hW
  obtain ⟨p, q, hA0, hV, rfl, hfz, hnd⟩ := hW
  have hA : DataW.TrodAll enc Try.prog W 0 (fun _ => true) true Try.f3.params.toList args.toList ds p := hA0
  rw [Try.params3] at hA hval
  obtain ⟨v0, vs0, d0, ds0, p0, q0, hargs, rfl, rfl, h0, r0⟩ := trodAll_cons hA
  obtain ⟨v1, vs1, d1, ds1, p1, q1, rfl, rfl, rfl, h1, r1⟩ := trodAll_cons r0
  obtain ⟨v2, vs2, d2, ds2, p2, q2, rfl, rfl, rfl, h2, r2⟩ := trodAll_cons r1
  obtain ⟨v3, vs3, d3, ds3, p3, q3, rfl, rfl, rfl, h3, r3⟩ := trodAll_cons r2
  obtain ⟨rfl, rfl, rfl⟩ := trodAll_nil r3
  obtain rfl : args = #[v0, v1, v2, v3] := by cases args; simp_all
  obtain ⟨rfl, rfl⟩ := trodVars_none hV
  obtain ⟨a0, rfl, rfl, rfl, w0⟩ := open_int Try.underlying22 (hval 0 22 v0 rfl rfl) h0
  obtain ⟨a1, rfl, rfl, rfl, w1⟩ := open_int Try.underlying22 (hval 1 22 v1 rfl rfl) h1
  obtain ⟨a2, rfl, rfl, rfl, w2⟩ := open_int Try.underlying22 (hval 2 22 v2 rfl rfl) h2
  obtain ⟨a3, rfl, rfl, rfl, w3⟩ := open_int Try.underlying22 (hval 3 22 v3 rfl rfl) h3
  clear hA0 hval0
  simp only [List.append_nil] at hW'
  refine (walk a0 a1 a2 a3 w0 w1 w2 w3 W).mono fun e W' ⟨he, hg⟩ => ?_
  subst he
  exact ⟨_, rfl, post_of_same (pa := []) (pv := []) hW' (fun _ _ _ => (trodAll_cons_mk (shut_bool Try.underlying4 _) trodAll_mk0)) (fun sp _ => (trodAll_cons_mk (shut_int Try.underlying22 w0) (trodAll_cons_mk (shut_int Try.underlying22 w1) (trodAll_cons_mk (shut_int Try.underlying22 w2) (trodAll_cons_mk (shut_int Try.underlying22 w3) trodAll_mk0))))) (fun _ _ => rfl) rfl
    (hg.frame _) hg.2.1 (ok_one (by kernel_rfl) rfl (okWide_bool_mk Try.underlying4 _))⟩

theorem over : Rows.fnTrafficDifferenceOfReadingsIsWhatWasCountedRow.holds Try.pinned (OpenSpec.ofChange Rows.fnTrafficDifferenceOfReadingsIsWhatWasCountedSpec) :=
  OpenClaim.holds_of_wide 3 Try.f3 rfl rfl rfl rfl rfl rfl rfl ⟨rfl, rfl, rfl, rfl, rfl⟩ rfl rfl rfl rfl rfl (by kernel_rfl) Try.func3 (by kernel_rfl)
    (of_decide_eq_true (by kernel_rfl)) (by unfold Func.isWrapper; first | (rw [if_pos (by decide +kernel)]; kernel_rfl) | (rw [if_neg (by decide +kernel)]; exact ⟨rfl, rfl⟩))
    (fun os started H enc _ => lifted os started H enc)

/-- ████ THE STATEMENT ████ -/
theorem proved : Rows.FnTrafficDifferenceOfReadingsIsWhatWasCountedSaid :=
  over
end Go.Proofs.Qxb6612175a.fnTrafficDifferenceOfReadingsIsWhatWasCounted
