/-
  A REGION THAT DRAWS ITS ORDER AND STORES AT ITS END INTO A CELL THAT IT HAS LOADED ('x.f = append(x.f, ..)'). The library's 'wpAnyH' asks the condition S behind EVERY operation that is carried out, the last store too. Here S is asked only behind the first m operations: those from m on must each wait for whatever is taken first.
  After the library's OrdersHeld (wpAnyH, wpAnyH_first, wpAnyH_take) and RegionHeld (AllReadyH.cons): the same proofs with that one condition more.
-/
import Derived.Deep.RegionHeld3
namespace Go.Proofs.Qxb6612206a.Dr
open Go
section
variable {P : Program} {ops : Array Oper} {Q : Exit → Act → World → Prop} {md : Region.Mode} {S : World → Prop}

def wpAnyN (P : Program) (md : Region.Mode) (ops : Array Oper) (Q : Exit → Act → World → Prop) (S : World → Prop) (m : Nat) : Nat → Array Bool → Act → World → Prop
  | 0, listed, a, w => Region.ready md ops listed = [] ∧ Q .normal a w
  | fuel + 1, listed, a, w =>
    (Region.ready md ops listed = [] → Q .normal a w) ∧
    ∀ i ∈ Region.ready md ops listed, wpOp P ops Q i (fun a' w' => (i < m → S w') ∧ wpAnyN P md ops Q S m fuel (listed.setIfInBounds i true) a' w') a w

theorem wpAny_of_N {m : Nat} : ∀ (fuel : Nat) (listed : Array Bool) (a : Act) (w : World), wpAnyN P md ops Q S m fuel listed a w → wpAny P md ops Q fuel listed a w
  | 0, _, _, _, h => h
  | fuel + 1, _, _, _, h => ⟨h.1, fun i hi => wpOp_mono (fun a' w' h' => wpAny_of_N fuel _ a' w' h'.2) (h.2 i hi)⟩

/-- Each operation from m on waits for number i. -/
def waits (md : Region.Mode) (ops : Array Oper) (m i : Nat) : Bool := (List.range ops.size).all fun j => decide (j < m) || (match ops[j]? with | some oj => oj.after.any (fun e => Region.binds md e && e.on == i) | none => true)

theorem waits_spec {m i j : Nat} {oj : Oper} (h : waits md ops m i = true) (hj : ops[j]? = some oj) (hm : m ≤ j) : ∃ e ∈ oj.after, Region.binds md e = true ∧ e.on = i := by
  have hlt : j < ops.size := (Array.getElem?_eq_some_iff.1 hj).1
  have := List.all_eq_true.1 h j (List.mem_range.2 hlt)
  rw [hj] at this
  have hd : decide (j < m) = false := by simp; omega
  rw [hd, Bool.false_or, Array.any_eq_true'] at this
  obtain ⟨e, he, h2⟩ := this
  rw [Bool.and_eq_true, beq_iff_eq] at h2
  exact ⟨e, he, h2.1, h2.2⟩

theorem wpAnyN_first {m i : Nat} {oi : Oper} {v : Value} (him : i < m) (hwait : waits md ops m i = true) (hi : ops[i]? = some oi) (hsel : ∀ (j : Nat) (o : Oper) cs b, ops[j]? = some o → o.op ≠ .select cs b)
    (hQ : ∀ c a w, Q (.panic c) (a.put oi.dst v) w → Q (.panic c) a w) :
    ∀ (fuel : Nat) (listed : Array Bool) (a : Act) (w : World),
      (∀ j oj, ops[j]? = some oj → j ≠ i → listed.getD j true = false → (∀ e ∈ oj.after, Region.binds md e = true → e.on ≠ i) → oi.apart ops oj = true) →
      i ∈ Region.ready md ops listed → YieldsIf P ops S oi v a → S w →
      wpAnyN P md ops Q S m fuel (listed.setIfInBounds i true) (a.put oi.dst v) w → wpAnyN P md ops Q S m (fuel + 1) listed a w := by
  intro fuel
  induction fuel with
  | zero =>
    intro listed a w _ hr hy hS H
    refine ⟨fun h => (by rw [h] at hr; cases hr), fun j hj => ?_⟩
    by_cases hji : j = i
    · subst hji; exact hy.wpOp hi hS ⟨fun _ => hS, H⟩
    · have := ready_mono hj hji
      rw [H.1] at this
      cases this
  | succ fuel ih =>
    intro listed a w hfree hr hy hS H
    refine ⟨fun h => (by rw [h] at hr; cases hr), fun j hj => ?_⟩
    by_cases hji : j = i
    · subst hji; exact hy.wpOp hi hS ⟨fun _ => hS, H⟩
    · have h1 := H.2 j (ready_mono hj hji)
      obtain ⟨hjun, oj, hoj, hall⟩ := mem_ready.1 hj
      have hnot : ∀ e ∈ oj.after, Region.binds md e = true → e.on ≠ i := fun e he hb heq => by
        have h1 := hall e he hb
        have h0 := (mem_ready.1 hr).1
        rw [heq] at h1
        rcases Nat.lt_or_ge i listed.size with h' | h'
        · simp [h'] at h0 h1; rw [h0] at h1; cases h1
        · simp [Array.getElem?_eq_none h'] at h1
      have hjm : j < m := by
        rcases Nat.lt_or_ge j m with h | h
        · exact h
        · obtain ⟨e, he, hb, heq⟩ := waits_spec hwait hoj h
          exact absurd heq (hnot e he hb)
      have h2 := wpOp_putIf hoj (hfree j oj hoj hji hjun hnot) (fun cs b => hsel i oi cs b hi) (fun cs b => hsel j oj cs b hoj) hQ hy h1
      have hfree' : ∀ k ok, ops[k]? = some ok → k ≠ i → (listed.setIfInBounds j true).getD k true = false →
          (∀ e ∈ ok.after, Region.binds md e = true → e.on ≠ i) → oi.apart ops ok = true := fun k ok hk hki hun hno => by
        refine hfree k ok hk hki ?_ hno
        by_cases hjk : j = k
        · subst hjk; exact hjun
        · rw [getD_set_ne true hjk] at hun; exact hun
      refine wpOp_mono (fun a' w' h3 => ⟨h3.2.1, ih (listed.setIfInBounds j true) a' w' hfree' (ready_mono hr (Ne.symm hji)) h3.1 (h3.2.1 hjm) ?_⟩) h2
      rw [Array.setIfInBounds_comm _ _ hji]
      exact h3.2.2

/-- Take number 'i' first. -/
theorem wpAnyN_take {m i : Nat} {oi : Oper} {v : Value} {fuel : Nat} {listed : Array Bool} {a : Act} {w : World} (hi : ops[i]? = some oi)
    (hc : (decide (i < m) && waits md ops m i && Region.noSelect ops && Region.free md ops listed i && (Region.ready md ops listed).contains i) = true)
    (hQ : ∀ c a w, Q (.panic c) (a.put oi.dst v) w → Q (.panic c) a w) (hy : YieldsIf P ops S oi v a) (hS : S w)
    (h : wpAnyN P md ops Q S m fuel (listed.setIfInBounds i true) (a.put oi.dst v) w) : wpAnyN P md ops Q S m (fuel + 1) listed a w := by
  simp only [Bool.and_eq_true, decide_eq_true_eq] at hc
  obtain ⟨⟨⟨⟨h1, h2⟩, h3⟩, h4⟩, h5⟩ := hc
  exact wpAnyN_first h1 h2 hi (Region.noSelect_spec h3) hQ fuel listed a w (Region.free_spec hi h4) (by simpa using h5) hy hS h

/-- The same, the frame and the list of what has come up written out. -/
theorem take {m i d : Nat} {oi : Oper} {v : Value} {fuel : Nat} {listed : Array Bool} (l' : Array Bool) {tmps : Array Value} {dfs : List Deferred} {w : World} (hi : ops[i]? = some oi) (hd : oi.dst = some d)
    (hl : listed.setIfInBounds i true = l')
    (hc : (decide (i < m) && waits md ops m i && Region.noSelect ops && Region.free md ops listed i && (Region.ready md ops listed).contains i) = true)
    (hQ : ∀ c a w, Q (.panic c) (a.put oi.dst v) w → Q (.panic c) a w) (hy : YieldsIf P ops S oi v ⟨tmps, dfs⟩) (hS : S w)
    (h : wpAnyN P md ops Q S m fuel l' ⟨tmps.setIfInBounds d v, dfs⟩ w) : wpAnyN P md ops Q S m (fuel + 1) listed ⟨tmps, dfs⟩ w := by
  refine wpAnyN_take hi hc hQ hy hS ?_
  rw [hd, hl]
  exact h

/-- One alone may come up, and is carried out. -/
theorem wpAnyN_one {m i : Nat} {o : Oper} {fuel : Nat} {listed : Array Bool} {a : Act} {w : World} (ho : ops[i]? = some o) (hr : Region.ready md ops listed = [i])
    (h : ∀ K' : Act → World → Prop, Shut (∀ a w, (i < m → S w) → wpAnyN P md ops Q S m fuel (listed.setIfInBounds i true) a w → K' a w) → if Region.wanted o (yielded ops a.tmps) = true then Oper.wp P o a w K' Q else K' (a.put o.dst undef) w) :
    wpAnyN P md ops Q S m (fuel + 1) listed a w := by
  refine ⟨fun h0 => (by rw [hr] at h0; cases h0), fun j hj => ?_⟩
  rw [hr] at hj
  obtain rfl : j = i := by simpa using hj
  exact wpOp_step ho (fun K' hK => h K' (fun a w hS hW => hK a w ⟨hS, hW⟩))

/-- The same, the list of what has come up written out. -/
theorem one {m i : Nat} {o : Oper} {fuel : Nat} {listed : Array Bool} (l' : Array Bool) {a : Act} {w : World} (ho : ops[i]? = some o) (hr : Region.ready md ops listed = [i]) (hl : listed.setIfInBounds i true = l')
    (h : ∀ K' : Act → World → Prop, Shut (∀ a w, (i < m → S w) → wpAnyN P md ops Q S m fuel l' a w → K' a w) → if Region.wanted o (yielded ops a.tmps) = true then Oper.wp P o a w K' Q else K' (a.put o.dst undef) w) :
    wpAnyN P md ops Q S m (fuel + 1) listed a w := wpAnyN_one ho hr (by rw [hl]; exact h)

theorem wpAnyN_done {m : Nat} {listed : Array Bool} {a : Act} {w : World} (hr : Region.ready md ops listed = []) (h : Q .normal a w) : ∀ fuel, wpAnyN P md ops Q S m fuel listed a w
  | 0 => ⟨hr, h⟩
  | _ + 1 => ⟨fun _ => h, by rw [hr]; simp⟩

theorem wp_region_N {m id : Nat} (F : Nat) (l0 : Array Bool) {a : Act} {w : World} (hm : P.follows .mixedOrders = true) (hF : ops.size = F) (h0 : Array.replicate ops.size false = l0)
    (h : wpAnyN P .any ops Q S m F l0 a w.drew) : (Code.region id ops true).wp P Q a w :=
  wp_region_any hm (wpAny_of_N _ _ _ _ (by rw [h0, hF]; exact h))
end
end Go.Proofs.Qxb6612206a.Dr
