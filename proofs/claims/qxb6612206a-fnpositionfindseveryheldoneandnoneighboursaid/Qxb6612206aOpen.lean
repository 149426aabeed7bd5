/-
  WHAT COMES IN, OPENED: a slice of strings, a slice of ints.
-/
import Derived.Test.Qxb6612206aWalksF
import Derived.ProofKit
import Derived.OpenShut
import Derived.ShutString
import Derived.ChangeOld
import Derived.Deep.Slices
namespace Go.Proofs.Qxb6612206a.Pos
open Go.ChangeShapes Go.WideShapes Go.ChangeAt Go.RowKit Go.Deep
set_option linter.unusedVariables false

theorem own : ownKnob Try.prog.godebug = none := by kernel_rfl
theorem laidOut : laidOutB Try.prog = true := by kernel_rfl
theorem cells9 : Try.prog.cellsOf 9 = 1 := by kernel_rfl
theorem cells2 : Try.prog.cellsOf 2 = 1 := by kernel_rfl

theorem open_S {H : Type} {enc : TypeId × Value → H} {W : World} {a : Option Addr} {n c : Nat} {fuel : Nat} {x : DataW H × List MemPlace}
    (hf : DataW.trod enc Try.prog W 0 (fun _ => true) true fuel 22 [.slice a n c] = some x) : ∃ b o P, Strs W a b o n P ∧ (a = none → n = 0) ∧ n ≤ maxLen := by
  rcases open_slice1 Try.underlying22 cells9 hf with ⟨hcs, _⟩ | ⟨ad, len, cap, m, k, V, D, Pl, hcs, hb, hl, hm, hmm, _, hx⟩
  · simp at hcs
    obtain ⟨rfl, rfl, rfl⟩ := hcs
    exact ⟨0, 0, fun _ => ⟨#[]⟩, ⟨fun h => absurd h (Nat.lt_irrefl _), fun i hi => absurd hi (Nat.not_lt_zero _), fun i hi => absurd hi (Nat.not_lt_zero _)⟩, fun _ => rfl, Nat.zero_le _⟩
  · simp at hcs
    obtain ⟨rfl, rfl, rfl⟩ := hcs
    simp only [if_true] at hmm
    subst hmm
    obtain ⟨ab, ao, spot⟩ := ad
    have inh : Inhabited ByteArray := ⟨⟨#[]⟩⟩
    obtain ⟨P, hP⟩ := choose_lt (α := ByteArray) (n := m) (p := fun i s => W.cell? ((⟨ab, ao, spot⟩ : Addr).add i) = some (.string s) ∧ s.size ≤ maxLen) (fun i hi => by
      obtain ⟨h1, h2⟩ := hx i hi
      obtain ⟨s, e, _, hs⟩ := DataW.trod_string Try.underlying9 h2
      simp at e
      exact ⟨s, by rw [h1, e], hs⟩)
    have hspot : 0 < n → spot = none := fun hp => by
      simpa [Addr.add] using World.cell?_spot (hP 0 (by omega)).1
    refine ⟨ab, ao, P, ⟨fun hp => by rw [hspot hp], fun i hi => ?_, fun i hi => (hP i (by omega)).2⟩, fun h => (by cases h), by omega⟩
    have := (hP i (by omega)).1
    rwa [hspot (by omega), Addr.add_mid] at this

theorem open_I {H : Type} {enc : TypeId × Value → H} {W : World} {a : Option Addr} {n c : Nat} {fuel : Nat} {x : DataW H × List MemPlace}
    (hf : DataW.trod enc Try.prog W 0 (fun _ => true) true fuel 23 [.slice a n c] = some x) : ∃ b o q, Ints W a b o n q ∧ (a = none → n = 0) ∧ n ≤ maxLen := by
  rcases open_slice1 Try.underlying23 cells2 hf with ⟨hcs, _⟩ | ⟨ad, len, cap, m, k, V, D, Pl, hcs, hb, hl, hm, hmm, _, hx⟩
  · simp at hcs
    obtain ⟨rfl, rfl, rfl⟩ := hcs
    exact ⟨0, 0, fun _ => 0, ⟨fun h => absurd h (Nat.lt_irrefl _), fun i hi => absurd hi (Nat.not_lt_zero _)⟩, fun _ => rfl, Nat.zero_le _⟩
  · simp at hcs
    obtain ⟨rfl, rfl, rfl⟩ := hcs
    simp only [if_true] at hmm
    subst hmm
    obtain ⟨ab, ao, spot⟩ := ad
    obtain ⟨q, hq⟩ := choose_lt (α := Int) (n := m) (p := fun i s => W.cell? ((⟨ab, ao, spot⟩ : Addr).add i) = some (.int .i64 s)) (fun i hi => by
      obtain ⟨h1, h2⟩ := hx i hi
      obtain ⟨s, e, _, hs⟩ := DataW.trod_int Try.underlying2 h2
      simp at e
      exact ⟨s, by rw [h1, e]⟩)
    have hspot : 0 < n → spot = none := fun hp => by
      simpa [Addr.add] using World.cell?_spot (hq 0 (by omega))
    refine ⟨ab, ao, q, ⟨fun hp => by rw [hspot hp], fun i hi => ?_⟩, fun h => (by cases h), by omega⟩
    have := hq i (by omega)
    rwa [hspot (by omega), Addr.add_mid] at this
end Go.Proofs.Qxb6612206a.Pos
