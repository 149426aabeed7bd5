/-
  THE WALKS, part D: the guards, which only read.
-/
import Derived.Test.Qxb6612206aWalksA
namespace Go.Proofs.Qxb6612206a.Pos
open Go.RowKit
set_option linter.unusedVariables false

/-- A slice of strings: where there is an element, its address is plain; its elements. -/
structure Strs (w : World) (a : Option Addr) (b o n : Nat) (P : Nat → ByteArray) : Prop where
  ha : 0 < n → a = some ⟨b, o, none⟩
  cell : ∀ i, i < n → w.cell? ⟨b, o + i, none⟩ = some (.string (P i))
  len : ∀ i, i < n → (P i).size ≤ maxLen
/-- A slice of ints. -/
structure Ints (w : World) (a : Option Addr) (b o n : Nat) (q : Nat → Int) : Prop where
  ha : 0 < n → a = some ⟨b, o, none⟩
  cell : ∀ i, i < n → w.cell? ⟨b, o + i, none⟩ = some (.int .i64 (q i))

/-- How a guard ends: it says yes or no, and turns nothing; where it says yes, p holds. -/
def GuardOut (w : World) (p : Prop) (e : Ending) (w' : World) : Prop := (∃ r : Bool, e = .returned (.bool r) ∧ (r = true → p)) ∧ w' = w
theorem GuardOut.no {w : World} {p : Prop} {e : Ending} (h : e = .returned (.bool false)) : GuardOut w p e w := ⟨⟨false, h, by simp⟩, rfl⟩
theorem GuardOut.yes {w : World} {p : Prop} {e : Ending} (h : e = .returned (.bool true)) (hp : p) : GuardOut w p e w := ⟨⟨true, h, fun _ => hp⟩, rfl⟩

set_option maxHeartbeats 2000000 in
theorem zzBytes_three (a1 a2 a3 : Option Addr) (b1 o1 b2 o2 : Nat) (n nk nq c1 c2 c3 : Nat) (Ps Ks : Nat → ByteArray) (w : World) (hp : Strs w a1 b1 o1 n Ps) (hk : Strs w a2 b2 o2 nk Ks) (m1 : n ≤ maxLen) (m2 : nk ≤ maxLen) (m3 : nq ≤ maxLen) :
    Calls Try.prog 11 #[.slice a1 n c1, .slice a2 nk c2, .slice a3 nq c3] w fun e w' => GuardOut w (n ≤ 1048576) e w' := by
  unfold maxLen at m1 m2 m3
  have HP : Hid (Strs w a1 b1 o1 n Ps) := hp
  have HK : Hid (Strs w a2 b2 o2 nk Ks) := hk
  clear hp hk
  by_cases hb : (1048576 : Int) < n
  · go_enter Try.func11, Try.ntmps11
    go_wp2
    go_ret
    exact GuardOut.no rfl
  go_enter Try.func11, Try.ntmps11
  go_wp2
  go_loop [7, 8] (fun t i => ∃ k : Nat, ∃ m : Nat, k ≤ n ∧ m ≤ 1048576 ∧ i = .int .i64 k ∧ t = .int .i64 m) (fun _ i => n - (intOf i).toNat)
  case atStart => exact ⟨0, n, Nat.zero_le _, by omega, rfl, rfl⟩
  case round =>
    obtain ⟨k, m, hk, hm, rfl, rfl⟩ := hrel
    by_cases hlt : k < n
    · obtain rfl := HP.out.ha (by omega)
      have hc := HP.out.cell k hlt
      have hl := HP.out.len k hlt
      unfold maxLen at hl
      go_wp2
      · go_ret
        exact GuardOut.no rfl
      · go_ret
        exact GuardOut.no rfl
      · go_round
        case rel => exact ⟨k + 1, m + (Ps k).size, by omega, by omega, by go_num, by go_num⟩
        case measure => simp [intOf]; omega
    · by_cases h2 : (1048576 : Int) < nk
      · go_wp2
        go_ret
        exact GuardOut.no rfl
      by_cases h3 : (1048576 : Int) < (m : Int) + nk
      · go_wp2
        go_ret
        exact GuardOut.no rfl
      go_wp2
      go_loop [7, 9] (fun t i => ∃ k : Nat, ∃ m : Nat, k ≤ nk ∧ m ≤ 1048576 ∧ i = .int .i64 k ∧ t = .int .i64 m) (fun _ i => nk - (intOf i).toNat)
      case atStart => exact ⟨0, m + nk, Nat.zero_le _, by omega, rfl, by go_num⟩
      case round =>
        obtain ⟨k', m', hk', hm', rfl, rfl⟩ := hrel
        by_cases hlt' : k' < nk
        · obtain rfl := HK.out.ha (by omega)
          have hc := HK.out.cell k' hlt'
          have hl := HK.out.len k' hlt'
          unfold maxLen at hl
          go_wp2
          · go_ret
            exact GuardOut.no rfl
          · go_ret
            exact GuardOut.no rfl
          · go_round
            case rel => exact ⟨k' + 1, m' + (Ks k').size, by omega, by omega, by go_num, by go_num⟩
            case measure => simp [intOf]; omega
        · go_wp2
          all_goals
            go_ret
            first | exact GuardOut.no rfl | exact GuardOut.yes rfl (by omega)

set_option maxHeartbeats 2000000 in
theorem zzBytes_five (a1 a2 a3 : Option Addr) (b1 o1 b2 o2 : Nat) (n nk nq c1 c2 c3 : Nat) (Ps Ks : Nat → ByteArray) (kp kk : ByteArray) (w : World) (hp : Strs w a1 b1 o1 n Ps) (hk : Strs w a2 b2 o2 nk Ks) (m1 : n ≤ maxLen) (m2 : nk ≤ maxLen) (m3 : nq ≤ maxLen) (m4 : kp.size ≤ maxLen) (m5 : kk.size ≤ maxLen) :
    Calls Try.prog 5 #[.slice a1 n c1, .slice a2 nk c2, .slice a3 nq c3, .string kp, .string kk] w fun e w' => GuardOut w (n ≤ 1048576) e w' := by
  unfold maxLen at m1 m2 m3 m4 m5
  have HP : Hid (Strs w a1 b1 o1 n Ps) := hp
  have HK : Hid (Strs w a2 b2 o2 nk Ks) := hk
  clear hp hk
  by_cases hb : (1048576 : Int) < n
  · go_enter Try.func5, Try.ntmps5
    go_wp2
    go_ret
    exact GuardOut.no rfl
  go_enter Try.func5, Try.ntmps5
  go_wp2
  go_loop [11, 12] (fun t i => ∃ k : Nat, ∃ m : Nat, k ≤ n ∧ m ≤ 1048576 ∧ i = .int .i64 k ∧ t = .int .i64 m) (fun _ i => n - (intOf i).toNat)
  case atStart => exact ⟨0, n, Nat.zero_le _, by omega, rfl, rfl⟩
  case round =>
    obtain ⟨k, m, hk, hm, rfl, rfl⟩ := hrel
    by_cases hlt : k < n
    · obtain rfl := HP.out.ha (by omega)
      have hc := HP.out.cell k hlt
      have hl := HP.out.len k hlt
      unfold maxLen at hl
      go_wp2
      · go_ret
        exact GuardOut.no rfl
      · go_ret
        exact GuardOut.no rfl
      · go_round
        case rel => exact ⟨k + 1, m + (Ps k).size, by omega, by omega, by go_num, by go_num⟩
        case measure => simp [intOf]; omega
    · by_cases h2 : (1048576 : Int) < nk
      · go_wp2
        go_ret
        exact GuardOut.no rfl
      by_cases h3 : (1048576 : Int) < (m : Int) + nk
      · go_wp2
        go_ret
        exact GuardOut.no rfl
      go_wp2
      go_loop [11, 13] (fun t i => ∃ k : Nat, ∃ m : Nat, k ≤ nk ∧ m ≤ 1048576 ∧ i = .int .i64 k ∧ t = .int .i64 m) (fun _ i => nk - (intOf i).toNat)
      case atStart => exact ⟨0, m + nk, Nat.zero_le _, by omega, rfl, by go_num⟩
      case round =>
        obtain ⟨k', m', hk', hm', rfl, rfl⟩ := hrel
        by_cases hlt' : k' < nk
        · obtain rfl := HK.out.ha (by omega)
          have hc := HK.out.cell k' hlt'
          have hl := HK.out.len k' hlt'
          unfold maxLen at hl
          go_wp2
          · go_ret
            exact GuardOut.no rfl
          · go_ret
            exact GuardOut.no rfl
          · go_round
            case rel => exact ⟨k' + 1, m' + (Ks k').size, by omega, by omega, by go_num, by go_num⟩
            case measure => simp [intOf]; omega
        · go_wp2
          all_goals
            go_ret
            first | exact GuardOut.no rfl | exact GuardOut.yes rfl (by omega)

/-- It hands back some number, and turns nothing. -/
def IntOut (w : World) (e : Ending) (w' : World) : Prop := (∃ m : Int, e = .returned (.int .i64 m)) ∧ w' = w

set_option maxHeartbeats 2000000 in
theorem posBytes_any (a1 a2 a3 : Option Addr) (b1 o1 b2 o2 : Nat) (n nk nq c1 c2 c3 : Nat) (Ps Ks : Nat → ByteArray) (w : World) (hp : Strs w a1 b1 o1 n Ps) (hk : Strs w a2 b2 o2 nk Ks) (m1 : n ≤ maxLen) (m2 : nk ≤ maxLen) (m3 : nq ≤ maxLen) :
    Calls Try.prog 6 #[.slice a1 n c1, .slice a2 nk c2, .slice a3 nq c3] w fun e w' => IntOut w e w' := by
  unfold maxLen at m1 m2 m3
  have HP : Hid (Strs w a1 b1 o1 n Ps) := hp
  have HK : Hid (Strs w a2 b2 o2 nk Ks) := hk
  clear hp hk
  go_enter Try.func6, Try.ntmps6
  go_wp2
  go_loop [7, 8] (fun t i => ∃ k : Nat, ∃ m : Int, k ≤ n ∧ i = .int .i64 k ∧ t = .int .i64 m) (fun _ i => n - (intOf i).toNat)
  case atStart => exact ⟨0, _, Nat.zero_le _, rfl, rfl⟩
  case round =>
    obtain ⟨k, m, hk, rfl, rfl⟩ := hrel
    by_cases hlt : k < n
    · obtain rfl := HP.out.ha (by omega)
      have hc := HP.out.cell k hlt
      go_wp2
      go_round
      case rel => exact ⟨k + 1, _, by omega, by go_num, rfl⟩
      case measure => simp [intOf]; omega
    · go_wp2
      go_loop [7, 9] (fun t i => ∃ k : Nat, ∃ m : Int, k ≤ nk ∧ i = .int .i64 k ∧ t = .int .i64 m) (fun _ i => nk - (intOf i).toNat)
      case atStart => exact ⟨0, _, Nat.zero_le _, rfl, rfl⟩
      case round =>
        obtain ⟨k', m', hk', rfl, rfl⟩ := hrel
        by_cases hlt' : k' < nk
        · obtain rfl := HK.out.ha (by omega)
          have hc := HK.out.cell k' hlt'
          go_wp2
          go_round
          case rel => exact ⟨k' + 1, _, by omega, by go_num, rfl⟩
          case measure => simp [intOf]; omega
        · go_wp2
          go_ret
          exact ⟨⟨_, rfl⟩, rfl⟩

theorem keyLess_any (p1 k1 p2 k2 : ByteArray) (w : World) : Calls Try.prog 12 #[.string p1, .string k1, .string p2, .string k2] w fun e w' => e = .returned (.bool (lt2 p1.toList k1.toList p2.toList k2.toList)) ∧ w' = w := by
  by_cases h1 : Op.bytesLess p1.toList p2.toList = true
  · have hl : lt2 p1.toList k1.toList p2.toList k2.toList = true := by simp [lt2, h1]
    rw [hl]; clear hl
    go_enter Try.func12, Try.ntmps12
    go_wp2
    go_ret
    exact ⟨rfl, rfl⟩
  · have h1' : Op.bytesLess p1.toList p2.toList = false := by simpa using h1
    clear h1
    by_cases h2 : p1.toList = p2.toList
    · have h2' : (p1.toList == p2.toList) = true := by simp [h2]
      have hl : lt2 p1.toList k1.toList p2.toList k2.toList = Op.bytesLess k1.toList k2.toList := by simp [lt2, h1', h2']
      rw [hl]; clear hl h2
      go_enter Try.func12, Try.ntmps12
      go_wp2
      go_ret
      exact ⟨rfl, rfl⟩
    · have h2' : (p1.toList == p2.toList) = false := by simp [h2]
      have hl : lt2 p1.toList k1.toList p2.toList k2.toList = false := by simp [lt2, h1', h2']
      rw [hl]; clear hl h2
      go_enter Try.func12, Try.ntmps12
      go_wp2
      go_ret
      exact ⟨rfl, rfl⟩

theorem Rising.one (A B : Nat → List UInt8) : Rising 1 A B := fun i h => absurd h (by omega)
theorem Rising.zero (A B : Nat → List UInt8) : Rising 0 A B := fun i h => absurd h (by omega)
theorem Rising.step {A B : Nat → List UInt8} {j : Nat} (h : Rising (j + 1) A B) (hl : lt2 (A j) (B j) (A (j + 1)) (B (j + 1)) = true) : Rising (j + 1 + 1) A B := fun i hi => by
  by_cases e : i = j
  · subst e; exact hl
  · exact h i (by omega)

/-- A guard that may draw: nothing that was there has turned. -/
def GuardBel (w : World) (p : Prop) (e : Ending) (w' : World) : Prop := (∃ r : Bool, e = .returned (.bool r) ∧ (r = true → p)) ∧ ∃ d, w' = w.drewN d
theorem GuardBel.no {w w' : World} {p : Prop} {e : Ending} (h : e = .returned (.bool false)) {d : Nat} (hd : w' = w.drewN d) : GuardBel w p e w' := ⟨⟨false, h, by simp⟩, d, hd⟩
theorem GuardBel.yes {w w' : World} {p : Prop} {e : Ending} (h : e = .returned (.bool true)) (hp : p) {d : Nat} (hd : w' = w.drewN d) : GuardBel w p e w' := ⟨⟨true, h, fun _ => hp⟩, d, hd⟩

theorem drewN_more {w wr : World} {m : Nat} (h : ∃ d, wr = w.drewN d) : ∃ d, wr.drewN m = w.drewN d := by
  obtain ⟨d, rfl⟩ := h
  exact ⟨d + m, by simp [World.drewN, Nat.add_assoc]⟩

/-- The positions are good: as many of each, in rising order. -/
def Good (n nk nq : Nat) (Ps Ks : Nat → ByteArray) : Prop := nk = n ∧ nq = n ∧ Rising n (fun i => (Ps i).toList) (fun i => (Ks i).toList)

set_option maxHeartbeats 2000000 in
theorem positionsOK_any (a1 a2 a3 : Option Addr) (b1 o1 b2 o2 b3 o3 : Nat) (n nk nq c1 c2 c3 : Nat) (Ps Ks : Nat → ByteArray) (qs : Nat → Int) (w : World) (hp : Strs w a1 b1 o1 n Ps) (hk : Strs w a2 b2 o2 nk Ks) (hq : Ints w a3 b3 o3 nq qs) (m1 : n ≤ 1048576) :
    Calls Try.prog 7 #[.slice a1 n c1, .slice a2 nk c2, .slice a3 nq c3] w fun e w' => GuardBel w (Good n nk nq Ps Ks) e w' := by
  have HP : Hid (Strs w a1 b1 o1 n Ps) := hp
  have HK : Hid (Strs w a2 b2 o2 nk Ks) := hk
  have HQ : Hid (Ints w a3 b3 o3 nq qs) := hq
  clear hp hk hq
  by_cases e1 : nk = n
  case neg =>
    have h1 : ((nk : Int) != (n : Int)) = true := by rw [bne_iff_ne]; omega
    go_enter Try.func7, Try.ntmps7
    go_wp2
    go_ret
    exact GuardBel.no rfl (d := 0) rfl
  subst e1
  by_cases e2 : nq = nk
  case neg =>
    have h1 : ((nq : Int) != (nk : Int)) = true := by rw [bne_iff_ne]; omega
    go_enter Try.func7, Try.ntmps7
    go_wp2
    go_ret
    exact GuardBel.no rfl (d := 0) rfl
  subst e2
  go_enter Try.func7, Try.ntmps7
  go_wp2
  go_loopw [7] (fun i wr => ∃ k : Nat, k ≤ nq ∧ i = .int .i64 k ∧ Rising k (fun i => (Ps i).toList) (fun i => (Ks i).toList) ∧ ∃ d, wr = w.drewN d) (fun i _ => nq - (intOf i).toNat)
  case atStart => exact ⟨0, Nat.zero_le _, rfl, Rising.zero _ _, 0, rfl⟩
  case round =>
    obtain ⟨k, hk, rfl, hr, hdw⟩ := hrel
    have HD : Hid (∃ d, wr = w.drewN d) := hdw
    have hcw : ∀ a, wr.cell? a = w.cell? a := by obtain ⟨d, rfl⟩ := hdw; intro a; rfl
    clear hdw
    have HR : Hid (Rising k (fun i => (Ps i).toList) (fun i => (Ks i).toList)) := hr
    clear hr
    by_cases hlt : k < nq
    · obtain rfl := HP.out.ha (by omega)
      obtain rfl := HK.out.ha (by omega)
      obtain rfl := HQ.out.ha (by omega)
      have cq := (hcw _).trans (HQ.out.cell k hlt)
      have cp := (hcw _).trans (HP.out.cell k hlt)
      have ck := (hcw _).trans (HK.out.cell k hlt)
      have HCW : Hid (∀ a, wr.cell? a = w.cell? a) := hcw
      clear hcw
      by_cases hq0 : qs k = 0
      · have hq1 : (qs k == 0) = true := by simp [hq0]
        go_wp2
        go_ret
        obtain ⟨d, hd'⟩ := HD.out; exact GuardBel.no rfl (d := d) hd'
      have hq1 : (qs k == 0) = false := by simp [hq0]
      clear hq0
      by_cases hk0 : k = 0
      · have HK0 : Hid (k = 0) := hk0
        have hd : decide ((0 : Int) < (k : Int)) = false := by simp; omega
        have hd2 : decide (0 < k) = false := by simp; omega
        clear hk0
        go_wp2_with fail
        go_quiet (fail)
        go_wp2
        go_roundw
        case rel => exact ⟨1, by omega, by have := HK0.out; subst this; rfl, Rising.one _ _, drewN_more HD.out⟩
        case measure => simp [intOf]; omega
      · obtain ⟨j, rfl⟩ : ∃ j, k = j + 1 := ⟨k - 1, by omega⟩
        have cp0 := (HCW.out _).trans (HP.out.cell j (by omega))
        have ck0 := (HCW.out _).trans (HK.out.cell j (by omega))
        have b1' : (0 : Int) < ((j + 1 : Nat) : Int) := by omega
        obtain ⟨r, hr⟩ : ∃ r, lt2 (Ps j).toList (Ks j).toList (Ps (j + 1)).toList (Ks (j + 1)).toList = r := ⟨_, rfl⟩
        have HL : Hid (lt2 (Ps j).toList (Ks j).toList (Ps (j + 1)).toList (Ks (j + 1)).toList = r) := hr
        have hcl : Hid (∀ w, Calls Try.prog 12 #[.string (Ps j), .string (Ks j), .string (Ps (j + 1)), .string (Ks (j + 1))] w fun e w' => e = .returned (.bool r) ∧ w' = w) := fun w => by rw [← hr]; exact keyLess_any _ _ _ _ w
        clear hr
        have hsub : IntKind.i64.wrap (j : Int) = (j : Int) := by rw [IntKind.wrap_i64]; omega
        have b5' : (j : Int) + 1 < (nq : Int) := by omega
        have b6' : (0 : Int) ≤ (j : Int) + 1 := by omega
        have b2' : (0 : Int) ≤ (j : Int) := by omega
        have b3' : (j : Int) < (nq : Int) := by omega
        have b4' : ((j + 1 : Nat) : Int) < (nq : Int) := by omega
        cases r
        · go_wp2_with fail
          go_quiet ((go_at_call 12; exact Calls.quiet_of_same (hcl.out _)))
          go_wp2
          go_ret
          obtain ⟨d, hd'⟩ := drewN_more HD.out
          exact GuardBel.no rfl hd'
        · go_wp2_with fail
          go_quiet ((go_at_call 12; exact Calls.quiet_of_same (hcl.out _)))
          go_wp2
          go_roundw
          case rel => exact ⟨j + 1 + 1, by omega, by go_num, HR.out.step HL.out, drewN_more HD.out⟩
          case measure => simp [intOf]; omega
    · obtain rfl : k = nq := by omega
      go_wp2
      go_ret
      obtain ⟨d, hd'⟩ := HD.out
      exact GuardBel.yes rfl ⟨rfl, rfl, HR.out⟩ hd'
end Go.Proofs.Qxb6612206a.Pos
