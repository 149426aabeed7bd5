/-
  THE WALKS, part G: the second law: every position that is held is found at its own place, and no neighbour.
-/
import Derived.Test.Qxb6612206aWalksF
import Derived.Lib.Strings
namespace Go.Proofs.Qxb6612206a.Pos
open Go.RowKit
set_option linter.unusedVariables false


set_option maxHeartbeats 2000000 in
theorem zzBytes_sized (a1 a2 a3 : Option Addr) (b1 o1 b2 o2 : Nat) (n nk nq c1 c2 c3 : Nat) (Ps Ks : Nat → ByteArray) (w : World) (hp : Strs w a1 b1 o1 n Ps) (hk : Strs w a2 b2 o2 nk Ks) (m1 : n ≤ maxLen) (m2 : nk ≤ maxLen) (m3 : nq ≤ maxLen) :
    Calls Try.prog 11 #[.slice a1 n c1, .slice a2 nk c2, .slice a3 nq c3] w fun e w' => GuardOut w (n ≤ 1048576 ∧ ∀ i, i < nk → (Ks i).size ≤ 1048576) e w' := by
  unfold maxLen at m1 m2 m3
  have HP : Hid (Strs w a1 b1 o1 n Ps) := hp
  have HK : Hid (Strs w a2 b2 o2 nk Ks) := hk
  clear hp hk
  by_cases hb : (1048576 : Int) < n
  · go_enter Try.func11, Try.ntmps11
    go_wp2
    go_ret
    exact GuardOut.no rfl
  go_enter Try.func11, Try.ntmps11
  go_wp2
  go_loop [7, 8] (fun t i => ∃ k : Nat, ∃ m : Nat, k ≤ n ∧ m ≤ 1048576 ∧ i = .int .i64 k ∧ t = .int .i64 m) (fun _ i => n - (intOf i).toNat)
  case atStart => exact ⟨0, n, Nat.zero_le _, by omega, rfl, rfl⟩
  case round =>
    obtain ⟨k, m, hk, hm, rfl, rfl⟩ := hrel
    by_cases hlt : k < n
    · obtain rfl := HP.out.ha (by omega)
      have hc := HP.out.cell k hlt
      have hl := HP.out.len k hlt
      unfold maxLen at hl
      go_wp2
      · go_ret
        exact GuardOut.no rfl
      · go_ret
        exact GuardOut.no rfl
      · go_round
        case rel => exact ⟨k + 1, m + (Ps k).size, by omega, by omega, by go_num, by go_num⟩
        case measure => simp [intOf]; omega
    · by_cases h2 : (1048576 : Int) < nk
      · go_wp2
        go_ret
        exact GuardOut.no rfl
      by_cases h3 : (1048576 : Int) < (m : Int) + nk
      · go_wp2
        go_ret
        exact GuardOut.no rfl
      go_wp2
      go_loop [7, 9] (fun t i => ∃ k : Nat, ∃ m : Nat, k ≤ nk ∧ m ≤ 1048576 ∧ i = .int .i64 k ∧ t = .int .i64 m ∧ ∀ j, j < k → (Ks j).size ≤ 1048576) (fun _ i => nk - (intOf i).toNat)
      case atStart => exact ⟨0, m + nk, Nat.zero_le _, by omega, rfl, by go_num, fun j hj => absurd hj (Nat.not_lt_zero _)⟩
      case round =>
        obtain ⟨k', m', hk', hm', rfl, rfl, hall⟩ := hrel
        have HALL : Hid (∀ j, j < k' → (Ks j).size ≤ 1048576) := hall
        clear hall
        by_cases hlt' : k' < nk
        · obtain rfl := HK.out.ha (by omega)
          have hc := HK.out.cell k' hlt'
          have hl := HK.out.len k' hlt'
          unfold maxLen at hl
          go_wp2
          · go_ret
            exact GuardOut.no rfl
          · go_ret
            exact GuardOut.no rfl
          · go_round
            case rel => exact ⟨k' + 1, m' + (Ks k').size, by omega, by omega, by go_num, by go_num, fun j hj => by by_cases e : j = k'; (subst e; omega); exact HALL.out j (by omega)⟩
            case measure => simp [intOf]; omega
        · go_wp2
          all_goals
            go_ret
            first | exact GuardOut.no rfl | exact GuardOut.yes rfl ⟨by omega, fun i hi => HALL.out i (by omega)⟩

set_option maxRecDepth 100000 in
set_option maxHeartbeats 4000000 in
theorem every_any (a1 a2 a3 : Option Addr) (b1 o1 b2 o2 b3 o3 : Nat) (n nk nq c1 c2 c3 : Nat) (Ps Ks : Nat → ByteArray) (qs : Nat → Int) (w : World) (hp : Strs w a1 b1 o1 n Ps) (hk : Strs w a2 b2 o2 nk Ks) (hq : Ints w a3 b3 o3 nq qs)
    (z1 : a1 = none → n = 0) (z2 : a2 = none → nk = 0) (z3 : a3 = none → nq = 0) (m1 : n ≤ maxLen) (m2 : nk ≤ maxLen) (m3 : nq ≤ maxLen) :
    Calls Try.prog 4 #[.slice a1 n c1, .slice a2 nk c2, .slice a3 nq c3] w fun e w' => LawOut w e w' := by
  have HP : Hid (Strs w a1 b1 o1 n Ps) := hp
  have HK : Hid (Strs w a2 b2 o2 nk Ks) := hk
  have HQ : Hid (Ints w a3 b3 o3 nq qs) := hq
  have Z1 : Hid (a1 = none → n = 0) := z1
  have Z2 : Hid (a2 = none → nk = 0) := z2
  have Z3 : Hid (a3 = none → nq = 0) := z3
  have M : Hid (n ≤ maxLen ∧ nk ≤ maxLen ∧ nq ≤ maxLen) := ⟨m1, m2, m3⟩
  clear hp hk hq z1 z2 z3 m1 m2 m3
  go_enter Try.func4, Try.ntmps4
  go_wp2_with fail
  refine (zzBytes_sized a1 a2 a3 b1 o1 b2 o2 n nk nq c1 c2 c3 Ps Ks w HP.out HK.out M.out.1 M.out.2.1 M.out.2.2).mono ?_
  rintro e w' ⟨⟨r, rfl, hr⟩, hw⟩
  obtain rfl := hw.symm
  cases r
  · go_wp2_with fail
    go_ret
    exact ⟨rfl, Below.refl _ _⟩
  obtain ⟨hn, hsz⟩ := hr rfl
  have HSZ : Hid (∀ i, i < nk → (Ks i).size ≤ 1048576) := hsz
  clear hr hsz
  go_wp2_with fail
  refine (posBytes_any a1 a2 a3 b1 o1 b2 o2 n nk nq c1 c2 c3 Ps Ks w HP.out HK.out M.out.1 M.out.2.1 M.out.2.2).mono ?_
  rintro e w' ⟨⟨m, rfl⟩, hw⟩
  obtain rfl := hw.symm
  go_wp2_with fail
  · go_ret
    exact ⟨rfl, Below.refl _ _⟩
  refine (positionsOK_any a1 a2 a3 b1 o1 b2 o2 b3 o3 n nk nq c1 c2 c3 Ps Ks qs w HP.out HK.out HQ.out hn).mono ?_
  rintro e w0 ⟨⟨r, rfl, hr⟩, hd⟩
  have hb0 : Below w.heap.size w w0 := by obtain ⟨d, rfl⟩ := hd; exact below_drewN w d
  clear hd
  cases r
  · go_wp2_with fail
    go_ret
    exact ⟨rfl, hb0⟩
  obtain ⟨e1, e2, hrise⟩ := hr rfl
  obtain rfl : n = nk := e1.symm
  obtain rfl : n = nq := e2.symm
  have HR : Hid (Rising n (fun i => (Ps i).toList) (fun i => (Ks i).toList)) := hrise
  clear hrise hr e1 e2
  have hm22 := make22 n hn
  have hm23 := make23 n hn
  have HP0 : Hid (Strs w0 a1 b1 o1 n Ps) := HP.out.below hb0
  have HK0 : Hid (Strs w0 a2 b2 o2 n Ks) := HK.out.below hb0
  have HQ0 : Hid (Ints w0 a3 b3 o3 n qs) := HQ.out.below hb0
  have HB0 : Hid (Below w.heap.size w w0) := hb0
  clear HP HK HQ hb0
  go_upto_if 32 with fail
  go_cut [0] (fun s0 x => ∃ a c b o, s0 = .slice a n c ∧ Strs x a b o n Ps ∧ Below w0.heap.size w0 x)
  case first =>
    cases a1 with
    | none =>
      go_wp2_with fail
      go_meet
      case rel => exact ⟨_, _, _, _, rfl, HP0.out, Below.refl _ _⟩
    | some ad =>
      go_wp2_with (refine copy_new (by rfl) (.tmp 36) (.tmp 37) 22 (by rfl) 9 Try.underlying22 one9 w0 (madeS n) n c1 ad (by rfl) (by simp [Act.eval]) (by simp [Act.eval]) (madeS_size n) b1 o1 (fun i => .string (Ps i)) (fun h => by simpa using HP0.out.ha h) HP0.out.cell (fun _ _ => rfl) ?_; intro x1 hc1 hb1)
      go_meet
      case rel => exact ⟨_, _, _, _, rfl, HP0.out.copied hc1, hb1⟩
  case rest =>
    obtain ⟨A1, C1, B1, O1, rfl, hs1, hbx1⟩ := hcut
    have HP1 : Hid (Strs wc A1 B1 O1 n Ps) := hs1
    have HK1 : Hid (Strs wc a2 b2 o2 n Ks) := HK0.out.below hbx1
    have HQ1 : Hid (Ints wc a3 b3 o3 n qs) := HQ0.out.below hbx1
    have HB1 : Hid (Below w.heap.size w wc) := HB0.out.trans (hbx1.mono HB0.out.size)
    clear HP0 HK0 HQ0 HB0 hbx1 hs1
    obtain ⟨x1, hx1⟩ : ∃ x1, x1 = wc := ⟨_, rfl⟩
    subst hx1
    go_upto_if 41 with fail
    go_cut [1] (fun s1 x => ∃ a c b o, s1 = .slice a n c ∧ Strs x a b o n Ks ∧ Below x1.heap.size x1 x)
    case first =>
      cases a2 with
      | none =>
        go_wp2_with fail
        go_meet
        case rel => exact ⟨_, _, _, _, rfl, HK1.out, Below.refl _ _⟩
      | some ad =>
        go_wp2_with (refine copy_new (by rfl) (.tmp 45) (.tmp 46) 22 (by rfl) 9 Try.underlying22 one9 x1 (madeS n) n c2 ad (by rfl) (by simp [Act.eval]) (by simp [Act.eval]) (madeS_size n) b2 o2 (fun i => .string (Ks i)) (fun h => by simpa using HK1.out.ha h) HK1.out.cell (fun _ _ => rfl) ?_; intro x2 hc2 hb2)
        go_meet
        case rel => exact ⟨_, _, _, _, rfl, HK1.out.copied hc2, hb2⟩
    case rest =>
      obtain ⟨A2, C2, B2, O2, rfl, hs2, hbx2⟩ := hcut
      obtain ⟨x2, hx2⟩ : ∃ x2, x2 = wc := ⟨_, rfl⟩
      subst hx2
      have HP2 : Hid (Strs x2 A1 B1 O1 n Ps) := HP1.out.below hbx2
      have HK2 : Hid (Strs x2 A2 B2 O2 n Ks) := hs2
      have HQ2 : Hid (Ints x2 a3 b3 o3 n qs) := HQ1.out.below hbx2
      have HB2 : Hid (Below w.heap.size w x2) := HB1.out.trans (hbx2.mono HB1.out.size)
      clear HP1 HK1 HQ1 HB1 hbx2 hs2
      go_upto_if 50 with fail
      go_cut [2] (fun s2 x => ∃ a c b o, s2 = .slice a n c ∧ Ints x a b o n qs ∧ Below x2.heap.size x2 x)
      case first =>
        cases a3 with
        | none =>
          go_wp2_with fail
          go_meet
          case rel => exact ⟨_, _, _, _, rfl, HQ2.out, Below.refl _ _⟩
        | some ad =>
          go_wp2_with (refine copy_new (by rfl) (.tmp 54) (.tmp 55) 23 (by rfl) 2 Try.underlying23 one2 x2 (madeI n) n c3 ad (by rfl) (by simp [Act.eval]) (by simp [Act.eval]) (madeI_size n) b3 o3 (fun i => .int .i64 (qs i)) (fun h => by simpa using HQ2.out.ha h) HQ2.out.cell (fun _ _ => rfl) ?_; intro x3 hc3 hb3)
          go_meet
          case rel => exact ⟨_, _, _, _, rfl, HQ2.out.copied hc3, hb3⟩
      case rest =>
        obtain ⟨A3, C3, B3, O3, rfl, hs3, hbx3⟩ := hcut
        obtain ⟨x3, hx3⟩ : ∃ x3, x3 = wc := ⟨_, rfl⟩
        subst hx3
        have HP3 : Hid (Strs x3 A1 B1 O1 n Ps) := HP2.out.below hbx3
        have HK3 : Hid (Strs x3 A2 B2 O2 n Ks) := HK2.out.below hbx3
        have HQ3 : Hid (Ints x3 A3 B3 O3 n qs) := hs3
        have HB3 : Hid (Below w.heap.size w x3) := HB2.out.trans (hbx3.mono HB2.out.size)
        clear HP2 HK2 HQ2 HB2 hbx3 hs3 hm22 hm23
        go_wp2_with fail
        refine (newPositions_any A1 A2 A3 B1 O1 B2 O2 B3 O3 n C1 C2 C3 Ps Ks qs x3 HP3.out HK3.out HQ3.out hn).mono ?_
        rintro e x4 ⟨rfl, v, hF⟩
        obtain ⟨g, cc, aa, hcl⟩ := hF.client hn HR.out
        have hb4 : Below x3.heap.size x3 x4 := hF.bel
        have HP4 : Hid (Strs x4 A1 B1 O1 n Ps) := HP3.out.below hb4
        have HK4 : Hid (Strs x4 A2 B2 O2 n Ks) := HK3.out.below hb4
        have HB4 : Hid (Below w.heap.size w x4) := HB3.out.trans (hb4.mono HB3.out.size)
        have HC4 : Hid (Client x4 x3.heap.size g n cc aa Ps Ks qs) := hcl
        clear HP3 HK3 HQ3 HB3 hb4 hF hcl
        generalize x3.heap.size = C at *
        go_wp2_with fail
        go_loopw [12, 13, 14, 15] (fun i _ _ _ wr => ∃ u : Nat, u ≤ n ∧ i = .int .i64 u ∧ Below x4.heap.size x4 wr) (fun i _ _ _ _ => n - (intOf i).toNat)
        case atStart => exact ⟨0, Nat.zero_le _, rfl, Below.refl _ _⟩
        case round =>
          obtain ⟨u, hu, rfl, hbr⟩ := hrel
          by_cases hlt : u < n
          · obtain rfl := HP4.out.ha (by omega)
            obtain rfl := HK4.out.ha (by omega)
            have HPr : Hid (Strs wr (some ⟨B1, O1, none⟩) B1 O1 n Ps) := HP4.out.below hbr
            have HKr : Hid (Strs wr (some ⟨B2, O2, none⟩) B2 O2 n Ks) := HK4.out.below hbr
            have HCr : Hid (∀ x, Below wr.heap.size wr x → Client x C g n cc aa Ps Ks qs) := fun x hx => (HC4.out.below hbr).below hx
            have c1 := HPr.out.cell u hlt
            have c2 := HKr.out.cell u hlt
            have i1 : (0 : Int) ≤ (u : Int) := by omega
            have i2 : (u : Int) < (n : Int) := by omega
            have hhit : Hid (∀ x, Below wr.heap.size wr x → Calls Try.prog 9 #[.pointer (some ⟨C, 0, none⟩), .string (Ps u), .string (Ks u)] x fun e w' => e = .returned (.pointer (some ⟨g, u * 11, none⟩)) ∧ Below x.heap.size x w') := fun x hx => zzPosition_hit (HCr.out x hx) (Ps u) (Ks u) u hlt ⟨rfl, rfl⟩
            have hdr : Below wr.heap.size wr wr.drew := (Below.refl _ _).drew
            go_wp2_with fail
            go_region_held3 (fun w' => Below wr.heap.size wr w' ∧ w'.cell? ⟨B1, O1 + u, none⟩ = some (.string (Ps u)) ∧ w'.cell? ⟨B2, O2 + u, none⟩ = some (.string (Ks u)))
              ((go_split_ands; (repeat' apply And.intro) <;> first | assumption | (refine below_cell (by assumption) ?_; assumption) | (refine Below.trans (by assumption) (Below.mono (by assumption) (Below.size (by assumption)))) | (simp; assumption)))
              (first | (go_at_call 9; refine (hhit.out _ hdr).mono ?_; rintro e w' ⟨rfl, hbx⟩))
            rename_i hHeld
            obtain ⟨hf0, hf1, hf2⟩ := hHeld
            have hz1 := HSZ.out u hlt
            obtain ⟨nx, hnx⟩ : ∃ nx : ByteArray, Ks u ++ { data := #[0] } = nx := ⟨_, rfl⟩
            have hnl : nx.toList = (Ks u).toList ++ [0] := by rw [← hnx, Lib.toList_data, Lib.toList_data]; simp
            have HNX : Hid (nx.toList = (Ks u).toList ++ [0]) := hnl
            clear hnl
            go_wp2_with (go_at_call 10; refine (zzPositionIs_any (HCr.out _ hf0) u hlt).mono ?_; rintro e y2 ⟨rfl, hy2⟩; obtain rfl := hy2.symm)
            have hfw : Hid (∀ y d, Below w'.heap.size w' y → Below x4.heap.size x4 (y.drewN d)) := fun y d hy => (hbr.trans (hf0.mono hbr.size)).trans ((hy.mono (Nat.le_trans hbr.size hf0.size)).trans ⟨rfl, rfl, rfl, Nat.le_refl _, fun _ _ => rfl⟩)
            have hwr : IntKind.i64.wrap ((u : Int) + 1) = (u : Int) + 1 := by rw [IntKind.wrap_i64]; omega
            clear hhit hdr hbx hnx
            by_cases hN : u + 1 < n ∧ (Ps (u + 1)).toList = (Ps u).toList ∧ (Ks (u + 1)).toList = nx.toList
            · obtain ⟨n1, n2, n3⟩ := hN
              have his : Hid (∀ x, Below wr.heap.size wr x → Calls Try.prog 10 #[.pointer (some ⟨C, 0, none⟩), .pointer (some ⟨g, (u + 1) * 11, none⟩), .int .i64 ((u : Int) + 1)] x fun e w' => e = .returned (.bool true) ∧ w' = x) := fun x hx => by
                have := zzPositionIs_any (HCr.out x hx) (u + 1) n1
                simpa using this
              have e2 : ((Ps (u + 1)).toList == (Ps u).toList) = true := by simp [n2]
              have e3 : ((Ks (u + 1)).toList == nx.toList) = true := by simp [n3]
              have HB : Hid (Bears Ps Ks (Ps u) nx (u + 1)) := ⟨n2, n3⟩
              clear n2 n3
              refine (zzPosition_hit (HCr.out w' hf0) (Ps u) nx (u + 1) n1 HB.out).mono ?_
              rintro e y3 ⟨rfl, hb3⟩
              have q1 := below_cell hb3 hf1
              have q2 := below_cell hb3 (below_cell hf0 (HPr.out.cell (u + 1) n1))
              have q3 := below_cell hb3 (below_cell hf0 (HKr.out.cell (u + 1) n1))
              have j1 : (u : Int) + 1 < (n : Int) := by omega
              have j2 : (0 : Int) ≤ (u : Int) + 1 := by omega
              have HF3 : Hid (∀ d, Below x4.heap.size x4 (y3.drewN d)) := fun d => hfw.out y3 d hb3
              have HW3 : Hid (∀ d, Below wr.heap.size wr (y3.drewN d)) := fun d => (hf0.trans (hb3.mono hf0.size)).trans ⟨rfl, rfl, rfl, Nat.le_refl _, fun _ _ => rfl⟩
              go_wp2_with fail
              go_quiet (fail)
              go_wp2_with (go_at_call 10; refine (his.out _ (HW3.out _)).mono ?_; rintro e y4 ⟨rfl, hy4⟩; obtain rfl := hy4.symm)
              go_roundw
              case rel => exact ⟨u + 1, by omega, by go_num, HF3.out _⟩
              case measure => simp [intOf]; omega
            · refine (zzPosition_miss (HCr.out w' hf0) (Ps u) nx (fun t ht hb => hN ?_)).mono ?_
              · obtain rfl := next_only HR.out hlt ht hb.1 (hb.2.trans HNX.out)
                exact ⟨ht, hb.1, hb.2⟩
              rintro e y3 ⟨rfl, hb3⟩
              have q1 := below_cell hb3 hf1
              have HF3 : Hid (∀ d, Below x4.heap.size x4 (y3.drewN d)) := fun d => hfw.out y3 d hb3
              have HN : Hid (¬ (u + 1 < n ∧ (Ps (u + 1)).toList = (Ps u).toList ∧ (Ks (u + 1)).toList = nx.toList)) := hN
              clear hN
              by_cases n1 : u + 1 < n
              · have q2 := below_cell hb3 (below_cell hf0 (HPr.out.cell (u + 1) n1))
                have q3 := below_cell hb3 (below_cell hf0 (HKr.out.cell (u + 1) n1))
                have j1 : (u : Int) + 1 < (n : Int) := by omega
                have j2 : (0 : Int) ≤ (u : Int) + 1 := by omega
                by_cases n2 : (Ps (u + 1)).toList = (Ps u).toList
                · have e2 : ((Ps (u + 1)).toList == (Ps u).toList) = true := by simp [n2]
                  have e3 : ((Ks (u + 1)).toList == nx.toList) = false := by
                    simp only [beq_eq_false_iff_ne]; exact fun e => HN.out ⟨n1, n2, e⟩
                  clear n2
                  go_wp2_with fail
                  go_quiet (fail)
                  go_wp2_with fail
                  go_roundw
                  case rel => exact ⟨u + 1, by omega, by go_num, HF3.out _⟩
                  case measure => simp [intOf]; omega
                · have e2 : ((Ps (u + 1)).toList == (Ps u).toList) = false := by simp [n2]
                  clear n2
                  go_wp2_with fail
                  go_quiet (fail)
                  go_wp2_with fail
                  go_roundw
                  case rel => exact ⟨u + 1, by omega, by go_num, HF3.out _⟩
                  case measure => simp [intOf]; omega
              · have hd : decide ((u : Int) + 1 < (n : Int)) = false := by simp; omega
                go_wp2_with fail
                go_quiet (fail)
                go_wp2_with fail
                go_roundw
                case rel => exact ⟨u + 1, by omega, by go_num, HF3.out _⟩
                case measure => simp [intOf]; omega
          · go_wp2_with fail
            go_ret
            exact ⟨rfl, HB4.out.trans (hbr.mono HB4.out.size)⟩
end Go.Proofs.Qxb6612206a.Pos
