/-
  THE WALKS, part F: what the two laws share: a slice copied into a new one; the client that is made out of the copies.
-/
import Derived.Test.Qxb6612206aWalksE
import Derived.Laws.CopyOwn
import Derived.Deep.DeepCutAuto
import Derived.Lib.SliceRun
namespace Go.Proofs.Qxb6612206a.Pos
open Go.RowKit
set_option linter.unusedVariables false

theorem info9 : (Try.prog.info? 9).map (fun i => (i.zero, i.size, i.bytes)) = some (some (.string ⟨#[]⟩), 1, 16) := by kernel_rfl
theorem info2 : (Try.prog.info? 2).map (fun i => (i.zero, i.size, i.bytes)) = some (some (.int .i64 0), 1, 8) := by kernel_rfl
theorem one9 : (Try.prog.info? 9).map (·.size) = some 1 := by kernel_rfl
theorem one2 : (Try.prog.info? 2).map (·.size) = some 1 := by kernel_rfl

def madeS (n : Nat) : Array Value := madeCells (Value.string ⟨#[]⟩).cells n
def madeI (n : Nat) : Array Value := madeCells (Value.int .i64 0).cells n
theorem madeS_size (n : Nat) : (madeS n).size = n := size_madeCells _ _
theorem madeI_size (n : Nat) : (madeI n).size = n := size_madeCells _ _

theorem make22 (n : Nat) (hn : n ≤ 1048576) (w : World) : (Instr.makeSlice 22 (.int .i64 (n : Int)) (.int .i64 (n : Int))).run Try.prog w = .ok (.slice (some ⟨w.heap.size, 0, none⟩) n n) (w.alloc (.cells (madeS n) 9)) := by
  obtain ⟨i0, hi, hz0, hz1, hz2⟩ := info_parts info9
  have := run_make (P := Try.prog) w 22 9 i0 _ Try.underlying22 hi hz0 .i64 .i64 n n (by omega) (by omega) (by rw [hz2]; omega) (by omega)
  rw [hz1] at this
  simpa [madeS] using this
theorem make23 (n : Nat) (hn : n ≤ 1048576) (w : World) : (Instr.makeSlice 23 (.int .i64 (n : Int)) (.int .i64 (n : Int))).run Try.prog w = .ok (.slice (some ⟨w.heap.size, 0, none⟩) n n) (w.alloc (.cells (madeI n) 2)) := by
  obtain ⟨i0, hi, hz0, hz1, hz2⟩ := info_parts info2
  have := run_make (P := Try.prog) w 23 2 i0 _ Try.underlying23 hi hz0 .i64 .i64 n n (by omega) (by omega) (by rw [hz2]; omega) (by omega)
  rw [hz1] at this
  simpa [madeI] using this

/-- 'copy' of a whole slice into a new row of its length. -/
theorem copy_new {P : Program} {W : World} {ops : Array Oper} {rest : List Oper} {o : Oper} {a : Act} {Q : Exit → Act → World → Prop} (hgd : o.guard = none) (d s : Operand) (dT : TypeId)
    (ho : o.op = .call { callee := .builtin .copy, args := #[d, s], argTypes := #[dT, dT] }) (elem : TypeId) (hu : P.underlying dT = some (.slice elem)) (hsz : (P.info? elem).map (·.size) = some 1)
    (w : World) (cur : Array Value) (n c : Nat) (ad : Addr) (hW : W = w.alloc (.cells cur elem)) (hd : a.eval d = .slice (some ⟨w.heap.size, 0, none⟩) n n) (hs : a.eval s = .slice (some ad) n c) (hcur : cur.size = n)
    (b f : Nat) (V : Nat → Value) (had : 0 < n → ad = ⟨b, f, none⟩) (hsrc : ∀ i, i < n → w.cell? ⟨b, f + i, none⟩ = some (V i)) (h1 : ∀ i, i < n → (V i).oneCell' = true)
    (h : ∀ w', (∀ i, i < n → w'.cell? ⟨w.heap.size, i, none⟩ = some (V i)) → Below w.heap.size w w' → wpList P ops Q rest (a.put o.dst (goInt n)) w') : wpList P ops Q (o :: rest) a W := by
  subst hW
  by_cases h0 : n = 0
  · subst h0
    exact wpList_copy_nothing hgd d s dT dT ho elem hu hsz _ _ _ _ _ _ hd hs (by simp) (h _ (fun i hi => absurd hi (Nat.not_lt_zero _)) ((Below.refl _ _).alloc (Nat.le_refl _) _))
  · obtain rfl := had (by omega)
    have hg : (w.alloc (.cells cur elem)).heap[w.heap.size]? = some (.cells cur elem (0, 0)) := heap_alloc_new w _
    have hlen : ((List.range n).map V).length = n := by simp
    have := wpList_copy_own (P := P) (w := w.alloc (.cells cur elem)) (ops := ops) (rest := rest) (a := a) (Q := Q) hgd d s dT dT ho elem hu hsz w.heap.size 0 n n ⟨b, f, none⟩ n c hd hs cur elem hg ((List.range n).map V) (by simp) (fun j v hv => by
      obtain ⟨hj, e⟩ := List.getElem?_eq_some_iff.1 hv
      simp at hj e
      subst e
      rw [Addr.add_mid]
      exact cell_alloc (hsrc j hj)) (by simp [hcur]) (fun v hv => by
      obtain ⟨i, hi, rfl⟩ := List.mem_map.1 hv
      exact h1 i (List.mem_range.1 hi))
    rw [hlen] at this
    refine this (h _ (fun i hi => ?_) ?_)
    · rw [cell_setRow_same _ _ _ cur _ elem (0, 0) hg]
      rw [List.getElem?_toArray, List.take_zero, List.nil_append, List.getElem?_append_left (by simpa using hi)]
      simp [hi]
    · exact below_setRow ((Below.refl _ _).alloc (Nat.le_refl _) _) (Nat.le_refl _) _

theorem Strs.below {w w' : World} {a : Option Addr} {b o n : Nat} {P : Nat → ByteArray} (h : Strs w a b o n P) (hb : Below w.heap.size w w') : Strs w' a b o n P := ⟨h.ha, fun i hi => below_cell hb (h.cell i hi), h.len⟩
theorem Ints.below {w w' : World} {a : Option Addr} {b o n : Nat} {q : Nat → Int} (h : Ints w a b o n q) (hb : Below w.heap.size w w') : Ints w' a b o n q := ⟨h.ha, fun i hi => below_cell hb (h.cell i hi)⟩
theorem below_drewN (w : World) (d : Nat) : Below w.heap.size w (w.drewN d) := ⟨rfl, rfl, rfl, Nat.le_refl _, fun _ _ => rfl⟩
/-- Behind a copy: the strings lie in the new row. -/
theorem Strs.copied {w x : World} {a : Option Addr} {b o n : Nat} {P : Nat → ByteArray} (h : Strs w a b o n P) {g : Nat} (hc : ∀ i, i < n → x.cell? ⟨g, i, none⟩ = some (.string (P i))) : Strs x (some ⟨g, 0, none⟩) g 0 n P :=
  ⟨fun _ => rfl, fun i hi => by rw [Nat.zero_add]; exact hc i hi, h.len⟩
theorem Ints.copied {w x : World} {a : Option Addr} {b o n : Nat} {q : Nat → Int} (h : Ints w a b o n q) {g : Nat} (hc : ∀ i, i < n → x.cell? ⟨g, i, none⟩ = some (.int .i64 (q i))) : Ints x (some ⟨g, 0, none⟩) g 0 n q :=
  ⟨fun _ => rfl, fun i hi => by rw [Nat.zero_add]; exact hc i hi⟩

/-- The client that has been filled. -/
theorem Fill.client {w x : World} {n : Nat} {Ps Ks : Nat → ByteArray} {qs : Nat → Int} {v : Value} (h : Fill w n Ps Ks qs n v x) (hn : n ≤ 1048576) (hr : Rising n (fun i => (Ps i).toList) (fun i => (Ks i).toList)) :
    ∃ g c a, Client x w.heap.size g n c a Ps Ks qs := by
  obtain ⟨g, a, c, rfl, ha, hp, hg⟩ := pos_of_own h.own
  exact ⟨g, c, a, h.cell, ha, hp, hg, hn, hr⟩

/-- One entry alone bears a key. -/
theorem bears_one {n : Nat} {Ps Ks : Nat → ByteArray} (hr : Rising n (fun i => (Ps i).toList) (fun i => (Ks i).toList)) {p k : ByteArray} {s t : Nat} (hs : s < n) (ht : t < n) (h1 : Bears Ps Ks p k s) (h2 : Bears Ps Ks p k t) : s = t := by
  rcases Nat.lt_trichotomy s t with h | h | h
  · have := hr.of_lt h ht
    simp only [h1.1, h1.2, h2.1, h2.2, lt2_irrefl] at this
    cases this
  · exact h
  · have := hr.of_lt h hs
    simp only [h1.1, h1.2, h2.1, h2.2, lt2_irrefl] at this
    cases this

/-- How a law ends. -/
def LawOut (w : World) (e : Ending) (w' : World) : Prop := e = .returned (.bool true) ∧ Below w.heap.size w w'

set_option maxRecDepth 100000 in
set_option maxHeartbeats 4000000 in
theorem exactly_any (a1 a2 a3 : Option Addr) (b1 o1 b2 o2 b3 o3 : Nat) (n nk nq c1 c2 c3 : Nat) (Ps Ks : Nat → ByteArray) (qs : Nat → Int) (p k : ByteArray) (w : World) (hp : Strs w a1 b1 o1 n Ps) (hk : Strs w a2 b2 o2 nk Ks) (hq : Ints w a3 b3 o3 nq qs)
    (z1 : a1 = none → n = 0) (z2 : a2 = none → nk = 0) (z3 : a3 = none → nq = 0) (m1 : n ≤ maxLen) (m2 : nk ≤ maxLen) (m3 : nq ≤ maxLen) (m4 : p.size ≤ maxLen) (m5 : k.size ≤ maxLen) :
    Calls Try.prog 3 #[.slice a1 n c1, .slice a2 nk c2, .slice a3 nq c3, .string p, .string k] w fun e w' => LawOut w e w' := by
  have HP : Hid (Strs w a1 b1 o1 n Ps) := hp
  have HK : Hid (Strs w a2 b2 o2 nk Ks) := hk
  have HQ : Hid (Ints w a3 b3 o3 nq qs) := hq
  have Z1 : Hid (a1 = none → n = 0) := z1
  have Z2 : Hid (a2 = none → nk = 0) := z2
  have Z3 : Hid (a3 = none → nq = 0) := z3
  have M : Hid (n ≤ maxLen ∧ nk ≤ maxLen ∧ nq ≤ maxLen ∧ p.size ≤ maxLen ∧ k.size ≤ maxLen) := ⟨m1, m2, m3, m4, m5⟩
  clear hp hk hq z1 z2 z3 m1 m2 m3 m4 m5
  go_enter Try.func3, Try.ntmps3
  go_wp2_with fail
  refine (zzBytes_five a1 a2 a3 b1 o1 b2 o2 n nk nq c1 c2 c3 Ps Ks p k w HP.out HK.out M.out.1 M.out.2.1 M.out.2.2.1 M.out.2.2.2.1 M.out.2.2.2.2).mono ?_
  rintro e w' ⟨⟨r, rfl, hr⟩, hw⟩
  obtain rfl := hw.symm
  cases r
  · go_wp2_with fail
    go_ret
    exact ⟨rfl, Below.refl _ _⟩
  have hn : n ≤ 1048576 := hr rfl
  clear hr
  go_wp2_with fail
  refine (posBytes_any a1 a2 a3 b1 o1 b2 o2 n nk nq c1 c2 c3 Ps Ks w HP.out HK.out M.out.1 M.out.2.1 M.out.2.2.1).mono ?_
  rintro e w' ⟨⟨m, rfl⟩, hw⟩
  obtain rfl := hw.symm
  go_wp2_with fail
  · go_ret
    exact ⟨rfl, Below.refl _ _⟩
  refine (positionsOK_any a1 a2 a3 b1 o1 b2 o2 b3 o3 n nk nq c1 c2 c3 Ps Ks qs w HP.out HK.out HQ.out hn).mono ?_
  rintro e w0 ⟨⟨r, rfl, hr⟩, hd⟩
  have hb0 : Below w.heap.size w w0 := by obtain ⟨d, rfl⟩ := hd; exact below_drewN w d
  clear hd
  cases r
  · go_wp2_with fail
    go_ret
    exact ⟨rfl, hb0⟩
  obtain ⟨e1, e2, hrise⟩ := hr rfl
  obtain rfl : n = nk := e1.symm
  obtain rfl : n = nq := e2.symm
  have HR : Hid (Rising n (fun i => (Ps i).toList) (fun i => (Ks i).toList)) := hrise
  clear hrise hr e1 e2
  have hm22 := make22 n hn
  have hm23 := make23 n hn
  have HP0 : Hid (Strs w0 a1 b1 o1 n Ps) := HP.out.below hb0
  have HK0 : Hid (Strs w0 a2 b2 o2 n Ks) := HK.out.below hb0
  have HQ0 : Hid (Ints w0 a3 b3 o3 n qs) := HQ.out.below hb0
  have HB0 : Hid (Below w.heap.size w w0) := hb0
  clear HP HK HQ hb0
  go_upto_if 42 with fail
  go_cut [0] (fun s0 x => ∃ a c b o, s0 = .slice a n c ∧ Strs x a b o n Ps ∧ Below w0.heap.size w0 x)
  case first =>
    cases a1 with
    | none =>
      go_wp2_with fail
      go_meet
      case rel => exact ⟨_, _, _, _, rfl, HP0.out, Below.refl _ _⟩
    | some ad =>
      go_wp2_with (refine copy_new (by rfl) (.tmp 46) (.tmp 47) 22 (by rfl) 9 Try.underlying22 one9 w0 (madeS n) n c1 ad (by rfl) (by simp [Act.eval]) (by simp [Act.eval]) (madeS_size n) b1 o1 (fun i => .string (Ps i)) (fun h => by simpa using HP0.out.ha h) HP0.out.cell (fun _ _ => rfl) ?_; intro x1 hc1 hb1)
      go_meet
      case rel => exact ⟨_, _, _, _, rfl, HP0.out.copied hc1, hb1⟩
  case rest =>
    obtain ⟨A1, C1, B1, O1, rfl, hs1, hbx1⟩ := hcut
    have HP1 : Hid (Strs wc A1 B1 O1 n Ps) := hs1
    have HK1 : Hid (Strs wc a2 b2 o2 n Ks) := HK0.out.below hbx1
    have HQ1 : Hid (Ints wc a3 b3 o3 n qs) := HQ0.out.below hbx1
    have HB1 : Hid (Below w.heap.size w wc) := HB0.out.trans (hbx1.mono HB0.out.size)
    clear HP0 HK0 HQ0 HB0 hbx1 hs1
    obtain ⟨x1, hx1⟩ : ∃ x1, x1 = wc := ⟨_, rfl⟩
    subst hx1
    go_upto_if 51 with fail
    go_cut [1] (fun s1 x => ∃ a c b o, s1 = .slice a n c ∧ Strs x a b o n Ks ∧ Below x1.heap.size x1 x)
    case first =>
      cases a2 with
      | none =>
        go_wp2_with fail
        go_meet
        case rel => exact ⟨_, _, _, _, rfl, HK1.out, Below.refl _ _⟩
      | some ad =>
        go_wp2_with (refine copy_new (by rfl) (.tmp 55) (.tmp 56) 22 (by rfl) 9 Try.underlying22 one9 x1 (madeS n) n c2 ad (by rfl) (by simp [Act.eval]) (by simp [Act.eval]) (madeS_size n) b2 o2 (fun i => .string (Ks i)) (fun h => by simpa using HK1.out.ha h) HK1.out.cell (fun _ _ => rfl) ?_; intro x2 hc2 hb2)
        go_meet
        case rel => exact ⟨_, _, _, _, rfl, HK1.out.copied hc2, hb2⟩
    case rest =>
      obtain ⟨A2, C2, B2, O2, rfl, hs2, hbx2⟩ := hcut
      obtain ⟨x2, hx2⟩ : ∃ x2, x2 = wc := ⟨_, rfl⟩
      subst hx2
      have HP2 : Hid (Strs x2 A1 B1 O1 n Ps) := HP1.out.below hbx2
      have HK2 : Hid (Strs x2 A2 B2 O2 n Ks) := hs2
      have HQ2 : Hid (Ints x2 a3 b3 o3 n qs) := HQ1.out.below hbx2
      have HB2 : Hid (Below w.heap.size w x2) := HB1.out.trans (hbx2.mono HB1.out.size)
      clear HP1 HK1 HQ1 HB1 hbx2 hs2
      go_upto_if 60 with fail
      go_cut [2] (fun s2 x => ∃ a c b o, s2 = .slice a n c ∧ Ints x a b o n qs ∧ Below x2.heap.size x2 x)
      case first =>
        cases a3 with
        | none =>
          go_wp2_with fail
          go_meet
          case rel => exact ⟨_, _, _, _, rfl, HQ2.out, Below.refl _ _⟩
        | some ad =>
          go_wp2_with (refine copy_new (by rfl) (.tmp 64) (.tmp 65) 23 (by rfl) 2 Try.underlying23 one2 x2 (madeI n) n c3 ad (by rfl) (by simp [Act.eval]) (by simp [Act.eval]) (madeI_size n) b3 o3 (fun i => .int .i64 (qs i)) (fun h => by simpa using HQ2.out.ha h) HQ2.out.cell (fun _ _ => rfl) ?_; intro x3 hc3 hb3)
          go_meet
          case rel => exact ⟨_, _, _, _, rfl, HQ2.out.copied hc3, hb3⟩
      case rest =>
        obtain ⟨A3, C3, B3, O3, rfl, hs3, hbx3⟩ := hcut
        obtain ⟨x3, hx3⟩ : ∃ x3, x3 = wc := ⟨_, rfl⟩
        subst hx3
        have HP3 : Hid (Strs x3 A1 B1 O1 n Ps) := HP2.out.below hbx3
        have HK3 : Hid (Strs x3 A2 B2 O2 n Ks) := HK2.out.below hbx3
        have HQ3 : Hid (Ints x3 A3 B3 O3 n qs) := hs3
        have HB3 : Hid (Below w.heap.size w x3) := HB2.out.trans (hbx3.mono HB2.out.size)
        clear HP2 HK2 HQ2 HB2 hbx3 hs3 hm22 hm23
        go_wp2_with fail
        refine (newPositions_any A1 A2 A3 B1 O1 B2 O2 B3 O3 n C1 C2 C3 Ps Ks qs x3 HP3.out HK3.out HQ3.out hn).mono ?_
        rintro e x4 ⟨rfl, v, hF⟩
        obtain ⟨g, cc, aa, hcl⟩ := hF.client hn HR.out
        have hb4 : Below x3.heap.size x3 x4 := hF.bel
        have HP4 : Hid (Strs x4 A1 B1 O1 n Ps) := HP3.out.below hb4
        have HK4 : Hid (Strs x4 A2 B2 O2 n Ks) := HK3.out.below hb4
        have HB4 : Hid (Below w.heap.size w x4) := HB3.out.trans (hb4.mono HB3.out.size)
        have HC4 : Hid (Client x4 x3.heap.size g n cc aa Ps Ks qs) := hcl
        clear HP3 HK3 HQ3 HB3 hb4 hF hcl
        generalize x3.heap.size = C at *
        by_cases hh : ∃ t, t < n ∧ Bears Ps Ks p k t
        · obtain ⟨t, ht, hbt⟩ := hh
          have HBT : Hid (Bears Ps Ks p k t) := hbt
          clear hbt
          go_wp2_with fail
          refine (zzPosition_hit HC4.out p k t ht HBT.out).mono ?_
          rintro e x5 ⟨rfl, hb5⟩
          have HP5 : Hid (Strs x5 A1 B1 O1 n Ps) := HP4.out.below hb5
          have HK5 : Hid (Strs x5 A2 B2 O2 n Ks) := HK4.out.below hb5
          have HB5 : Hid (Below w.heap.size w x5) := HB4.out.trans (hb5.mono HB4.out.size)
          have HC5 : Hid (Client x5 C g n cc aa Ps Ks qs) := HC4.out.below hb5
          clear HP4 HK4 HB4 HC4 hb5
          go_wp2_with fail
          go_loop [16, 17] (fun j i => ∃ u : Nat, ∃ f : Int, u ≤ n ∧ i = .int .i64 u ∧ j = .int .i64 f ∧ (t < u → f = t)) (fun _ i => n - (intOf i).toNat)
          case atStart => exact ⟨0, -1, Nat.zero_le _, rfl, rfl, fun h => absurd h (Nat.not_lt_zero _)⟩
          case round =>
            obtain ⟨u, f, hu, rfl, rfl, hf⟩ := hrel
            have HF : Hid (t < u → f = t) := hf
            clear hf
            by_cases hlt : u < n
            · obtain rfl := HP5.out.ha (by omega)
              obtain rfl := HK5.out.ha (by omega)
              have c1 := HP5.out.cell u hlt
              have c2 := HK5.out.cell u hlt
              by_cases e1 : (Ps u).toList = p.toList
              · have e1' : ((Ps u).toList == p.toList) = true := by simp [e1]
                by_cases e2 : (Ks u).toList = k.toList
                · have e2' : ((Ks u).toList == k.toList) = true := by simp [e2]
                  have HU : Hid (u = t) := bears_one HR.out hlt ht ⟨e1, e2⟩ HBT.out
                  clear e1 e2
                  go_wp2
                  go_round
                  case rel => exact ⟨u + 1, _, by omega, by go_num, rfl, fun _ => by rw [HU.out]⟩
                  case measure => simp [intOf]; omega
                · have e2' : ((Ks u).toList == k.toList) = false := by simp [e2]
                  have HU : Hid (u ≠ t) := fun h => e2 (by rw [h]; exact HBT.out.2)
                  clear e1 e2
                  go_wp2
                  go_round
                  case rel => exact ⟨u + 1, _, by omega, by go_num, rfl, fun h => HF.out (by have := HU.out; omega)⟩
                  case measure => simp [intOf]; omega
              · have e1' : ((Ps u).toList == p.toList) = false := by simp [e1]
                have HU : Hid (u ≠ t) := fun h => e1 (by rw [h]; exact HBT.out.1)
                clear e1
                go_wp2
                go_round
                case rel => exact ⟨u + 1, _, by omega, by go_num, rfl, fun h => HF.out (by have := HU.out; omega)⟩
                case measure => simp [intOf]; omega
            · obtain rfl := HF.out (by omega)
              go_wp2_with (go_at_call 10; refine (zzPositionIs_any HC5.out t ht).mono ?_; rintro e x6 ⟨rfl, hx6⟩; obtain rfl := hx6.symm)
              go_ret
              exact ⟨rfl, HB5.out⟩
        · have hm : Hid (∀ t, t < n → ¬ Bears Ps Ks p k t) := fun t ht hb => hh ⟨t, ht, hb⟩
          clear hh
          go_wp2_with fail
          refine (zzPosition_miss HC4.out p k hm.out).mono ?_
          rintro e x5 ⟨rfl, hb5⟩
          have HP5 : Hid (Strs x5 A1 B1 O1 n Ps) := HP4.out.below hb5
          have HK5 : Hid (Strs x5 A2 B2 O2 n Ks) := HK4.out.below hb5
          have HB5 : Hid (Below w.heap.size w x5) := HB4.out.trans (hb5.mono HB4.out.size)
          clear HP4 HK4 HB4 HC4 hb5
          go_wp2_with fail
          go_loop [16, 17] (fun j i => ∃ u : Nat, u ≤ n ∧ i = .int .i64 u ∧ j = .int .i64 (-1)) (fun _ i => n - (intOf i).toNat)
          case atStart => exact ⟨0, Nat.zero_le _, rfl, rfl⟩
          case round =>
            obtain ⟨u, hu, rfl, rfl⟩ := hrel
            by_cases hlt : u < n
            · obtain rfl := HP5.out.ha (by omega)
              obtain rfl := HK5.out.ha (by omega)
              have c1 := HP5.out.cell u hlt
              have c2 := HK5.out.cell u hlt
              by_cases e1 : (Ps u).toList = p.toList
              · have e1' : ((Ps u).toList == p.toList) = true := by simp [e1]
                have e2 : ¬ (Ks u).toList = k.toList := fun e2 => hm.out u hlt ⟨e1, e2⟩
                have e2' : ((Ks u).toList == k.toList) = false := by simp [e2]
                clear e1 e2
                go_wp2
                go_round
                case rel => exact ⟨u + 1, by omega, by go_num, rfl⟩
                case measure => simp [intOf]; omega
              · have e1' : ((Ps u).toList == p.toList) = false := by simp [e1]
                clear e1
                go_wp2
                go_round
                case rel => exact ⟨u + 1, by omega, by go_num, rfl⟩
                case measure => simp [intOf]; omega
            · go_wp2
              go_ret
              exact ⟨rfl, HB5.out⟩
end Go.Proofs.Qxb6612206a.Pos
