/-
  THE WALKS, part C: zzItoa; the law of the table.
-/
import Derived.Test.Qxb6612252aDoorWalksB
import Derived.Deep.MidRow
namespace Go.Proofs.Qxb6612252aDoor.Md
open Go.RowKit
set_option linter.unusedVariables false

/-- A row of bytes, as cells. -/
def bcells (l : List UInt8) : List Value := l.map fun c => .int .u8 (c.toNat : Int)

/-- Where zzItoa stands: the digits l lie at the buffer's end, from p on; x is still to be written. -/
structure Buf (w : World) (B : Nat) (u0 x p : Nat) (l : List UInt8) (wr : World) : Prop where
  pl : p + l.length = 24
  dig : Lib.decDigits u0 = Lib.decDigits x ++ l
  range : wr.rangeAt B p (bcells l)
  there : wr.there B 0 24
  bel : Below w.heap.size w wr

theorem Buf.start (w : World) (u0 : Nat) (C : Array Value) (t : TypeId) (hC : C.size = 24) : Buf w w.heap.size u0 u0 24 [] (w.alloc (.cells C t)) :=
  ⟨rfl, by simp, fun j v hv => by simp [bcells] at hv, fun j hj => by simp [hC, hj], (Below.refl _ _).alloc (Nat.le_refl _) _⟩

theorem dig_le {u0 x : Nat} {l : List UInt8} (h : Lib.decDigits u0 = Lib.decDigits x ++ l) (hu : u0 < 18446744073709551616) : l.length + 1 ≤ 20 := by
  have h1 := congrArg List.length h
  rw [Lib.decDigits_length, List.length_append, Lib.decDigits_length] at h1
  have h2 := Lib.nDigits_pos x
  have h3 := Lib.nDigits_le20 u0 hu
  omega

/-- One byte more is written ahead of the others. -/
theorem put_any {w : World} {B p : Nat} {l : List UInt8} {wr : World} (hr : wr.rangeAt B (p + 1) (bcells l)) (hth : wr.there B 0 24) (hbel : Below w.heap.size w wr) (hp : p < 24) (hB : w.heap.size ≤ B) (c : UInt8) :
    (wr.setCell ⟨B, p, none⟩ (.int .u8 (c.toNat : Int))).rangeAt B p (bcells (c :: l)) ∧ (wr.setCell ⟨B, p, none⟩ (.int .u8 (c.toNat : Int))).there B 0 24 ∧ Below w.heap.size w (wr.setCell ⟨B, p, none⟩ (.int .u8 (c.toNat : Int))) := by
  have ht := hth p hp
  rw [Nat.zero_add] at ht
  obtain ⟨v, hv⟩ := Option.isSome_iff_exists.1 ht.1
  refine ⟨fun j u hj => ?_, ?_, hbel.setCell hB _⟩
  · cases j with
    | zero =>
      simp [bcells] at hj
      subst hj
      exact World.cell?_setCell_same _ _ _ hv
    | succ j =>
      rw [World.cell?_setCell_other _ _ _ _ (fun e => by simp at e)]
      have := hr j u (by simpa [bcells] using hj)
      rwa [show p + (j + 1) = p + 1 + j by omega]
  · have := World.there_setCells hth B p [.int .u8 (c.toNat : Int)]
    simpa [World.setCells] using this

theorem Buf.step {w : World} {B u0 x p : Nat} {l : List UInt8} {wr : World} (h : Buf w B u0 x (p + 1) l wr) (hB : w.heap.size ≤ B) : 
    (wr.setCell ⟨B, p, none⟩ (.int .u8 ((UInt8.ofNat (48 + x % 10)).toNat : Int))).rangeAt B p (bcells (UInt8.ofNat (48 + x % 10) :: l)) ∧ (wr.setCell ⟨B, p, none⟩ (.int .u8 ((UInt8.ofNat (48 + x % 10)).toNat : Int))).there B 0 24 ∧ Below w.heap.size w (wr.setCell ⟨B, p, none⟩ (.int .u8 ((UInt8.ofNat (48 + x % 10)).toNat : Int))) :=
  put_any h.range h.there h.bel (by have := h.pl; omega) hB _

theorem Buf.more {w : World} {B u0 x p : Nat} {l : List UInt8} {wr : World} (h : Buf w B u0 x (p + 1) l wr) (hB : w.heap.size ≤ B) (hx : ¬ x < 10) : Buf w B u0 (x / 10) p (UInt8.ofNat (48 + x % 10) :: l) (wr.setCell ⟨B, p, none⟩ (.int .u8 ((UInt8.ofNat (48 + x % 10)).toNat : Int))) :=
  ⟨by have := h.pl; simp; omega, by rw [h.dig, decDigits_big hx]; simp, (h.step hB).1, (h.step hB).2.1, (h.step hB).2.2⟩

theorem Buf.last {w : World} {B u0 x p : Nat} {l : List UInt8} {wr : World} (h : Buf w B u0 x (p + 1) l wr) (hB : w.heap.size ≤ B) (hx : x < 10) : Lib.decDigits u0 = UInt8.ofNat (48 + x % 10) :: l := by
  rw [h.dig, decDigits_small hx, Nat.mod_eq_of_lt hx]; simp

/-- 'string(buf[p:])'. -/
theorem conv_any {wr : World} {B p n : Nat} {l : List UInt8} (h : wr.rangeAt B p (bcells l)) (hn : l.length = n) (c : Nat) :
    (convert 31 9 (.slice (some ⟨B, p, none⟩) n c)).run Tryd.prog wr = .ok (.string ⟨l.toArray⟩) wr := by
  subst hn
  rw [run_convert_bytes_string wr 31 9 5 _ _ _ Tryd.underlying31 Tryd.underlying5 Tryd.underlying9]
  have hl : (loadCells ⟨B, p, none⟩ l.length).run Tryd.prog wr = .ok ((l.map fun c => (c.toNat : Int)).map (Value.int .u8)).toArray wr := by
    have := run_loadCells_list (P := Tryd.prog) wr ⟨B, p, none⟩ (bcells l) (fun j v hv => by rw [Addr.add_mid]; exact h j v hv)
    simpa [bcells, Function.comp_def] using this
  rw [run_bytesToString wr ⟨B, p, none⟩ l.length c _ hl]
  congr 2
  have : ∀ (l : List UInt8) (s : ByteArray), (l.map fun c => (c.toNat : Int)).foldl (fun r n => r.push (UInt8.ofNat n.toNat)) s = ⟨s.data ++ l.toArray⟩ := by
    intro l
    induction l with
    | nil => intro s; simp
    | cons a l ih => intro s; simp only [List.map_cons, List.foldl_cons]; rw [ih]; simp [ByteArray.push]
  rw [this]
  simp

/-- 'buf[p:]'. -/
theorem slice_any (B p : Nat) (hp : p < 24) (w : World) :
    (Instr.sliceAt 30 (.pointer (some ⟨B, 0, none⟩)) (some (.int .i64 (p : Int))) none none).run Tryd.prog w = .ok (.slice (some ⟨B, p, none⟩) (24 - p) (24 - p)) w := by
  have ha : Tryd.prog.arrayLen 30 = 24 := by kernel_rfl
  have hs : (sizeOf (Tryd.prog.elem 30)).run Tryd.prog w = .ok 1 w := by
    have : Tryd.prog.elem 30 = 5 := by kernel_rfl
    rw [this]; rfl
  rw [run_sliceAt_array_l w 30 ⟨B, 0, none⟩ Tryd.underlying30 .i64 p (by omega) (by rw [ha]; omega), hs, ha]
  simp [slicedAt, Addr.add_mid, show ¬ 24 = p by omega]

theorem dig_int (x : Nat) : (48 + (x : Int) % 10) = ((UInt8.ofNat (48 + x % 10)).toNat : Int) := by
  rw [dig_toNat (Nat.mod_lt _ (by omega))]; omega

set_option maxHeartbeats 1000000 in
theorem zzItoa_nonneg (n : Nat) (h1 : (n : Int) ≤ 9223372036854775807) (w : World) :
    Calls Tryd.prog 6 #[.int .i64 (n : Int)] w fun e w' => StrOut (Lib.decDigits n) w e w' := by
  have hneg : decide ((n : Int) < 0) = false := by simp
  go_enter Tryd.func6, Tryd.ntmps6
  go_wp2
  go_loopw [4, 6] (fun u i wr => ∃ (x p : Nat) (l : List UInt8), u = .int .u64 x ∧ i = .int .i64 p ∧ x ≤ n ∧ Buf w w.heap.size n x p l wr) (fun u _ _ => (intOf u).toNat)
  case atStart => exact ⟨n, 24, [], rfl, rfl, Nat.le_refl _, Buf.start w n _ _ rfl⟩
  case round =>
    obtain ⟨x, p, l, rfl, rfl, hxn, hbuf⟩ := hrel
    have hlen := dig_le hbuf.dig (by omega)
    have hpl := hbuf.pl
    obtain ⟨p, rfl⟩ : ∃ p', p = p' + 1 := ⟨p - 1, by omega⟩
    have ht := hbuf.there p (by omega)
    rw [Nat.zero_add] at ht
    obtain ⟨v, hv⟩ := Option.isSome_iff_exists.1 ht.1
    have hf := ht.2
    have b1 : (p : Int) < 24 := by omega
    have HB : Hid (Buf w w.heap.size n x (p + 1) l wr) := hbuf
    clear hbuf ht
    have HD := dig_int x
    by_cases hx : x < 10
    · have hsl : ∀ w', (Instr.sliceAt 30 (.pointer (some ⟨w.heap.size, 0, none⟩)) (some (.int .i64 (p : Int))) none none).run Tryd.prog w' = .ok (.slice (some ⟨w.heap.size, p, none⟩) (24 - p) (24 - p)) w' := slice_any _ p (by omega)
      have hcv : (convert 31 9 (.slice (some ⟨w.heap.size, p, none⟩) (24 - p) (24 - p))).run Tryd.prog (wr.setCell ⟨w.heap.size, p, none⟩ (.int .u8 (48 + (x : Int) % 10))) = .ok (.string ⟨(UInt8.ofNat (48 + x % 10) :: l).toArray⟩) (wr.setCell ⟨w.heap.size, p, none⟩ (.int .u8 (48 + (x : Int) % 10))) := by
        rw [HD]
        exact conv_any (HB.out.step (Nat.le_refl _)).1 (by simp; omega) _
      clear HD
      go_wp2
      go_ret
      refine ⟨⟨_, rfl, by rw [bytes_of]; simp [HB.out.last (Nat.le_refl _) hx]⟩, ?_⟩
      show Below _ _ (wr.setCell ⟨w.heap.size, p, none⟩ (.int .u8 (48 + (x : Int) % 10)))
      rw [dig_int]
      exact (HB.out.step (Nat.le_refl _)).2.2
    · clear HD
      go_wp2
      refine ⟨⟨x / 10, p, UInt8.ofNat (48 + x % 10) :: l, by simp, rfl, by omega, ?_⟩, by simp [intOf]; omega⟩
      rw [dig_int]
      exact HB.out.more (Nat.le_refl _) hx

set_option maxHeartbeats 2000000 in
theorem zzItoa_neg (k : Nat) (h1 : (k : Int) ≤ 9223372036854775807) (w : World) :
    Calls Tryd.prog 6 #[.int .i64 (-1 - (k : Int))] w fun e w' => StrOut (45 :: Lib.decDigits (k + 1)) w e w' := by
  have hneg : decide (-1 - (k : Int) < 0) = true := decide_eq_true (by omega)
  have hk : IntKind.i64.wrap (-1 - (k : Int) + 1) = -(k : Int) := by rw [IntKind.wrap_i64]; omega
  have hk2 : IntKind.i64.wrap (-(-(k : Int))) = k := by rw [IntKind.wrap_i64]; omega
  go_enter Tryd.func6, Tryd.ntmps6
  go_wp2
  go_loopw [4, 6] (fun u i wr => ∃ (x p : Nat) (l : List UInt8), u = .int .u64 x ∧ i = .int .i64 p ∧ x ≤ k + 1 ∧ Buf w w.heap.size (k + 1) x p l wr) (fun u _ _ => (intOf u).toNat)
  case atStart => exact ⟨k + 1, 24, [], by simp, rfl, Nat.le_refl _, Buf.start w (k + 1) _ _ rfl⟩
  case round =>
    obtain ⟨x, p, l, rfl, rfl, hxn, hbuf⟩ := hrel
    have hlen := dig_le hbuf.dig (by omega)
    have hpl := hbuf.pl
    obtain ⟨p, rfl⟩ : ∃ p', p = p' + 1 + 1 := ⟨p - 2, by omega⟩
    have ht := hbuf.there (p + 1) (by omega)
    rw [Nat.zero_add] at ht
    obtain ⟨v, hv⟩ := Option.isSome_iff_exists.1 ht.1
    have hf := ht.2
    have b1 : ((p + 1 : Nat) : Int) < 24 := by omega
    have HB : Hid (Buf w w.heap.size (k + 1) x (p + 1 + 1) l wr) := hbuf
    clear hbuf ht
    have HD := dig_int x
    by_cases hx : x < 10
    · have hst := HB.out.step (Nat.le_refl _)
      rw [← HD] at hst
      have HP : Hid _ := put_any hst.1 hst.2.1 hst.2.2 (by omega) (Nat.le_refl _) 45
      have ht2 := hst.2.1 p (by omega)
      rw [Nat.zero_add] at ht2
      obtain ⟨v2, hv2⟩ := Option.isSome_iff_exists.1 ht2.1
      have hf2 := ht2.2
      have b2 : (p : Int) < 24 := by omega
      clear ht2 hst
      have hsl : ∀ w', (Instr.sliceAt 30 (.pointer (some ⟨w.heap.size, 0, none⟩)) (some (.int .i64 (p : Int))) none none).run Tryd.prog w' = .ok (.slice (some ⟨w.heap.size, p, none⟩) (24 - p) (24 - p)) w' := slice_any _ p (by omega)
      have hcv : (convert 31 9 (.slice (some ⟨w.heap.size, p, none⟩) (24 - p) (24 - p))).run Tryd.prog ((wr.setCell ⟨w.heap.size, p + 1, none⟩ (.int .u8 (48 + (x : Int) % 10))).setCell ⟨w.heap.size, p, none⟩ (.int .u8 45)) = .ok (.string ⟨(45 :: UInt8.ofNat (48 + x % 10) :: l).toArray⟩) ((wr.setCell ⟨w.heap.size, p + 1, none⟩ (.int .u8 (48 + (x : Int) % 10))).setCell ⟨w.heap.size, p, none⟩ (.int .u8 45)) :=
        conv_any HP.out.1 (by simp; omega) _
      clear HD
      go_wp2
      go_ret
      refine ⟨⟨_, rfl, by rw [bytes_of]; simp [HB.out.last (Nat.le_refl _) hx]⟩, ?_⟩
      exact HP.out.2.2
    · clear HD
      go_wp2
      refine ⟨⟨x / 10, p + 1, UInt8.ofNat (48 + x % 10) :: l, by simp, rfl, by omega, ?_⟩, by simp [intOf]; omega⟩
      rw [dig_int]
      exact HB.out.more (Nat.le_refl _) hx

theorem zzItoa_any (n : Int) (h0 : -9223372036854775808 ≤ n) (h1 : n ≤ 9223372036854775807) (w : World) :
    Calls Tryd.prog 6 #[.int .i64 n] w fun e w' => StrOut (Lib.itoa n) w e w' := by
  rcases (show n < 0 ∨ 0 ≤ n by omega) with h | h
  · obtain ⟨k, rfl⟩ : ∃ k : Nat, n = -1 - (k : Int) := ⟨(-1 - n).toNat, by omega⟩
    have e : Lib.itoa (-1 - (k : Int)) = 45 :: Lib.decDigits (k + 1) := by
      unfold Lib.itoa; rw [if_pos h, show (-1 - (k : Int)).natAbs = k + 1 by omega]
    rw [e]
    exact zzItoa_neg k (by omega) w
  · obtain ⟨k, rfl⟩ : ∃ k : Nat, n = (k : Int) := ⟨n.toNat, by omega⟩
    have e : Lib.itoa (k : Int) = Lib.decDigits k := by
      unfold Lib.itoa; rw [if_neg (by omega), show (k : Int).toNat = k by omega]
    rw [e]
    exact zzItoa_nonneg k h1 w

theorem table_any (b o c : Nat) (n : Int) (h0 : -9223372036854775808 ≤ n) (h1 : n ≤ 9223372036854775807) (w : World) (h : Laid w b o c) :
    Calls Tryd.prog 3 #[.int .i64 n] w fun e w' => LawOut w e w' := by
  have HL : Hid (Laid w b o c) := h
  clear h
  go_enter Tryd.func3, Tryd.ntmps3
  go_wp2_with fail
  refine (string_any b o c n h0 h1 w HL.out).mono ?_
  rintro e x1 ⟨⟨s, rfl, hs⟩, hb1⟩
  have HS : Hid (s.toList = modeStr n) := hs
  clear hs
  have HB : Hid (Below w.heap.size w x1) := hb1
  clear hb1
  by_cases hn0 : n = 0
  · subst hn0
    have e1 : (s.toList == [105, 110, 116, 101, 114, 97, 99, 116, 105, 118, 101]) = true := by rw [HS.out]; rfl
    go_wp2
    go_ret
    exact ⟨rfl, HB.out⟩
  · by_cases hn1 : n = 1
    · subst hn1
      have e1 : (s.toList == [98, 97, 116, 99, 104]) = true := by rw [HS.out]; rfl
      go_wp2
      go_ret
      exact ⟨rfl, HB.out⟩
    · have e3 : (n == 0) = false := by simp [hn0]
      have e4 : (n == 1) = false := by simp [hn1]
      have hl := Lib.itoa_length_le n h0 h1
      have HS' : Hid (s.toList = [77, 111, 100, 101, 40] ++ Lib.itoa n ++ [41]) := by rw [← modeStr_other hn0 hn1]; exact HS.out
      clear HS hn0 hn1
      go_wp2_with fail
      refine (zzItoa_any n h0 h1 x1).mono ?_
      rintro e x2 ⟨⟨t, rfl, ht⟩, hb2⟩
      have htl : t.size ≤ 21 := by
        rw [← ht, bytes_of] at hl
        simpa using hl
      have e5 : (s.toList == (({ data := #[77, 111, 100, 101, 40] } : ByteArray) ++ t ++ ({ data := #[41] } : ByteArray)).toList) = true := by
        rw [HS'.out, ← ht, bytes_of, bytes_of]; simp
      go_wp2
      go_ret
      exact ⟨rfl, HB.out.trans (hb2.mono HB.out.size)⟩
end Go.Proofs.Qxb6612252aDoor.Md
