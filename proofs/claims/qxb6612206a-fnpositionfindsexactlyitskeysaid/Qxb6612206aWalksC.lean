/-
  THE WALKS, part C: a client's position of a key.
-/
import Derived.Test.Qxb6612206aWalksB
import Derived.LaidEqlPtr
namespace Go.Proofs.Qxb6612206a.Pos
open Go.RowKit
set_option linter.unusedVariables false

/-- A client lies in block C: its positions are the n that lie in block g (where there is one), in rising order. -/
structure Client (w : World) (C g n c : Nat) (a : Option Addr) (Ps Ks : Nat → ByteArray) (qs : Nat → Int) : Prop where
  cell : w.cell? ⟨C, 4, none⟩ = some (.slice a n c)
  ha : 0 < n → a = some ⟨g, 0, none⟩
  pos : PosAt w g n Ps Ks qs
  hg : 0 < n → g < w.heap.size
  hn : n ≤ 1048576
  rise : Rising n (fun i => (Ps i).toList) (fun i => (Ks i).toList)

theorem Client.below {w w' : World} {C g n c : Nat} {a : Option Addr} {Ps Ks : Nat → ByteArray} {qs : Nat → Int} (h : Client w C g n c a Ps Ks qs) (hb : Below w.heap.size w w') : Client w' C g n c a Ps Ks qs :=
  ⟨below_cell hb h.cell, h.ha, fun i hi => (h.pos.below hb (h.hg (by omega))) i hi, fun h0 => Nat.lt_of_lt_of_le (h.hg h0) hb.size, h.hn, h.rise⟩

/-- Entry t bears the key. -/
def Bears (Ps Ks : Nat → ByteArray) (p k : ByteArray) (t : Nat) : Prop := (Ps t).toList = p.toList ∧ (Ks t).toList = k.toList

theorem search_hit {w : World} {C g n c : Nat} {a : Option Addr} {Ps Ks : Nat → ByteArray} {qs : Nat → Int} (h : Client w C g n c a Ps Ks qs) (p k : ByteArray) (t : Nat) (ht : t < n) (hk : Bears Ps Ks p k t) :
    Calls Try.prog 16 #[.slice a n c, .agg #[.string p, .string k], .func (.func 17) #[] #[]] w fun e w' => e = .returned (.tuple #[.int .i64 t, .bool true]) ∧ Below w.heap.size w w' := by
  refine (search_any g n c a h.ha Ps Ks qs p k w h.pos h.hg h.hn h.rise).mono ?_
  rintro e w' ⟨i, hbt, he, hb⟩
  have hit : i = t := hbt.hit h.rise ht hk.1 hk.2
  subst hit
  have hz : cmp2 (Ps i).toList (Ks i).toList p.toList k.toList = 0 := (cmp2_zero _ _ _ _).2 hk
  exact ⟨by rw [he]; simp [ht, hz], hb⟩

theorem search_miss {w : World} {C g n c : Nat} {a : Option Addr} {Ps Ks : Nat → ByteArray} {qs : Nat → Int} (h : Client w C g n c a Ps Ks qs) (p k : ByteArray) (hk : ∀ t, t < n → ¬ Bears Ps Ks p k t) :
    Calls Try.prog 16 #[.slice a n c, .agg #[.string p, .string k], .func (.func 17) #[] #[]] w fun e w' => (∃ i : Nat, e = .returned (.tuple #[.int .i64 i, .bool false])) ∧ Below w.heap.size w w' := by
  refine (search_any g n c a h.ha Ps Ks qs p k w h.pos h.hg h.hn h.rise).mono ?_
  rintro e w' ⟨i, hbt, he, hb⟩
  refine ⟨⟨i, ?_⟩, hb⟩
  rw [he]
  by_cases hi : i < n
  · have hz : ¬ cmp2 (Ps i).toList (Ks i).toList p.toList k.toList = 0 := fun e => hk i hi ((cmp2_zero _ _ _ _).1 e)
    simp [hz]
  · simp [hi]


/-- What a search answers: at i, found or not. -/
def Ans (I : Nat → Prop) (b : Bool) (w : World) (e : Ending) (w' : World) : Prop := (∃ i : Nat, I i ∧ e = .returned (.tuple #[.int .i64 i, .bool b])) ∧ Below w.heap.size w w'

set_option maxHeartbeats 1000000 in
theorem find_of {w : World} {C n c : Nat} {a : Option Addr} (p k : ByteArray) (I : Nat → Prop) (b : Bool) (hc : w.cell? ⟨C, 4, none⟩ = some (.slice a n c))
    (hs : ∀ w', Below w.heap.size w w' → Calls Try.prog 16 #[.slice a n c, .agg #[.string p, .string k], .func (.func 17) #[] #[]] w' fun e w'' => Ans I b w' e w'') :
    Calls Try.prog 15 #[.pointer (some ⟨C, 0, none⟩), .agg #[.string p, .string k]] w fun e w' => Ans I b w e w' := by
  have HS : Hid (∀ w', Below w.heap.size w w' → Calls Try.prog 16 #[.slice a n c, .agg #[.string p, .string k], .func (.func 17) #[] #[]] w' fun e w'' => Ans I b w' e w'') := hs
  have hb0 : ∀ o, Below w.heap.size w (w.alloc o) := fun o => (Below.refl _ _).alloc (Nat.le_refl _) o
  clear hs
  go_enter Try.func15, Try.ntmps15
  go_wp2
  obtain ⟨W, hW⟩ : ∃ W, W = w.alloc (.cells #[.string p, .string k] 45) := ⟨_, rfl⟩
  have s0 : Below w.heap.size w W := by rw [hW]; exact hb0 _
  have a0 : W.cell? ⟨w.heap.size, 0, none⟩ = some (.string p) := by rw [hW]; simp
  have a1 : W.cell? ⟨w.heap.size, 1, none⟩ = some (.string k) := by rw [hW]; simp
  have a2 : W.cell? ⟨C, 4, none⟩ = some (.slice a n c) := by rw [hW]; exact cell_alloc hc
  rw [← hW]
  clear hW hb0
  go_region_held3 (fun w' => Below w.heap.size w w' ∧ w'.cell? ⟨w.heap.size, 0, none⟩ = some (.string p) ∧ w'.cell? ⟨w.heap.size, 1, none⟩ = some (.string k) ∧ w'.cell? ⟨C, 4, none⟩ = some (.slice a n c))
    ((go_split_ands; (repeat' apply And.intro) <;> first | assumption | (refine below_cell (by assumption) ?_; assumption) | (refine Below.drew ?_; assumption) | (refine Below.trans (by assumption) (Below.mono (by assumption) (Below.size (by assumption)))) | (simp; assumption)))
    (first | (go_at_call 16; refine (HS.out _ s0.drew).mono ?_; rintro e w' ⟨⟨i, hi, rfl⟩, hbx⟩))
  rename_i hHeld
  have hf0 := hHeld.1
  clear hHeld
  go_wp2
  go_ret2
  exact ⟨⟨i, hi, rfl⟩, hf0⟩

/-- '(*client).position': found at t: the address of entry t. -/
theorem position_hit {w : World} {C g n c : Nat} {a : Option Addr} {Ps Ks : Nat → ByteArray} {qs : Nat → Int} (h : Client w C g n c a Ps Ks qs) (p k : ByteArray) (t : Nat) (ht : t < n) (hk : Bears Ps Ks p k t) :
    Calls Try.prog 14 #[.pointer (some ⟨C, 0, none⟩), .agg #[.string p, .string k]] w fun e w' => e = .returned (.pointer (some ⟨g, t * 11, none⟩)) ∧ Below w.heap.size w w' := by
  have HF : Hid (∀ w', Below w.heap.size w w' → Calls Try.prog 15 #[.pointer (some ⟨C, 0, none⟩), .agg #[.string p, .string k]] w' fun e w'' => Ans (fun i => i = t) true w' e w'') := fun w' hb =>
    find_of p k _ true (h.below hb).cell fun w2 hb2 => (search_hit ((h.below hb).below hb2) p k t ht hk).mono fun e w3 ⟨he, hb3⟩ => ⟨⟨t, rfl, he⟩, hb3⟩
  have hb0 : ∀ o, Below w.heap.size w (w.alloc o) := fun o => (Below.refl _ _).alloc (Nat.le_refl _) o
  have hc := h.cell
  have hn := h.hn
  obtain rfl := h.ha (by omega)
  have b1 : (t : Int) < (n : Int) := by omega
  clear h hk
  go_enter Try.func14, Try.ntmps14
  go_wp2_with (go_at_call 15; refine (HF.out _ (hb0 _)).mono ?_; rintro e w' ⟨⟨i, rfl, rfl⟩, hbx⟩; have hc2 := below_cell ((hb0 _).trans (hbx.mono (by simp))) hc)
  go_ret
  exact ⟨rfl, (hb0 _).trans (Below.mono (by assumption) (by simp))⟩

/-- .. not found: nil. -/
theorem position_miss {w : World} {C g n c : Nat} {a : Option Addr} {Ps Ks : Nat → ByteArray} {qs : Nat → Int} (h : Client w C g n c a Ps Ks qs) (p k : ByteArray) (hk : ∀ t, t < n → ¬ Bears Ps Ks p k t) :
    Calls Try.prog 14 #[.pointer (some ⟨C, 0, none⟩), .agg #[.string p, .string k]] w fun e w' => e = .returned (.pointer none) ∧ Below w.heap.size w w' := by
  have HF : Hid (∀ w', Below w.heap.size w w' → Calls Try.prog 15 #[.pointer (some ⟨C, 0, none⟩), .agg #[.string p, .string k]] w' fun e w'' => Ans (fun _ => True) false w' e w'') := fun w' hb =>
    find_of p k _ false (h.below hb).cell fun w2 hb2 => (search_miss ((h.below hb).below hb2) p k hk).mono fun e w3 ⟨⟨i, he⟩, hb3⟩ => ⟨⟨i, trivial, he⟩, hb3⟩
  have hb0 : ∀ o, Below w.heap.size w (w.alloc o) := fun o => (Below.refl _ _).alloc (Nat.le_refl _) o
  clear h hk
  go_enter Try.func14, Try.ntmps14
  go_wp2_with (go_at_call 15; refine (HF.out _ (hb0 _)).mono ?_; rintro e w' ⟨⟨i, _, rfl⟩, hbx⟩)
  go_ret
  exact ⟨rfl, (hb0 _).trans (Below.mono (by assumption) (by simp))⟩

theorem zzPosition_hit {w : World} {C g n c : Nat} {a : Option Addr} {Ps Ks : Nat → ByteArray} {qs : Nat → Int} (h : Client w C g n c a Ps Ks qs) (p k : ByteArray) (t : Nat) (ht : t < n) (hk : Bears Ps Ks p k t) :
    Calls Try.prog 9 #[.pointer (some ⟨C, 0, none⟩), .string p, .string k] w fun e w' => e = .returned (.pointer (some ⟨g, t * 11, none⟩)) ∧ Below w.heap.size w w' := by
  have HF : Hid (Calls Try.prog 14 #[.pointer (some ⟨C, 0, none⟩), .agg #[.string p, .string k]] w fun e w' => e = .returned (.pointer (some ⟨g, t * 11, none⟩)) ∧ Below w.heap.size w w') := position_hit h p k t ht hk
  clear h hk
  go_enter Try.func9, Try.ntmps9
  go_wp2_with (go_at_call 14; refine HF.out.mono ?_; rintro e w' ⟨rfl, hbx⟩)
  go_ret
  exact ⟨rfl, by assumption⟩

theorem zzPosition_miss {w : World} {C g n c : Nat} {a : Option Addr} {Ps Ks : Nat → ByteArray} {qs : Nat → Int} (h : Client w C g n c a Ps Ks qs) (p k : ByteArray) (hk : ∀ t, t < n → ¬ Bears Ps Ks p k t) :
    Calls Try.prog 9 #[.pointer (some ⟨C, 0, none⟩), .string p, .string k] w fun e w' => e = .returned (.pointer none) ∧ Below w.heap.size w w' := by
  have HF : Hid (Calls Try.prog 14 #[.pointer (some ⟨C, 0, none⟩), .agg #[.string p, .string k]] w fun e w' => e = .returned (.pointer none) ∧ Below w.heap.size w w') := position_miss h p k hk
  clear h hk
  go_enter Try.func9, Try.ntmps9
  go_wp2_with (go_at_call 14; refine HF.out.mono ?_; rintro e w' ⟨rfl, hbx⟩)
  go_ret
  exact ⟨rfl, by assumption⟩

theorem info51 : (Try.prog.info? 51).map (fun i => (i.zero, i.size, i.bytes)) = some (some (.agg #[.string ⟨#[]⟩, .string ⟨#[]⟩, .int .i64 0, .pointer none, .int .i32 0, .int .i64 0, .pointer none, .int .i32 0, .int .i64 0, .pointer none, .int .i32 0]), 11, 104) := by kernel_rfl

theorem zzPositionIs_any {w : World} {C g n c : Nat} {a : Option Addr} {Ps Ks : Nat → ByteArray} {qs : Nat → Int} (h : Client w C g n c a Ps Ks qs) (t : Nat) (ht : t < n) :
    Calls Try.prog 10 #[.pointer (some ⟨C, 0, none⟩), .pointer (some ⟨g, t * 11, none⟩), .int .i64 (t : Int)] w fun e w' => e = .returned (.bool true) ∧ w' = w := by
  have hc := h.cell
  have hn := h.hn
  obtain rfl := h.ha (by omega)
  have b1 : (t : Int) < (n : Int) := by omega
  obtain ⟨i0, hi, hz0, hz1, hz2⟩ := info_parts info51
  have heq := fun (w : World) => run_eql_ptr_same (P := Try.prog) w (tp := 29) (te := 51) ⟨g, t * 11, none⟩ Try.underlying29 hi
  clear h
  go_enter Try.func10, Try.ntmps10
  go_wp2
  go_ret
  exact ⟨rfl, rfl⟩
end Go.Proofs.Qxb6612206a.Pos
