/-
  THE WALKS under 'FnCloseTwiceIsCloseAtTheShallower', part E: the law itself.
-/
import Derived.Test.Qxb6612179aWalksD
namespace Go.Proofs.Qxb6612179a.Cl
open Go.RowKit
set_option linter.unusedVariables false

/-- How the law ends. -/
def LawOut (w : World) (e : Ending) (w' : World) : Prop := e = .returned (.bool true) ∧ Below w.heap.size w w'

theorem Rd.below {B : Nat} {w w' : World} {R g d n : Nat} {X : Nat → Blk} (h : Rd w R g d n X) (hb : Below B w w') (h1 : R < B) (h2 : g < B) : Rd w' R g d n X :=
  ⟨by rw [hb.cell h1]; exact h.cell, by rw [hb.frozen h1]; exact h.free, h.rows.below hb h2, h.ne, Nat.lt_of_lt_of_le h.lt hb.size, Nat.lt_of_lt_of_le h.lt' hb.size⟩

theorem RowsAt.setCell {w : World} {b o n : Nat} {X : Nat → Blk} (h : RowsAt w b o n X) {a : Addr} (hne : b ≠ a.block) (v : Value) : RowsAt (w.setCell a v) b o n X := fun i hi j u hu => by
  rw [World.cell?_setCell_other _ _ _ _ (fun e => hne (by rw [e]))]
  exact h i hi j u hu

/-- The reader's own field turned: it holds open k blocks now. -/
theorem Rd.close {w : World} {R g d n : Nat} {X : Nat → Blk} (h : Rd w R g d n X) (k : Nat) : Rd (w.setCell ⟨R, 0, none⟩ (.slice (some ⟨g, 0, none⟩) k n)) R g k n X :=
  ⟨World.cell?_setCell_same _ _ _ h.cell, by rw [World.frozen?_setCell]; exact h.free, h.rows.setCell h.ne _, h.ne, by simpa [World.setCell] using h.lt, by simpa [World.setCell] using h.lt'⟩

/-- Another reader, or none: what lies elsewhere stands. -/
theorem Rd.other {w : World} {R g d n : Nat} {X : Nat → Blk} (h : Rd w R g d n X) {S : Nat} (v : Value) (h1 : R ≠ S) (h2 : g ≠ S) : Rd (w.setCell ⟨S, 0, none⟩ v) R g d n X :=
  ⟨by rw [World.cell?_setCell_other _ _ _ _ (fun e => h1 (by rw [Addr.mk.injEq] at e; exact e.1.symm))]; exact h.cell, by rw [World.frozen?_setCell]; exact h.free, h.rows.setCell h2 _, h.ne, by simpa [World.setCell] using h.lt, by simpa [World.setCell] using h.lt'⟩

theorem clone_any (a : Option Addr) (b o n c : Nat) (X : Nat → Blk) (w : World) (hnil : a = none → n = 0 ∧ c = 0) (ha : 0 < n → a = some ⟨b, o, none⟩) (h : RowsAt w b o n X) (hb : 0 < n → b < w.heap.size) (hn : n ≤ 1048576) :
    Calls Try.prog 8 #[.slice a n c] w fun e w' => ∃ a' c', e = .returned (.slice a' n c') ∧ (0 < n → a' = some ⟨w.heap.size, 0, none⟩) ∧ RowsAt w' w.heap.size 0 n X ∧ Below w.heap.size w w' ∧ (0 < n → w.heap.size < w'.heap.size) := by
  cases a with
  | none =>
    obtain ⟨rfl, rfl⟩ := hnil rfl
    refine (clone_nil w).mono ?_
    rintro e w' ⟨rfl, rfl⟩
    exact ⟨_, _, rfl, fun h => absurd h (Nat.lt_irrefl _), fun i hi => absurd hi (Nat.not_lt_zero _), Below.refl _ _, fun h => absurd h (Nat.lt_irrefl _)⟩
  | some x =>
    refine (clone_some x b o n c X w (fun h => by simpa using ha h) h hb hn).mono ?_
    rintro e w' ⟨rfl, hr, hbl, hlt⟩
    exact ⟨_, _, rfl, fun _ => rfl, hr, hbl, fun _ => hlt⟩

theorem below_cell {w w' : World} (hb : Below w.heap.size w w') {a : Addr} {v : Value} (h : w.cell? a = some v) : w'.cell? a = some v := by
  rw [hb.cell (World.block_lt_of_cell? w a h)]; exact h

/-- sameBlock at one block twice, the two values written out. -/
def Same (x : Blk) : Prop := ∀ w, Calls Try.prog 12 #[.agg #[.int .u8 x.kind, .int .i64 x.line, .int .i64 x.width, .bool x.filled, .string x.fence, .int .i64 x.html], .agg #[.int .u8 x.kind, .int .i64 x.line, .int .i64 x.width, .bool x.filled, .string x.fence, .int .i64 x.html]] w fun e w' => e = .returned (.bool true) ∧ Below w.heap.size w w'
theorem same_all (x : Blk) : Same x := same_any x

/-- The six cells of one block of a row. -/
theorem RowsAt.six {w : World} {b n : Nat} {X : Nat → Blk} (h : RowsAt w b 0 n X) {k : Nat} (hk : k < n) :
    w.cell? ⟨b, k * 6, none⟩ = some (.int .u8 (X k).kind) ∧ w.cell? ⟨b, k * 6 + 1, none⟩ = some (.int .i64 (X k).line) ∧ w.cell? ⟨b, k * 6 + 2, none⟩ = some (.int .i64 (X k).width) ∧ w.cell? ⟨b, k * 6 + 3, none⟩ = some (.bool (X k).filled) ∧ w.cell? ⟨b, k * 6 + 4, none⟩ = some (.string (X k).fence) ∧ w.cell? ⟨b, k * 6 + 5, none⟩ = some (.int .i64 (X k).html) := by
  have := h k hk
  rw [Nat.zero_add] at this
  exact ⟨this 0 _ rfl, this 1 _ rfl, this 2 _ rfl, this 3 _ rfl, this 4 _ rfl, this 5 _ rfl⟩

set_option maxRecDepth 100000 in
set_option maxHeartbeats 4000000 in
theorem law_any (a : Option Addr) (b o n c : Nat) (f s : Int) (X : Nat → Blk) (w : World) (hnil : a = none → n = 0 ∧ c = 0) (ha : 0 < n → a = some ⟨b, o, none⟩) (h : Came w b o n X) (hb : 0 < n → b < w.heap.size) (hn : n ≤ maxLen) :
    Calls Try.prog 3 #[.slice a n c, .int .i64 f, .int .i64 s] w fun e w' => LawOut w e w' := by
  have HN : Hid (a = none → n = 0 ∧ c = 0) := hnil
  have HA : Hid (0 < n → a = some ⟨b, o, none⟩) := ha
  have HB : Hid (0 < n → b < w.heap.size) := hb
  clear hnil ha hb
  go_enter Try.func3, Try.ntmps3
  go_wp2_with fail
  refine (zzBytes_any a b o n c f s X w HA.out h hn).mono ?_
  rintro e w' ⟨⟨r, rfl, hr⟩, hw⟩
  obtain rfl := hw.symm
  cases r
  · go_wp2_with fail
    go_ret
    exact ⟨rfl, Below.refl _ _⟩
  clear hr
  go_wp2_with fail
  refine (readerFits_any a b o n c X w HA.out h hn).mono ?_
  rintro e w' ⟨⟨r, rfl, hr⟩, hw⟩
  obtain rfl := hw.symm
  cases r
  · go_wp2_with fail
    go_ret
    exact ⟨rfl, Below.refl _ _⟩
  have hn2 : n ≤ 65536 := hr rfl
  clear hr
  rcases (show f < 0 ∨ (0 ≤ f ∧ (n : Int) < f) ∨ (0 ≤ f ∧ f ≤ (n : Int) ∧ s < 0) ∨ (0 ≤ f ∧ f ≤ (n : Int) ∧ 0 ≤ s ∧ f < s) ∨ (0 ≤ f ∧ f ≤ (n : Int) ∧ 0 ≤ s ∧ s ≤ f) by omega) with h1 | ⟨h1, h2⟩ | ⟨h1, h2, h3⟩ | ⟨h1, h2, h3, h4⟩ | ⟨h1, h2, h3, h4⟩
  · go_wp2_with fail
    go_ret
    exact ⟨rfl, Below.refl _ _⟩
  · go_wp2_with fail
    go_ret
    exact ⟨rfl, Below.refl _ _⟩
  · go_wp2_with fail
    go_ret
    exact ⟨rfl, Below.refl _ _⟩
  · go_wp2_with fail
    go_ret
    exact ⟨rfl, Below.refl _ _⟩
  obtain ⟨F, rfl⟩ := Int.eq_ofNat_of_zero_le h1
  obtain ⟨S, rfl⟩ := Int.eq_ofNat_of_zero_le h3
  have hF : F ≤ n := by omega
  have hS : S ≤ F := by omega
  clear h1 h2 h3 h4
  go_wp2_with fail
  refine (clone_any a b o n c X w HN.out HA.out h.rows HB.out (by omega)).mono ?_
  rintro e w1 ⟨a', c', rfl, ha', hr1, hbl1, hlt1⟩
  have HA' : Hid (0 < n → a' = some ⟨w.heap.size, 0, none⟩) := ha'
  have H1 : Hid (0 < n → w.heap.size < w1.heap.size) := hlt1
  clear ha' hlt1 HN HA HB h
  go_wp2_with fail
  refine (newReader_any a' w.heap.size 0 n c' X w1 HA'.out hr1 H1.out (by omega)).mono ?_
  rintro e w2 ⟨⟨R, rfl, hrd, hRg⟩, hbl2⟩
  go_wp2_with fail
  refine (zzclose_any R w1.heap.size n n F X w2 hrd hF (Nat.le_refl _) (by omega)).mono ?_
  rintro e w3 ⟨rfl, hw3⟩
  have hrd3 : Rd w3 R w1.heap.size F n X := by rw [hw3]; exact hrd.close F
  have hbl3 : Below w1.heap.size w1 w3 := by rw [hw3]; exact hbl2.setCell (by show w1.heap.size ≤ R; omega) _
  clear hw3 hrd hbl2
  go_wp2_with fail
  refine (readerOpen_any R w1.heap.size F n X w3 hrd3).mono ?_
  rintro e w' ⟨rfl, hw⟩
  obtain rfl := hw.symm
  go_wp2_with fail
  refine (zzclose_any R w1.heap.size F n S X w3 hrd3 hS hF (by omega)).mono ?_
  rintro e w4 ⟨rfl, hw4⟩
  have hrd4 : Rd w4 R w1.heap.size S n X := by rw [hw4]; exact hrd3.close S
  have hbl4 : Below w1.heap.size w1 w4 := by rw [hw4]; exact hbl3.setCell (by show w1.heap.size ≤ R; omega) _
  clear hw4 hrd3 hbl3
  have hr4 : Hid (0 < n → RowsAt w4 w.heap.size 0 n X) := fun h0 => hr1.below hbl4 (H1.out h0)
  have hr4' : RowsAt w4 w.heap.size 0 n X := fun i hi => hr4.out (by omega) i hi
  have H4 : Hid (0 < n → w.heap.size < w4.heap.size) := fun h0 => Nat.lt_of_lt_of_le (H1.out h0) hbl4.size
  go_wp2_with fail
  refine (newReader_any a' w.heap.size 0 n c' X w4 HA'.out hr4' H4.out (by omega)).mono ?_
  rintro e w5 ⟨⟨Q, rfl, hrd5, hQg⟩, hbl5⟩
  go_wp2_with fail
  refine (zzclose_any Q w4.heap.size n n S X w5 hrd5 (by omega) (Nat.le_refl _) (by omega)).mono ?_
  rintro e w6 ⟨rfl, hw6⟩
  have l1 : R < w4.heap.size := hrd4.lt'
  have l2 : w1.heap.size < w4.heap.size := hrd4.lt
  have hrd6 : Rd w6 Q w4.heap.size S n X := by rw [hw6]; exact hrd5.close S
  have hbl6 : Below w4.heap.size w4 w6 := by rw [hw6]; exact hbl5.setCell (by show w4.heap.size ≤ Q; omega) _
  have hra6 : Rd w6 R w1.heap.size S n X := hrd4.below hbl6 l1 l2
  have hr6 : Hid (0 < n → RowsAt w6 w.heap.size 0 n X) := fun h0 => hr4'.below hbl6 (H4.out h0)
  have hB6 : Hid (Below w.heap.size w w6) := (hbl1.trans (hbl4.mono hbl1.size)).trans (hbl6.mono (Nat.le_trans hbl1.size hbl4.size))
  clear hw6 hrd5 hbl5 hbl6 hrd4 hr4' hr1
  go_wp2_with fail
  refine (readerOpen_any R w1.heap.size S n X w6 hra6).mono ?_
  rintro e w' ⟨rfl, hw⟩
  obtain rfl := hw.symm
  go_wp2_with fail
  refine (readerOpen_any Q w4.heap.size S n X w6 hrd6).mono ?_
  rintro e w' ⟨rfl, hw⟩
  obtain rfl := hw.symm
  have ra := hra6.rows
  have rb := hrd6.rows
  clear hra6 hrd6 hbl4 hbl1
  generalize w1.heap.size = ga at *
  generalize w4.heap.size = gb at *
  go_wp2_with fail
  go_loopw [11] (fun i wr => ∃ k : Nat, k ≤ S ∧ i = .int .i64 k ∧ Below w6.heap.size w6 wr) (fun i _ => S - (intOf i).toNat)
  case atStart => exact ⟨0, Nat.zero_le _, rfl, Below.refl _ _⟩
  case round =>
    obtain ⟨k, hk, rfl, hbl⟩ := hrel
    by_cases hlt : k < S
    · obtain rfl := HA'.out (by omega)
      obtain ⟨p0, p1, p2, p3, p4, p5⟩ := (hr6.out (by omega)).six (show k < n by omega)
      obtain ⟨q0, q1, q2, q3, q4, q5⟩ := ra.six (show k < n by omega)
      obtain ⟨t0, t1, t2, t3, t4, t5⟩ := rb.six (show k < n by omega)
      replace p0 := below_cell hbl p0
      replace p1 := below_cell hbl p1
      replace p2 := below_cell hbl p2
      replace p3 := below_cell hbl p3
      replace p4 := below_cell hbl p4
      replace p5 := below_cell hbl p5
      replace q0 := below_cell hbl q0
      replace q1 := below_cell hbl q1
      replace q2 := below_cell hbl q2
      replace q3 := below_cell hbl q3
      replace q4 := below_cell hbl q4
      replace q5 := below_cell hbl q5
      replace t0 := below_cell hbl t0
      replace t1 := below_cell hbl t1
      replace t2 := below_cell hbl t2
      replace t3 := below_cell hbl t3
      replace t4 := below_cell hbl t4
      replace t5 := below_cell hbl t5
      have hsame : Same (X k) := same_all (X k)
      have b1 : (0 : Int) ≤ (k : Int) := by omega
      have b2 : (k : Int) < (S : Int) := by omega
      have b3 : (k : Int) < (n : Int) := by omega
      clear ra rb hr6
      go_wp2_with fail
      go_region_held3 (fun w' => Below w6.heap.size w6 w' ∧ w'.cell? ⟨w.heap.size, k * 6, none⟩ = some (.int .u8 (X k).kind) ∧ w'.cell? ⟨w.heap.size, k * 6 + 1, none⟩ = some (.int .i64 (X k).line) ∧ w'.cell? ⟨w.heap.size, k * 6 + 2, none⟩ = some (.int .i64 (X k).width) ∧ w'.cell? ⟨w.heap.size, k * 6 + 3, none⟩ = some (.bool (X k).filled) ∧ w'.cell? ⟨w.heap.size, k * 6 + 4, none⟩ = some (.string (X k).fence) ∧ w'.cell? ⟨w.heap.size, k * 6 + 5, none⟩ = some (.int .i64 (X k).html) ∧
          w'.cell? ⟨ga, k * 6, none⟩ = some (.int .u8 (X k).kind) ∧ w'.cell? ⟨ga, k * 6 + 1, none⟩ = some (.int .i64 (X k).line) ∧ w'.cell? ⟨ga, k * 6 + 2, none⟩ = some (.int .i64 (X k).width) ∧ w'.cell? ⟨ga, k * 6 + 3, none⟩ = some (.bool (X k).filled) ∧ w'.cell? ⟨ga, k * 6 + 4, none⟩ = some (.string (X k).fence) ∧ w'.cell? ⟨ga, k * 6 + 5, none⟩ = some (.int .i64 (X k).html) ∧
          w'.cell? ⟨gb, k * 6, none⟩ = some (.int .u8 (X k).kind) ∧ w'.cell? ⟨gb, k * 6 + 1, none⟩ = some (.int .i64 (X k).line) ∧ w'.cell? ⟨gb, k * 6 + 2, none⟩ = some (.int .i64 (X k).width) ∧ w'.cell? ⟨gb, k * 6 + 3, none⟩ = some (.bool (X k).filled) ∧ w'.cell? ⟨gb, k * 6 + 4, none⟩ = some (.string (X k).fence) ∧ w'.cell? ⟨gb, k * 6 + 5, none⟩ = some (.int .i64 (X k).html))
        ((go_split_ands; (repeat' apply And.intro) <;> first | assumption | (refine below_cell (by assumption) ?_; assumption) | (refine Below.drew ?_; assumption) | (refine Below.trans (by assumption) (Below.mono (by assumption) (Below.size (by assumption)))) | (simp; assumption)))
        (first | (go_at_call 12; refine (hsame _).mono ?_; rintro e w' ⟨rfl, hbx⟩))
      rename_i hHeld
      have hfin := hHeld.1
      go_wp2
      go_roundw
      case rel => exact ⟨k + 1, by omega, by go_num, hfin⟩
      case measure => simp [intOf]; omega
    · obtain rfl : k = S := by omega
      go_wp2_with fail
      go_ret
      exact ⟨rfl, hB6.out.trans (hbl.mono hB6.out.size)⟩
end Go.Proofs.Qxb6612179a.Cl
