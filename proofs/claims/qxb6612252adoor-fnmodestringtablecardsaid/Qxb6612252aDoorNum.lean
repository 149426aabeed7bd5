/-
  PLAIN LAWS: an int's decimal numeral tells the int; the name of a Mode tells the Mode.
-/
import Derived.Lib.ItoaNum
import Derived.Lib.ItoaMem
namespace Go.Proofs.Qxb6612252aDoor.Md
open Go Go.Lib

/-- The number that a row of digits spells. -/
def numOf (l : List UInt8) : Nat := l.foldl (fun a c => 10 * a + (c.toNat - 48)) 0

theorem numOf_snoc (l : List UInt8) (c : UInt8) : numOf (l ++ [c]) = 10 * numOf l + (c.toNat - 48) := by simp [numOf]

theorem dig_toNat {d : Nat} (h : d < 10) : (UInt8.ofNat (48 + d)).toNat = 48 + d := by
  rw [UInt8.toNat_ofNat']; omega

theorem decDigits_small {u : Nat} (h : u < 10) : decDigits u = [UInt8.ofNat (48 + u)] := by rw [decDigits, dif_pos h]
theorem decDigits_big {u : Nat} (h : ¬ u < 10) : decDigits u = decDigits (u / 10) ++ [UInt8.ofNat (48 + u % 10)] := by rw [decDigits, dif_neg h]

theorem numOf_dec (u : Nat) : numOf (decDigits u) = u := by
  induction u using Nat.strongRecOn with
  | _ u ih =>
    by_cases h : u < 10
    · rw [decDigits_small h]
      have := dig_toNat h
      simp only [numOf, List.foldl_cons, List.foldl_nil, this]
      omega
    · rw [decDigits_big h, numOf_snoc, ih (u / 10) (by omega), dig_toNat (by omega)]
      omega

theorem dec_ge (u : Nat) : ∀ c ∈ decDigits u, 48 ≤ c.toNat := by
  induction u using Nat.strongRecOn with
  | _ u ih =>
    by_cases h : u < 10
    · rw [decDigits_small h]
      intro c hc
      simp only [List.mem_singleton] at hc
      subst hc
      rw [dig_toNat h]; omega
    · rw [decDigits_big h]
      intro c hc
      rcases List.mem_append.1 hc with hc | hc
      · exact ih (u / 10) (by omega) c hc
      · simp only [List.mem_singleton] at hc
        subst hc
        rw [dig_toNat (by omega)]; omega

theorem dec_ne_minus (u : Nat) (l : List UInt8) : decDigits u ≠ 45 :: l := fun e => by
  have := dec_ge u 45 (by rw [e]; simp)
  simp at this

theorem dec_inj {u v : Nat} (h : decDigits u = decDigits v) : u = v := by rw [← numOf_dec u, ← numOf_dec v, h]

theorem itoa_inj {a b : Int} (h : itoa a = itoa b) : a = b := by
  unfold itoa at h
  by_cases ha : a < 0
  · rw [if_pos ha] at h
    by_cases hb : b < 0
    · rw [if_pos hb] at h
      have := dec_inj (List.cons.inj h).2
      omega
    · rw [if_neg hb] at h
      exact absurd h.symm (dec_ne_minus _ _)
  · rw [if_neg ha] at h
    by_cases hb : b < 0
    · rw [if_pos hb] at h
      exact absurd h (dec_ne_minus _ _)
    · rw [if_neg hb] at h
      have := dec_inj h
      omega

def interactive : List UInt8 := [105, 110, 116, 101, 114, 97, 99, 116, 105, 118, 101]
def batch : List UInt8 := [98, 97, 116, 99, 104]
/-- A Mode's name. -/
def modeStr (n : Int) : List UInt8 := if n = 0 then interactive else if n = 1 then batch else [77, 111, 100, 101, 40] ++ itoa n ++ [41]

theorem modeStr_zero : modeStr 0 = interactive := rfl
theorem modeStr_one : modeStr 1 = batch := rfl
theorem modeStr_other {n : Int} (h0 : n ≠ 0) (h1 : n ≠ 1) : modeStr n = [77, 111, 100, 101, 40] ++ itoa n ++ [41] := by unfold modeStr; rw [if_neg h0, if_neg h1]

theorem modeStr_ne (n : Int) : modeStr n ≠ [] := by
  unfold modeStr
  split
  · simp [interactive]
  · split
    · simp [batch]
    · simp

theorem modeStr_inj {a b : Int} (h : modeStr a = modeStr b) : a = b := by
  by_cases a0 : a = 0
  · by_cases b0 : b = 0
    · rw [a0, b0]
    · by_cases b1 : b = 1
      · rw [a0, b1, modeStr_zero, modeStr_one] at h; simp [interactive, batch] at h
      · rw [a0, modeStr_zero, modeStr_other b0 b1] at h; simp [interactive] at h
  · by_cases a1 : a = 1
    · by_cases b0 : b = 0
      · rw [a1, b0, modeStr_zero, modeStr_one] at h; simp [interactive, batch] at h
      · by_cases b1 : b = 1
        · rw [a1, b1]
        · rw [a1, modeStr_one, modeStr_other b0 b1] at h; simp [batch] at h
    · by_cases b0 : b = 0
      · rw [b0, modeStr_zero, modeStr_other a0 a1] at h; simp [interactive] at h
      · by_cases b1 : b = 1
        · rw [b1, modeStr_one, modeStr_other a0 a1] at h; simp [batch] at h
        · rw [modeStr_other a0 a1, modeStr_other b0 b1] at h
          exact itoa_inj (by simpa using h)
end Go.Proofs.Qxb6612252aDoor.Md
