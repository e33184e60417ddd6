/-
  Seat b6618635aD: plain laws: where the varint at a list's head ends, and what it spells. No Go in this text.
-/
import Derived.Lib.VarintDec
namespace Go.Proofs.Qxb6618635aDoor
open Go

/-- The index of the byte that ends the head's varint, i bytes having been read; -1: there is none that may be taken. -/
def vend : Nat → List UInt8 → Int
  | _, [] => -1
  | i, b :: r => if i = 10 then -1 else if b.toNat < 128 then (if i = 9 ∧ 1 < b.toNat then -1 else (i : Int)) else vend (i + 1) r
/-- The number whose digits to the base 128 are the bytes' low seven bits. -/
def num : List UInt8 → Nat
  | [] => 0
  | b :: r => b.toNat % 128 + 128 * num r

theorem uv_spec : ∀ (l : List UInt8) (i acc : Nat), i ≤ 10 →
    (vend i l = -1 ∧ (Lib.uvarintFrom i acc l).1 = 0 ∧ (Lib.uvarintFrom i acc l).2 ≤ 0) ∨
    (∃ t : Nat, t < l.length ∧ i + t ≤ 9 ∧ vend i l = ((i + t : Nat) : Int) ∧ (Lib.uvarintFrom i acc l).2 = ((i + t + 1 : Nat) : Int) ∧ (Lib.uvarintFrom i acc l).1 = acc + num (l.take (t + 1)) * 2 ^ (7 * i) ∧ (l.getD t 0).toNat < 128)
  | [], i, acc, _ => by left; simp [vend, Lib.uvarintFrom]
  | b :: r, i, acc, hi => by
    by_cases h10 : i = 10
    · left; simp only [vend, Lib.uvarintFrom, if_pos h10]; exact ⟨trivial, trivial, by omega⟩
    by_cases hb : b.toNat < 128
    · by_cases h9 : i = 9 ∧ 1 < b.toNat
      · left; simp only [vend, Lib.uvarintFrom, if_neg h10, if_pos hb, if_pos h9]; exact ⟨trivial, trivial, by omega⟩
      · right
        refine ⟨0, by simp, by omega, ?_, ?_, ?_, by simpa using hb⟩
        · simp only [vend, if_neg h10, if_pos hb, if_neg h9, Nat.add_zero]
        · simp only [Lib.uvarintFrom, if_neg h10, if_pos hb, if_neg h9]; omega
        · simp only [Lib.uvarintFrom, if_neg h10, if_pos hb, if_neg h9, List.take, num, Nat.mul_zero, Nat.add_zero, Nat.mod_eq_of_lt hb]
    · have ih := uv_spec r (i + 1) (acc + b.toNat % 128 * 2 ^ (7 * i)) (by omega)
      have e1 : vend i (b :: r) = vend (i + 1) r := by simp only [vend, if_neg h10, if_neg hb]
      have e2 : Lib.uvarintFrom i acc (b :: r) = Lib.uvarintFrom (i + 1) (acc + b.toNat % 128 * 2 ^ (7 * i)) r := by simp only [Lib.uvarintFrom, if_neg h10, if_neg hb]
      rw [e1, e2]
      rcases ih with ih | ⟨t, h1, h2, h3, h4, h5, h6⟩
      · exact .inl ih
      · right
        refine ⟨t + 1, by simpa using h1, by omega, ?_, ?_, ?_, by simpa using h6⟩
        · rw [h3]; congr 1; omega
        · rw [h4]; congr 1; omega
        · rw [h5, List.take_succ_cons, num, show 7 * (i + 1) = 7 * i + 7 from by omega, Nat.pow_add]
          generalize 2 ^ (7 * i) = p
          generalize num (r.take (t + 1)) = q
          generalize b.toNat % 128 = z
          rw [Nat.add_mul, show (2 : Nat) ^ 7 = 128 from rfl, Nat.mul_comm p 128, ← Nat.mul_assoc, Nat.mul_comm 128 q]
          omega

theorem num_lt : ∀ (l : List UInt8), num l < 128 ^ l.length
  | [] => by simp [num]
  | b :: r => by
    have ih := num_lt r
    have hb := Nat.mod_lt b.toNat (show 0 < 128 by omega)
    rw [num, List.length_cons, Nat.pow_succ]
    omega
theorem num_digit : ∀ (l : List UInt8) (i : Nat), i < l.length → num l / 128 ^ i % 128 = (l.getD i 0).toNat % 128
  | b :: r, 0, _ => by simp [num]
  | b :: r, i + 1, h => by
    have ih := num_digit r i (by simpa using h)
    have : num (b :: r) / 128 ^ (i + 1) = num r / 128 ^ i := by
      rw [Nat.pow_succ, Nat.mul_comm, ← Nat.div_div_eq_div_mul]
      congr 1
      rw [num]; omega
    rw [this, ih]; simp
theorem num_top (l : List UInt8) (t : Nat) (h : t < l.length) (hb : (l.getD t 0).toNat < 128) : num (l.take (t + 1)) / 128 ^ t = (l.getD t 0).toNat := by
  have h1 := num_lt (l.take (t + 1))
  have hlen : (l.take (t + 1)).length = t + 1 := by simp; omega
  rw [hlen, Nat.pow_succ] at h1
  have h2 : num (l.take (t + 1)) / 128 ^ t < 128 := (Nat.div_lt_iff_lt_mul (Nat.pow_pos (by omega))).2 (by rw [Nat.mul_comm]; exact h1)
  have h3 := num_digit (l.take (t + 1)) t (by omega)
  have h4 : (l.take (t + 1)).getD t 0 = l.getD t 0 := by simp [List.getD]
  rw [h4, Nat.mod_eq_of_lt h2, Nat.mod_eq_of_lt hb] at h3
  exact h3
theorem num_low (l : List UInt8) (t i : Nat) (h : t < l.length) (hi : i < t) : num (l.take (t + 1)) / 128 ^ i % 128 = (l.getD i 0).toNat % 128 := by
  rw [num_digit _ _ (by simp; omega)]
  congr 2
  simp [List.getD, show i < t + 1 from by omega]

/-- The head's varint, whole. -/
structure Head (l : List UInt8) (t : Nat) (v : Nat) : Prop where
  lt : t < l.length
  nine : t ≤ 9
  he : vend 0 l = (t : Int)
  n : (Lib.uvarintDec l).2 = ((t + 1 : Nat) : Int)
  hv : (Lib.uvarintDec l).1 = v
  v64 : v < 18446744073709551616
  low : ∀ i, i < t → v / 2 ^ (7 * i) % 128 = (l.getD i 0).toNat % 128
  top : v / 2 ^ (7 * t) = (l.getD t 0).toNat
theorem pow7 (i : Nat) : (2 : Nat) ^ (7 * i) = 128 ^ i := by rw [Nat.pow_mul]
theorem head_or (l : List UInt8) : (vend 0 l = -1 ∧ (Lib.uvarintDec l).1 = 0 ∧ (Lib.uvarintDec l).2 ≤ 0) ∨ ∃ t, Head l t (Lib.uvarintDec l).1 := by
  rcases uv_spec l 0 0 (by omega) with h | ⟨t, h1, h2, h3, h4, h5, h6⟩
  · exact .inl h
  · right
    rw [Nat.zero_add] at h2 h3 h4
    have hv : (Lib.uvarintDec l).1 = num (l.take (t + 1)) := by
      have : (Lib.uvarintDec l).1 = 0 + num (l.take (t + 1)) * 2 ^ (7 * 0) := h5
      rw [this]; simp
    exact ⟨t, h1, h2, h3, h4, rfl, Lib.uvarintFrom_lt l 0 0 (by omega) (by omega), fun i hi => by rw [hv, pow7]; exact num_low l t i h1 hi, by rw [hv, pow7]; exact num_top l t h1 h6⟩
theorem app_spec : ∀ (l c : List UInt8) (i acc : Nat), vend i l ≠ -1 → Lib.uvarintFrom i acc (l ++ c) = Lib.uvarintFrom i acc l
  | [], c, i, acc, h => by simp [vend] at h
  | b :: r, c, i, acc, h => by
    by_cases h10 : i = 10
    · simp [vend, h10] at h
    by_cases hb : b.toNat < 128
    · simp only [List.cons_append, Lib.uvarintFrom, if_neg h10, if_pos hb]
    · simp only [vend, if_neg h10, if_neg hb] at h
      simp only [List.cons_append, Lib.uvarintFrom, if_neg h10, if_neg hb]
      exact app_spec r c (i + 1) _ h
theorem Head.app {l : List UInt8} {t v : Nat} (h : Head l t v) (c : List UInt8) : Lib.uvarintDec (l ++ c) = Lib.uvarintDec l :=
  app_spec l c 0 0 (by rw [h.he]; omega)
end Go.Proofs.Qxb6618635aDoor
