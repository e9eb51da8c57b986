/-
  THE PLAIN MATHEMATICS OF THE SEAT: how many 7-bit groups a number takes. No Go in sight.
-/
import Derived.Lib.BitFns
import Derived.Lib.Varint
namespace Go.Proofs.Qxb6613518a

/-- How many 7-bit groups x takes. -/
def uvN (x : Nat) : Nat := (Lib.uvarint x).length

/-- The same of an int64: a negative one fills 64 bits. -/
def uvI (x : Int) : Int := if x < 0 then 10 else (uvN x.toNat : Int)

theorem uvN_small {x : Nat} (h : x < 128) : uvN x = 1 := by unfold uvN; rw [Lib.uvarint_small h]; rfl
theorem uvN_big {x : Nat} (h : 128 ≤ x) : uvN x = 1 + uvN (x / 128) := by
  unfold uvN; rw [Lib.uvarint_big h, List.length_cons]; omega
theorem uvN_pos (x : Nat) : 1 ≤ uvN x := Lib.uvarint_pos x
theorem uvN_le {x : Nat} (h : x < 18446744073709551616) : uvN x ≤ 10 := Lib.uvarint_length64 h
theorem uvN_form {x : Nat} (h : x < 2097152) : uvN x = if x < 128 then 1 else if x < 16384 then 2 else 3 := by
  by_cases h1 : x < 128
  · rw [if_pos h1, uvN_small h1]
  · rw [if_neg h1, uvN_big (by omega)]
    by_cases h2 : x < 16384
    · rw [if_pos h2, uvN_small (by omega)]
    · rw [if_neg h2, uvN_big (by omega), uvN_small (by omega)]

theorem uvI_nat (n : Nat) : uvI (n : Int) = (uvN n : Int) := by
  unfold uvI; rw [if_neg (by omega), Int.toNat_natCast]
theorem uvI_zero : uvI 0 = 1 := by
  show uvI ((0 : Nat) : Int) = 1
  rw [uvI_nat, uvN_small (by omega)]; rfl
theorem uvI_neg {x : Int} (h : x < 0) : uvI x = 10 := by unfold uvI; rw [if_pos h]
theorem uvI_bd {x : Int} (h : x < 18446744073709551616) : 1 ≤ uvI x ∧ uvI x ≤ 10 := by
  unfold uvI
  by_cases h0 : x < 0
  · rw [if_pos h0]; omega
  · rw [if_neg h0]
    have := uvN_pos x.toNat
    have := uvN_le (x := x.toNat) (by omega)
    omega

/-- 'bits.Len64(x | 1)', x one or more: the length of x. -/
theorem bitLen_or_one {x : Nat} (h0 : 0 < x) (h : x < 18446744073709551616) : Lib.bitLen (2 * (x / 2) + 1) = Lib.bitLen x := by
  rw [Lib.bitLen_half (2 * (x / 2) + 1) (by omega) (by omega), Lib.bitLen_half x (by omega) (by omega)]
  congr 2
  omega

theorem bitLen_pos {x : Nat} (h0 : 0 < x) (h : x < 18446744073709551616) : 1 ≤ Lib.bitLen x := by
  rw [Lib.bitLen_half x (by omega) (by omega)]; omega

theorem bitLen_groups : ∀ (k x : Nat), 0 < x → x < 128 ^ (k + 1) → x < 18446744073709551616 → (Lib.bitLen x + 6) / 7 = uvN x
  | 0, x, h0, h1, h => by
    rw [uvN_small (by simpa using h1)]
    have := bitLen_pos h0 h
    have := Lib.bitLen_le x 7 (by omega) (by simpa using h1)
    omega
  | k + 1, x, h0, h1, h => by
    by_cases hs : x < 128
    · rw [uvN_small hs]
      have := bitLen_pos h0 h
      have := Lib.bitLen_le x 7 (by omega) (by simpa using hs)
      omega
    · rw [uvN_big (by omega), Lib.bitLen_shift 7 x (by simp; omega) (by omega)]
      have ih := bitLen_groups k (x / 128) (by omega) (by rw [Nat.pow_succ] at h1; exact Nat.div_lt_of_lt_mul (by rw [Nat.mul_comm]; exact h1)) (by omega)
      rw [show (2 : Nat) ^ 7 = 128 from rfl, ← ih]
      omega

theorem bitLen_one : Lib.bitLen 1 = 1 := by decide +kernel

/-- uvarintLen's own reckoning is the number of groups. -/
theorem groups (x : Nat) (h : x < 18446744073709551616) : (Lib.bitLen (2 * (x / 2) + 1) + 6) / 7 = uvN x := by
  by_cases h0 : x = 0
  · subst h0
    rw [uvN_small (by omega)]
    show (Lib.bitLen 1 + 6) / 7 = 1
    rw [bitLen_one]
  · rw [bitLen_or_one (by omega) h]
    exact bitLen_groups 9 x (by omega) (Nat.lt_of_lt_of_le h (by decide)) h

theorem nat_or_one (a : Nat) : a ||| 1 = 2 * (a / 2) + 1 := by
  apply Nat.eq_of_testBit_eq
  intro i
  rw [Nat.testBit_or]
  cases i with
  | zero => simp [Nat.testBit_zero]
  | succ i =>
    rw [Nat.testBit_succ, Nat.testBit_succ, Nat.testBit_succ]
    rw [show (2 * (a / 2) + 1) / 2 = a / 2 by omega]
    simp

/-- One byte more: one group more just where the new length is 128 or 16384. -/
theorem grow_step {n : Nat} (h : n ≤ 1048576) :
    (((n : Int) + 1 == 128) = true ∧ uvN (n + 1) = uvN n + 1) ∨ (((n : Int) + 1 == 128) = false ∧ ((n : Int) + 1 == 16384) = true ∧ uvN (n + 1) = uvN n + 1) ∨
    (((n : Int) + 1 == 128) = false ∧ ((n : Int) + 1 == 16384) = false ∧ uvN (n + 1) = uvN n) := by
  rw [uvN_form (x := n) (by omega), uvN_form (x := n + 1) (by omega)]
  by_cases e1 : n + 1 = 128
  · exact .inl ⟨beq_iff_eq.2 (by omega), by split <;> split <;> (try split) <;> omega⟩
  · by_cases e2 : n + 1 = 16384
    · exact .inr (.inl ⟨beq_eq_false_iff_ne.2 (by omega), beq_iff_eq.2 (by omega), by split <;> split <;> (try split) <;> (try split) <;> omega⟩)
    · exact .inr (.inr ⟨beq_eq_false_iff_ne.2 (by omega), beq_eq_false_iff_ne.2 (by omega), by split <;> split <;> (try split) <;> (try split) <;> omega⟩)

theorem uvN_le3 {x : Nat} (h : x < 2097152) : uvN x ≤ 3 := by rw [uvN_form h]; split <;> (try split) <;> omega

end Go.Proofs.Qxb6613518a
