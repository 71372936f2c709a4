/-
  The plain arithmetic of fields, masks, shifts: no Go in sight but the spelling of its bit operations.
-/
import Derived.Test.Qxb6627459aFields
namespace Go.Proofs.Qxb6627459a
open Go.RowKit

theorem wrap64_eq (n : Int) : wrap64 n = (n + 9223372036854775808) % 18446744073709551616 - 9223372036854775808 := by
  unfold wrap64; omega
theorem i64_wrap (n : Int) : IntKind.i64.wrap n = wrap64 n := by rw [IntKind.wrap_i64, wrap64_eq]
theorem ofInt_nat (x : Int) : ((BitVec.ofInt 64 x).toNat : Int) = x % 18446744073709551616 := by
  rw [BitVec.toNat_ofInt]
  omega

/-- v mod (a * c), taken apart. -/
theorem emod_mul (v : Int) {a c : Int} (ha : 0 < a) (hc : 0 < c) : v % (a * c) = v % a + a * (v / a % c) := by
  have h1 := Int.mul_ediv_add_emod v a
  have h2 := Int.mul_ediv_add_emod (v / a) c
  have e1 := Int.emod_nonneg v (show a ≠ 0 by omega)
  have e2 := Int.emod_lt_of_pos v ha
  have e3 := Int.emod_nonneg (v / a) (show c ≠ 0 by omega)
  have e4 := Int.emod_lt_of_pos (v / a) hc
  have e5 : v = (v % a + a * (v / a % c)) + (a * c) * (v / a / c) := by
    calc v = a * (v / a) + v % a := h1.symm
      _ = a * (c * (v / a / c) + v / a % c) + v % a := by rw [h2]
      _ = _ := by rw [Int.mul_add, ← Int.mul_assoc]; omega
  have e6 : a * (v / a % c) ≤ a * (c - 1) := Int.mul_le_mul_of_nonneg_left (by omega) (by omega)
  have e7 : 0 ≤ a * (v / a % c) := Int.mul_nonneg (by omega) e3
  have e8 : a * (c - 1) = a * c - a := by rw [Int.mul_sub, Int.mul_one]
  generalize hR : v % a + a * (v / a % c) = R at *
  rw [e5, Int.add_mul_emod_self_left]
  exact Int.emod_eq_of_lt (by omega) (by omega)

theorem pow_add' (a b : Nat) : (2 : Int) ^ (a + b) = 2 ^ a * 2 ^ b := Int.pow_add 2 a b
theorem pow_le64 {b : Nat} (h : b ≤ 64) : (2 : Int) ^ b ≤ 18446744073709551616 := by rw [← p64]; exact pow_le' h
theorem pow_dvd {a b : Nat} (h : a ≤ b) : (2 : Int) ^ a ∣ 2 ^ b := ⟨2 ^ (b - a), by rw [← pow_add']; congr 1; omega⟩
theorem emod_pow {a b : Nat} (x : Int) (h : a ≤ b) : x % 2 ^ b % 2 ^ a = x % 2 ^ a := Int.emod_emod_of_dvd x (pow_dvd h)
theorem emod64 {a : Nat} (x : Int) (h : a ≤ 64) : x % 18446744073709551616 % 2 ^ a = x % 2 ^ a := by rw [← p64]; exact emod_pow x h

/-- The mask: as a natural number. -/
theorem mask_nat (b : Nat) : ((2 ^ b - 1 : Nat) : Int) = 2 ^ b - 1 := by
  have : 1 ≤ 2 ^ b := Nat.two_pow_pos b
  rw [Int.natCast_sub this]
  simp
theorem mask_mod {b : Nat} (h : b ≤ 64) {y : Int} (hy : y % 18446744073709551616 = (2 ^ b - 1) % 18446744073709551616) : (BitVec.ofInt 64 y).toNat = 2 ^ b - 1 := by
  have h1 := ofInt_nat y
  have h2 := pow_le64 h
  have h3 := pow_pos' b
  rw [hy, Int.emod_eq_of_lt (by omega) (by omega), ← mask_nat] at h1
  exact_mod_cast h1

theorem and_mask {b : Nat} (h : b ≤ 64) (x : Int) {y : Int} (hy : y % 18446744073709551616 = (2 ^ b - 1) % 18446744073709551616) : (((BitVec.ofInt 64 x) &&& (BitVec.ofInt 64 y)).toNat : Int) = x % 2 ^ b := by
  rw [BitVec.toNat_and, mask_mod h hy, Nat.and_two_pow_sub_one_eq_mod]
  have := ofInt_nat x
  rw [← emod64 x h, ← this]
  simp

theorem fld_eq (x : Int) {sh b : Nat} (h : b ≤ 64) : fld x sh b = wrap64 (x / 2 ^ sh % 2 ^ b) := by
  unfold fld
  show IntKind.i64.wrap (((BitVec.ofInt 64 (x / 2 ^ sh)) &&& (BitVec.ofInt 64 (wrap64 (wrap64 (2 ^ b) - 1)))).toNat : Int) = _
  rw [and_mask h, i64_wrap]
  rw [wrap64_eq, wrap64_eq]
  generalize (2 : Int) ^ b = P
  omega
theorem F_bd (x : Int) (sh b : Nat) : 0 ≤ x / 2 ^ sh % 2 ^ b ∧ x / 2 ^ sh % 2 ^ b < 2 ^ b := by
  have h := pow_pos' b
  exact ⟨Int.emod_nonneg _ (by omega), Int.emod_lt_of_pos _ h⟩
theorem u64_fld (x : Int) {sh b : Nat} (h : b ≤ 64) : IntKind.u64.wrap (fld x sh b) = x / 2 ^ sh % 2 ^ b := by
  have h1 := F_bd x sh b
  have h2 := pow_le64 h
  rw [fld_eq x h, IntKind.wrap_u64, wrap64_eq]
  generalize x / 2 ^ sh % 2 ^ b = F at *
  omega
theorem fld_small (x : Int) {sh b : Nat} (h : b < 64) : fld x sh b = x / 2 ^ sh % 2 ^ b := by
  have h1 := F_bd x sh b
  have h2 := pow_le' (show b ≤ 63 by omega)
  rw [p63] at h2
  rw [fld_eq x (by omega), wrap64_eq]
  generalize x / 2 ^ sh % 2 ^ b = F at *
  omega
theorem fld_bd (x : Int) {sh b : Nat} (h : b < 64) : 0 ≤ fld x sh b ∧ fld x sh b ≤ maskU b := by
  have h1 := F_bd x sh b
  rw [fld_small x h]
  unfold maskU
  omega
theorem u64_fld_le (x : Int) {sh b : Nat} (h : b ≤ 64) : IntKind.u64.wrap (fld x sh b) ≤ maskU b := by
  have h1 := F_bd x sh b
  rw [u64_fld x h]
  unfold maskU
  omega
theorem mask_i64 {b : Nat} (h : b < 64) : wrap64 (maskU b) = maskU b := by
  have h1 := pow_pos' b
  have h2 := pow_le' (show b ≤ 63 by omega)
  rw [p63] at h2
  unfold maskU
  rw [wrap64_eq]
  generalize (2 : Int) ^ b = P at *
  omega

/-- One step of reading the fields back. -/
def back (x : Int) (S s : Nat) : Int := x / 2 ^ (S - s) % 2 ^ s
theorem back_step (x : Int) {S s b : Nat} (h : s + b ≤ S) (h64 : S ≤ 64) : bits .or .u64 (IntKind.u64.wrap (back x S s * 2 ^ b)) (IntKind.u64.wrap (fld x (S - (s + b)) b)) = back x S (s + b) := by
  rw [u64_fld x (by omega)]
  have hv : x / 2 ^ (S - s) = x / 2 ^ (S - (s + b)) / 2 ^ b := by
    rw [Int.ediv_ediv_of_nonneg (Int.le_of_lt (pow_pos' _)), ← pow_add']
    congr 2
    omega
  unfold back
  rw [hv]
  generalize x / 2 ^ (S - (s + b)) = v
  have hb := pow_pos' b
  have hs := pow_pos' s
  have hm := emod_mul v hb hs
  rw [← pow_add', Nat.add_comm b s] at hm
  have q0 := Int.emod_nonneg (v / 2 ^ b) (show (2 : Int) ^ s ≠ 0 by omega)
  have q1 := Int.emod_lt_of_pos (v / 2 ^ b) hs
  have f0 := Int.emod_nonneg v (show (2 : Int) ^ b ≠ 0 by omega)
  have f1 := Int.emod_lt_of_pos v hb
  have t0 := Int.emod_nonneg v (show (2 : Int) ^ (s + b) ≠ 0 by have := pow_pos' (s + b); omega)
  have t1 := Int.emod_lt_of_pos v (pow_pos' (s + b))
  have l64 := pow_le64 (show s + b ≤ 64 by omega)
  have lb := pow_le64 (show b ≤ 64 by omega)
  have e0 : 0 ≤ v / 2 ^ b % 2 ^ s * 2 ^ b := Int.mul_nonneg q0 (by omega)
  have ec : 2 ^ b * (v / 2 ^ b % 2 ^ s) = v / 2 ^ b % 2 ^ s * 2 ^ b := Int.mul_comm _ _
  rw [ec] at hm
  have ew : IntKind.u64.wrap (v / 2 ^ b % 2 ^ s * 2 ^ b) = v / 2 ^ b % 2 ^ s * 2 ^ b := by
    rw [IntKind.wrap_u64]
    exact Int.emod_eq_of_lt e0 (by omega)
  rw [ew, bits_join .u64 64 (by decide) (fun n h0 h1 => by rw [IntKind.wrap_u64]; exact Int.emod_eq_of_lt h0 (by rw [← p64]; exact h1)) b _ _ e0 (by simp) (by rw [p64]; omega) f0 f1 (by rw [p64]; omega)]
  omega
theorem back_zero (x : Int) (S : Nat) : back x S 0 = 0 := by simp [back, Int.emod_one]
theorem back_last (x : Int) {S : Nat} (h : S ≤ 64) : bits .and .u64 (IntKind.u64.wrap x) (maskU S) = back x S S := by
  show IntKind.u64.wrap (((BitVec.ofInt 64 (IntKind.u64.wrap x)) &&& (BitVec.ofInt 64 (maskU S))).toNat : Int) = _
  rw [and_mask h _ (by rfl), IntKind.wrap_u64, IntKind.wrap_u64, emod64 x h]
  unfold back
  have h1 := pow_pos' S
  have h2 := Int.emod_nonneg x (show (2 : Int) ^ S ≠ 0 by omega)
  have h3 := Int.emod_lt_of_pos x h1
  have h4 := pow_le64 h
  rw [Int.emod_eq_of_lt h2 (by omega), Nat.sub_self]
  simp

theorem fld_shift (x : Int) (s t b : Nat) : fld (x / 2 ^ s) t b = fld x (s + t) b := by
  unfold fld
  rw [Int.ediv_ediv_of_nonneg (Int.le_of_lt (pow_pos' _)), ← pow_add']

theorem xor_mask {n A : Nat} (h : A < 2 ^ n) : A ^^^ (2 ^ n - (A + 1)) = 2 ^ n - 1 := by
  apply Nat.eq_of_testBit_eq
  intro i
  rw [Nat.testBit_xor, Nat.testBit_two_pow_sub_succ h, Nat.testBit_two_pow_sub_one]
  by_cases hi : i < n
  · simp [hi]
  · have : A.testBit i = false := Nat.testBit_lt_two_pow (Nat.lt_of_lt_of_le h (Nat.pow_le_pow_right (by decide) (by omega)))
    simp [hi, this]

theorem compl_div (x : Int) (sh : Nat) : (-x - 1) / 2 ^ sh = -(x / 2 ^ sh) - 1 := by
  have hp := pow_pos' sh
  have h1 := Int.mul_ediv_add_emod x (2 ^ sh)
  have h2 := Int.emod_nonneg x (show (2 : Int) ^ sh ≠ 0 by omega)
  have h3 := Int.emod_lt_of_pos x hp
  have e : -x - 1 = (2 ^ sh - 1 - x % 2 ^ sh) + 2 ^ sh * (-(x / 2 ^ sh) - 1) := by
    rw [Int.mul_sub, Int.mul_neg, Int.mul_one]; omega
  rw [e, Int.add_mul_ediv_left _ _ (by omega), Int.ediv_eq_zero_of_lt (by omega) (by omega)]
  omega
theorem compl_mod (v : Int) (b : Nat) : (-v - 1) % 2 ^ b = 2 ^ b - 1 - v % 2 ^ b := by
  have hp := pow_pos' b
  have h1 := Int.mul_ediv_add_emod v (2 ^ b)
  have h2 := Int.emod_nonneg v (show (2 : Int) ^ b ≠ 0 by omega)
  have h3 := Int.emod_lt_of_pos v hp
  have e : -v - 1 = (2 ^ b - 1 - v % 2 ^ b) + 2 ^ b * (-(v / 2 ^ b) - 1) := by
    rw [Int.mul_sub, Int.mul_neg, Int.mul_one]; omega
  rw [e, Int.add_mul_emod_self_left, Int.emod_eq_of_lt (by omega) (by omega)]

theorem fld_xor (x : Int) {sh b : Nat} (h : b ≤ 64) : bits .xor .i64 (fld x sh b) (fld (-x - 1) sh b) = wrap64 (maskU b) := by
  have hA := F_bd x sh b
  have hl := pow_le64 h
  rw [fld_eq x h, fld_eq (-x - 1) h, compl_div, compl_mod]
  generalize x / 2 ^ sh % 2 ^ b = A at *
  obtain ⟨a, rfl⟩ := Int.eq_ofNat_of_zero_le hA.1
  have ha : a < 2 ^ b := by exact_mod_cast hA.2
  have n1 : (BitVec.ofInt 64 (wrap64 (a : Int))).toNat = a := by
    have := ofInt_nat (wrap64 (a : Int))
    rw [wrap64_eq] at this
    rw [wrap64_eq]
    generalize (2 : Int) ^ b = P at *
    omega
  have hcast : (2 : Int) ^ b - 1 - (a : Int) = ((2 ^ b - (a + 1) : Nat) : Int) := by
    rw [Int.natCast_sub (by omega)]
    simp
    omega
  have n2 : (BitVec.ofInt 64 (wrap64 ((2 : Int) ^ b - 1 - (a : Int)))).toNat = 2 ^ b - (a + 1) := by
    have := ofInt_nat (wrap64 ((2 : Int) ^ b - 1 - (a : Int)))
    rw [wrap64_eq] at this
    have e2 : ((BitVec.ofInt 64 (wrap64 ((2 : Int) ^ b - 1 - (a : Int)))).toNat : Int) = (2 : Int) ^ b - 1 - (a : Int) := by
      rw [wrap64_eq]
      generalize (2 : Int) ^ b = P at *
      omega
    rw [hcast] at e2
    rw [hcast]
    exact_mod_cast e2
  show IntKind.i64.wrap (((BitVec.ofInt 64 (wrap64 (a : Int))) ^^^ (BitVec.ofInt 64 (wrap64 ((2 : Int) ^ b - 1 - (a : Int))))).toNat : Int) = _
  rw [BitVec.toNat_xor, n1, n2, xor_mask ha, i64_wrap, mask_nat]
  rfl

theorem mod_div (z : Int) (sh b : Nat) : z / 2 ^ sh % 2 ^ b = z % 2 ^ (sh + b) / 2 ^ sh := by
  have hp := pow_pos' sh
  have h2 := Int.emod_nonneg z (show (2 : Int) ^ sh ≠ 0 by omega)
  have h3 := Int.emod_lt_of_pos z hp
  rw [pow_add', emod_mul z hp (pow_pos' b), Int.add_mul_ediv_left _ _ (by omega), Int.ediv_eq_zero_of_lt h2 h3]
  omega
theorem fld_low (x : Int) {S sh b : Nat} (h : sh + b ≤ S) (h64 : S ≤ 64) : fld (bits .and .i64 x (wrap64 (maskU S))) sh b = fld x sh b := by
  have hy : (bits .and .i64 x (wrap64 (maskU S))) % 2 ^ S = x % 2 ^ S := by
    show IntKind.i64.wrap (((BitVec.ofInt 64 x) &&& (BitVec.ofInt 64 (wrap64 (maskU S)))).toNat : Int) % _ = _
    rw [and_mask h64 _ (by rw [wrap64_eq]; unfold maskU; omega), i64_wrap]
    rw [← emod64 (wrap64 (x % 2 ^ S)) h64]
    have : wrap64 (x % 2 ^ S) % 18446744073709551616 = (x % 2 ^ S) % 18446744073709551616 := by rw [wrap64_eq]; omega
    rw [this, emod64 _ h64, Int.emod_emod]
  rw [fld_eq _ (by omega), fld_eq _ (by omega), mod_div, mod_div, ← emod_pow _ h, hy, emod_pow _ h]
theorem xor_full {n A : Nat} (h : A < 2 ^ n) : (2 ^ n - 1) ^^^ A = 2 ^ n - (A + 1) := by
  apply Nat.eq_of_testBit_eq
  intro i
  rw [Nat.testBit_xor, Nat.testBit_two_pow_sub_succ h, Nat.testBit_two_pow_sub_one]
  by_cases hi : i < n
  · simp [hi]
  · have : A.testBit i = false := Nat.testBit_lt_two_pow (Nat.lt_of_lt_of_le h (Nat.pow_le_pow_right (by decide) (by omega)))
    simp [hi, this]
theorem compl_i64 (x : Int) (h : -9223372036854775808 ≤ x ∧ x ≤ 9223372036854775807) : bits .xor .i64 (-1) x = -x - 1 := by
  have h1 := ofInt_nat x
  have hlt := (BitVec.ofInt 64 x).isLt
  show IntKind.i64.wrap (((BitVec.ofInt 64 (-1)) ^^^ (BitVec.ofInt 64 x)).toNat : Int) = _
  have hm : (BitVec.ofInt 64 (-1)).toNat = 2 ^ 64 - 1 := mask_mod (by omega) (by decide)
  rw [BitVec.toNat_xor, hm, xor_full hlt, i64_wrap, wrap64_eq]
  omega
end Go.Proofs.Qxb6627459a
