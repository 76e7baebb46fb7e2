import Derived.Laws.BitsAllLaws
import Derived.Laws.Entries
namespace Go.Proofs.Qxb6602746a.bitsn
set_option linter.unusedVariables false

def tb (c x : Int) : Bool := c.toNat.testBit x.toNat

def accW (f : Nat → Bool) : Nat → Nat
  | 0 => 0
  | k + 1 => if f k then accW f k ||| 2 ^ k else accW f k

theorem accW_bit (f : Nat → Bool) : ∀ k j, (accW f k).testBit j = (decide (j < k) && f j)
  | 0, j => by simp [accW]
  | k + 1, j => by
    unfold accW
    by_cases hf : f k = true
    · rw [if_pos hf, Nat.testBit_or, accW_bit f k j, Nat.testBit_two_pow]
      by_cases e : k = j
      · subst e; simp [hf]
      · by_cases h : j < k
        · simp [h, e, show j < k + 1 by omega]
        · simp [h, e, show ¬ j < k + 1 by omega]
    · rw [if_neg hf, accW_bit f k j]
      by_cases e : k = j
      · subst e; simp [hf]
      · by_cases h : j < k
        · simp [h, show j < k + 1 by omega]
        · simp [h, show ¬ j < k + 1 by omega]

theorem accW_lt (f : Nat → Bool) (k : Nat) : accW f k < 2 ^ k := by
  refine Nat.lt_pow_two_of_testBit _ fun j hj => ?_
  rw [accW_bit]
  simp [show ¬ j < k by omega]

theorem pow_lt (k : Nat) (hk : k < 64) : 2 ^ k < 18446744073709551616 := by
  have : (2 : Nat) ^ k < 2 ^ 64 := Nat.pow_lt_pow_right (by omega) hk
  simpa using this

theorem accW_lt64 (f : Nat → Bool) (k : Nat) (hk : k ≤ 64) : accW f k < 18446744073709551616 := by
  have h1 := accW_lt f k
  have h2 : (2 : Nat) ^ k ≤ 2 ^ 64 := Nat.pow_le_pow_right (by omega) hk
  have : (2 : Nat) ^ 64 = 18446744073709551616 := by decide
  omega

theorem wrap_nat (n : Nat) (h : n < 18446744073709551616) : IntKind.u64.wrap (n : Int) = n := by
  rw [IntKind.wrap_u64]
  omega

theorem wrap_pow (k : Nat) (hk : k < 64) : IntKind.u64.wrap ((2 : Int) ^ k) = ((2 ^ k : Nat) : Int) := by
  have e : ((2 : Int) ^ k) = ((2 ^ k : Nat) : Int) := by simp
  rw [e, wrap_nat _ (pow_lt k hk)]

theorem accW_or (f : Nat → Bool) (k : Nat) (hk : k < 64) (h : f k = true) : bits .or .u64 ((accW f k : Nat) : Int) (IntKind.u64.wrap ((2 : Int) ^ k)) = ((accW f (k + 1) : Nat) : Int) := by
  rw [wrap_pow k hk, u64_or_nat _ _ (accW_lt64 f k (by omega)) (pow_lt k hk)]
  simp [accW, h]

theorem accW_not (f : Nat → Bool) (k : Nat) (h : f k = false) : accW f (k + 1) = accW f k := by
  simp [accW, h]

theorem toNat_lt {c : Int} (h0 : 0 ≤ c) (h1 : c ≤ 18446744073709551615) : c.toNat < 18446744073709551616 := by omega

theorem bit_is (c x : Int) (c0 : 0 ≤ c) (c1 : c ≤ 18446744073709551615) : (bits .and .u64 (c / 2 ^ x.toNat) 1 == 1) = tb c x := by
  obtain ⟨n, rfl⟩ := Int.eq_ofNat_of_zero_le c0
  have hn : n < 18446744073709551616 := by omega
  have e : (n : Int) / 2 ^ x.toNat = ((n / 2 ^ x.toNat : Nat) : Int) := by simp
  have hq : n / 2 ^ x.toNat < 18446744073709551616 := Nat.lt_of_le_of_lt (Nat.div_le_self _ _) hn
  rw [e, show (1 : Int) = ((1 : Nat) : Int) from rfl, u64_and_nat _ _ hq (by omega)]
  unfold tb
  rw [Int.toNat_natCast, Nat.testBit, Nat.shiftRight_eq_div_pow, Nat.and_comm 1]
  have h2 : (n / 2 ^ x.toNat) &&& 1 = (n / 2 ^ x.toNat) % 2 := Nat.and_two_pow_sub_one_eq_mod _ 1
  rw [h2]
  rcases Nat.mod_two_eq_zero_or_one (n / 2 ^ x.toNat) with h | h <;> simp [h]

theorem and_bit (c x : Int) (c0 : 0 ≤ c) (c1 : c ≤ 18446744073709551615) (x0 : 0 ≤ x) (x1 : x < 64) : (bits .and .u64 c (IntKind.u64.wrap ((2 : Int) ^ x.toNat)) != 0) = tb c x := by
  obtain ⟨n, rfl⟩ := Int.eq_ofNat_of_zero_le c0
  have hn : n < 18446744073709551616 := by omega
  rw [wrap_pow _ (by omega), u64_and_nat _ _ hn (pow_lt _ (by omega)), nat_bit]
  unfold tb
  rw [Int.toNat_natCast, Nat.testBit, Nat.shiftRight_eq_div_pow, Nat.and_comm 1]
  have h2 : (n / 2 ^ x.toNat) &&& 1 = (n / 2 ^ x.toNat) % 2 := Nat.and_two_pow_sub_one_eq_mod _ 1
  rw [h2]
  rcases Nat.mod_two_eq_zero_or_one (n / 2 ^ x.toNat) with h | h
  · simp [h]
  · simp [h]
    first
      | exact Int.ne_of_gt (Int.pow_pos (by omega))
      | exact Nat.pos_iff_ne_zero.1 (Nat.two_pow_pos _)

theorem or_is (c x : Int) (c0 : 0 ≤ c) (c1 : c ≤ 18446744073709551615) (x0 : 0 ≤ x) (x1 : x < 64) :
    bits .or .u64 c (IntKind.u64.wrap ((2 : Int) ^ x.toNat)) = ((c.toNat ||| 2 ^ x.toNat : Nat) : Int) := by
  obtain ⟨n, rfl⟩ := Int.eq_ofNat_of_zero_le c0
  have hn : n < 18446744073709551616 := by omega
  rw [wrap_pow _ (by omega), u64_or_nat _ _ hn (pow_lt _ (by omega))]
  rfl

def upN (c : Nat) (d : Nat) : Nat := (c * 2 ^ d) % 18446744073709551616 ||| 1

theorem up_is (c x : Int) (c0 : 0 ≤ c) : bits .or .u64 (IntKind.u64.wrap (c * 2 ^ x.toNat)) 1 = ((upN c.toNat x.toNat : Nat) : Int) := by
  obtain ⟨n, rfl⟩ := Int.eq_ofNat_of_zero_le c0
  have e : (n : Int) * 2 ^ x.toNat = ((n * 2 ^ x.toNat : Nat) : Int) := by simp
  rw [e, IntKind.wrap_u64]
  have e2 : ((n * 2 ^ x.toNat : Nat) : Int) % 18446744073709551616 = ((n * 2 ^ x.toNat % 18446744073709551616 : Nat) : Int) := by omega
  rw [e2, show (1 : Int) = ((1 : Nat) : Int) from rfl, u64_or_nat _ _ (Nat.mod_lt _ (by omega)) (by omega)]
  rfl

theorem upN_bit (c d j : Nat) (hd : 0 < d) (hj : j < 64) : (upN c d).testBit j = (decide (j = 0) || (decide (d ≤ j) && c.testBit (j - d))) := by
  unfold upN
  have e : (18446744073709551616 : Nat) = 2 ^ 64 := by decide
  rw [Nat.testBit_or, e, Nat.testBit_mod_two_pow, Nat.testBit_mul_two_pow]
  by_cases h0 : j = 0
  · subst h0; simp
  · have : Nat.testBit 1 j = false := by
      cases h : Nat.testBit 1 j with
      | false => rfl
      | true => exact absurd (Nat.testBit_one_eq_true_iff_self_eq_zero.1 h) h0
    simp [h0, hj, this]

theorem upN_lt (c d : Nat) : upN c d < 18446744073709551616 := by
  have h1 : c * 2 ^ d % 18446744073709551616 < 2 ^ 64 := by
    have := Nat.mod_lt (c * 2 ^ d) (show 0 < 18446744073709551616 by omega)
    have e : (18446744073709551616 : Nat) = 2 ^ 64 := by decide
    omega
  have := Nat.or_lt_two_pow h1 (show 1 < 2 ^ 64 by decide)
  have e : (18446744073709551616 : Nat) = 2 ^ 64 := by decide
  unfold upN
  omega
end Go.Proofs.Qxb6602746a.bitsn
