import Derived.Laws.FloatArith
namespace Go.Proofs.Qxb6003347a.flt
open Ieee
set_option linter.unusedVariables false

theorem cut_le (way : Toward) (neg : Bool) (n drop : Nat) : way.cut neg n drop ≤ n / 2 ^ min drop (n.log2 + 2) + 1 := by
  unfold Toward.cut
  rw [Nat.one_shiftLeft]
  simp only
  have : ∀ b : Bool, b.toNat ≤ 1 := by intro b; cases b <;> simp
  exact Nat.add_le_add_left (this _) _

theorem cut_zero (neg : Bool) (n drop : Nat) : Toward.zero.cut neg n drop = n / 2 ^ min drop (n.log2 + 2) := by
  unfold Toward.cut
  rw [Nat.one_shiftLeft]
  simp

theorem cut_even_none (neg : Bool) (n : Nat) : Toward.even.cut neg n 0 = n := by
  unfold Toward.cut
  simp
  omega

theorem dfrac : double.fractionBits = 52 := rfl
theorem dleast : double.leastPlace = -1074 := by decide
theorem dbin : double.binade = 2 ^ 52 := rfl
theorem dinf : double.infRung = 2047 * 2 ^ 52 := rfl
theorem dsign : double.signWeight = 2 ^ 63 := rfl

theorem nearest_rung (n : Nat) (hn : n < 2 ^ 64) : double.nearest false n 0 ≤ 1087 * 2 ^ 52 := by
  unfold Format.nearest
  by_cases h0 : n = 0
  · rw [if_pos h0]; simp [Format.word]
  · rw [if_neg h0]
    have hlog : n.log2 < 64 := (Nat.log2_lt h0).2 hn
    have hlt : n < 2 ^ (n.log2 + 1) := Nat.lt_log2_self
    simp only [Format.word, dfrac, dleast, dbin, dinf, Bool.false_eq_true, if_false]
    refine Nat.le_trans (Nat.min_le_left _ _) ?_
    have hlast : max ((0 : Int) + (n.log2 : Int) - ((52 : Nat) : Int)) (-1074) = (n.log2 : Int) - 52 := by omega
    rw [hlast]
    by_cases hs : n.log2 ≤ 52
    · rw [show ((0 : Int) - ((n.log2 : Int) - 52)).toNat = 52 - n.log2 by omega, show ((n.log2 : Int) - 52 - 0).toNat = 0 by omega, cut_even_none, Nat.shiftLeft_eq]
      have h1 : n * 2 ^ (52 - n.log2) < 2 ^ 53 := by
        have : 2 ^ (n.log2 + 1) * 2 ^ (52 - n.log2) = 2 ^ 53 := by rw [← Nat.pow_add]; congr 1; omega
        rw [← this]
        exact Nat.mul_lt_mul_of_pos_right hlt (Nat.two_pow_pos _)
      have h2 : ((n.log2 : Int) - 52 - -1074).toNat ≤ 1074 := by omega
      have h3 := Nat.mul_le_mul_right (2 ^ 52) h2
      exact Nat.le_trans (Nat.add_le_add h3 (Nat.le_of_lt h1)) (by decide)
    · have hc := cut_le .even false (n <<< ((0 : Int) - ((n.log2 : Int) - 52)).toNat) ((n.log2 : Int) - 52 - 0).toNat
      rw [show ((0 : Int) - ((n.log2 : Int) - 52)).toNat = 0 by omega, Nat.shiftLeft_zero, show ((n.log2 : Int) - 52 - 0).toNat = n.log2 - 52 by omega] at hc ⊢
      rw [Nat.min_eq_left (show n.log2 - 52 ≤ n.log2 + 2 by omega)] at hc
      have h1 : n / 2 ^ (n.log2 - 52) < 2 ^ 53 := by
        rw [Nat.div_lt_iff_lt_mul (Nat.two_pow_pos _), ← Nat.pow_add, show 53 + (n.log2 - 52) = n.log2 + 1 by omega]
        exact hlt
      have h2 : ((n.log2 : Int) - 52 - -1074).toNat ≤ 1085 := by omega
      have h3 := Nat.mul_le_mul_right (2 ^ 52) h2
      exact Nat.le_trans (Nat.add_le_add h3 (Nat.le_trans hc (Nat.succ_le_of_lt h1))) (by decide)

def X : Nat := 1138
theorem X_eq : X = 1138 := rfl

theorem big : (1087 : Nat) * 2 ^ 52 < 2 ^ 63 := by decide

theorem read_small (r : Nat) (hr : r ≤ 1087 * 2 ^ 52) : ∃ m p, double.read r = .number false m p ∧ -1074 ≤ p ∧ m * 2 ^ (p + 1074).toNat ≤ 2 ^ X := by
  have hX := X_eq
  have hlt : r < double.signWeight := Nat.lt_of_le_of_lt hr big
  have hneg : (r / double.signWeight % 2 == 1) = false := by
    rw [Nat.div_eq_of_lt hlt]; rfl
  have hmod : r % double.signWeight = r := Nat.mod_eq_of_lt hlt
  unfold Format.read
  simp only [hneg, hmod]
  by_cases h1 : r < double.binade
  · rw [if_pos h1]
    refine ⟨r, double.leastPlace, rfl, by rw [dleast]; omega, ?_⟩
    rw [dleast, show ((-1074 : Int) + 1074).toNat = 0 by omega, Nat.pow_zero, Nat.mul_one]
    have : (2 : Nat) ^ 52 ≤ 2 ^ X := Nat.pow_le_pow_right (by omega) (by omega)
    exact Nat.le_trans (Nat.le_of_lt h1) this
  · have h3 : r < double.infRung := Nat.lt_of_le_of_lt hr (by decide)
    rw [if_neg h1, if_pos h3]
    refine ⟨double.binade + r % double.binade, double.leastPlace + ((r / double.binade - 1 : Nat) : Int), rfl, by rw [dleast]; omega, ?_⟩
    rw [dleast, show (-1074 + ((r / double.binade - 1 : Nat) : Int) + 1074).toNat = r / double.binade - 1 by omega]
    have hm : r % double.binade < double.binade := Nat.mod_lt _ (Nat.two_pow_pos _)
    have hq : r / double.binade ≤ 1087 := by
      have := Nat.div_le_div_right (c := 2 ^ 52) hr
      rw [Nat.mul_div_cancel _ (Nat.two_pow_pos _)] at this
      exact this
    by_cases h2 : r / double.binade ≤ 1086
    · have a1 : double.binade + r % double.binade ≤ 2 ^ 53 := by
        have : double.binade + double.binade = 2 ^ 53 := by decide
        omega
      have a2 : (2 : Nat) ^ (r / double.binade - 1) ≤ 2 ^ (X - 53) := Nat.pow_le_pow_right (by omega) (by omega)
      have a3 := Nat.mul_le_mul a1 a2
      rw [← Nat.pow_add] at a3
      exact Nat.le_trans a3 (Nat.pow_le_pow_right (by omega) (by omega))
    · have e1 : r / double.binade = 1087 := by omega
      have e2 : r % double.binade = 0 := by
        have hd := Nat.div_add_mod r double.binade
        rw [e1] at hd
        have hr' : r ≤ double.binade * 1087 := by rw [Nat.mul_comm]; exact hr
        omega
      have hXX : 52 + (r / double.binade - 1) ≤ X := by omega
      rw [e2, Nat.add_zero]
      generalize r / double.binade - 1 = k at hXX ⊢
      rw [dbin, ← Nat.pow_add]
      exact Nat.pow_le_pow_right (by decide) hXX

theorem cmp_gt {a b : Int} : compare a b = .gt ↔ b < a := by
  show compareOfLessAndEq a b = _ ↔ _
  unfold compareOfLessAndEq
  split
  · simp; omega
  · split
    · simp; omega
    · simp; omega
theorem cmp_eq {a b : Int} : compare a b = .eq ↔ a = b := by
  show compareOfLessAndEq a b = _ ↔ _
  unfold compareOfLessAndEq
  split
  · simp; omega
  · split
    · simpa
    · simpa

theorem signed_false (m u : Nat) : signed false m u = ((m * 2 ^ u : Nat) : Int) := by
  unfold signed; rw [Nat.shiftLeft_eq]; simp
theorem signed_true (m u : Nat) : signed true m u = -((m * 2 ^ u : Nat) : Int) := by
  unfold signed; rw [Nat.shiftLeft_eq]; simp

theorem scale {m n : Nat} {i j : Int} (hi : -1074 ≤ i) (hj : -1074 ≤ j) (h : m * 2 ^ (i - min i j).toNat < n * 2 ^ (j - min i j).toNat) :
    m * 2 ^ (i + 1074).toNat < n * 2 ^ (j + 1074).toNat := by
  have e1 : (i + 1074).toNat = (i - min i j).toNat + (min i j + 1074).toNat := by omega
  have e2 : (j + 1074).toNat = (j - min i j).toNat + (min i j + 1074).toNat := by omega
  rw [e1, e2, Nat.pow_add, Nat.pow_add, ← Nat.mul_assoc, ← Nat.mul_assoc]
  exact Nat.mul_lt_mul_of_pos_right h (Nat.two_pow_pos _)

theorem read_place {x : Nat} {s : Bool} {m : Nat} {i : Int} (h : double.read x = .number s m i) : -1074 ≤ i := by
  unfold Format.read at h
  simp only at h
  split at h
  · cases h; rw [dleast]; omega
  · split at h
    · cases h; rw [dleast]; omega
    · split at h <;> cases h

theorem gt_number {x : Nat} {n : Nat} {j : Int} {y : Nat} (hy : double.read y = .number false n j) (hj : -1074 ≤ j)
    (h : double.order x y = some .gt) : (double.read x = .infinity false) ∨ ∃ m i, double.read x = .number false m i ∧ -1074 ≤ i ∧ n * 2 ^ (j + 1074).toNat < m * 2 ^ (i + 1074).toNat := by
  unfold Format.order at h
  rw [hy] at h
  cases hx : double.read x with
  | nan s f => rw [hx] at h; simp [Datum.order] at h
  | infinity s =>
    rw [hx] at h
    cases s with
    | false => exact Or.inl rfl
    | true => simp [Datum.order] at h
  | number s m i =>
    right
    have hi := read_place hx
    rw [hx] at h
    simp only [Datum.order, Option.some.injEq] at h
    rw [cmp_gt] at h
    cases s with
    | true =>
      rw [signed_true, signed_false] at h
      omega
    | false =>
      rw [signed_false, signed_false] at h
      refine ⟨m, i, rfl, hi, ?_⟩
      have h' : n * 2 ^ (j - min j i).toNat < m * 2 ^ (i - min j i).toNat := by
        rw [Int.min_comm j i]; omega
      exact scale hj hi h'

theorem not_ge_number {x : Nat} {n : Nat} {j : Int} {y : Nat} {m : Nat} {i : Int} (hy : double.read y = .number false n j) (hj : -1074 ≤ j) (hx : double.read x = .number false m i) (hi : -1074 ≤ i)
    (h1 : ¬ double.order x y = some .gt) (h2 : ¬ double.order x y = some .eq) : m * 2 ^ (i + 1074).toNat < n * 2 ^ (j + 1074).toNat := by
  unfold Format.order at h1 h2
  rw [hx, hy] at h1 h2
  simp only [Datum.order, Option.some.injEq, signed_false] at h1 h2
  refine scale hi hj ?_
  rcases Int.lt_trichotomy ((m * 2 ^ (i - min i j).toNat : Nat) : Int) ((n * 2 ^ (j - min i j).toNat : Nat) : Int) with h | h | h
  · omega
  · exact absurd (cmp_eq.2 h) h2
  · exact absurd (cmp_gt.2 h) h1

def Z : Nat := 1074
theorem Z_eq : Z = 1074 := rfl

theorem low_read : double.read (FloatKind.f64.nearest 1048576) = .number false 4503599627370496 (-32) := by decide +kernel

theorem low_scaled : 4503599627370496 * 2 ^ ((-32 : Int) + 1074).toNat = 2 ^ 20 * 2 ^ Z := by
  have e : ((-32 : Int) + 1074).toNat = Z - 32 := by rw [Z_eq]; omega
  rw [e, show (4503599627370496 : Nat) = 2 ^ 52 by decide, ← Nat.pow_add, ← Nat.pow_add]
  congr 1

theorem top_scaled : 2 ^ X = 2 ^ 64 * 2 ^ Z := by
  rw [← Nat.pow_add]
  exact congrArg (fun k : Nat => 2 ^ k) (show X = 64 + Z from rfl)

theorem whole_up {m : Nat} {i : Int} (hi : 0 ≤ i) (lo : 2 ^ 20 * 2 ^ Z < m * 2 ^ (i + 1074).toNat) (hi2 : m * 2 ^ (i + 1074).toNat < 2 ^ 64 * 2 ^ Z) :
    2 ^ 20 < m * 2 ^ i.toNat ∧ m * 2 ^ i.toNat < 2 ^ 64 := by
  have e : (i + 1074).toNat = i.toNat + Z := by rw [Z_eq]; omega
  rw [e, Nat.pow_add, ← Nat.mul_assoc] at lo hi2
  exact ⟨Nat.lt_of_mul_lt_mul_right lo, Nat.lt_of_mul_lt_mul_right hi2⟩

theorem whole_down {m : Nat} {i : Int} (hi : i < 0) (hp : -1074 ≤ i) (lo : 2 ^ 20 * 2 ^ Z < m * 2 ^ (i + 1074).toNat) (hi2 : m * 2 ^ (i + 1074).toNat < 2 ^ 64 * 2 ^ Z) :
    2 ^ 20 * 2 ^ (-i).toNat < m ∧ m < 2 ^ 64 * 2 ^ (-i).toNat := by
  have e : Z = (-i).toNat + (i + 1074).toNat := by rw [Z_eq]; omega
  rw [e, Nat.pow_add, ← Nat.mul_assoc] at lo hi2
  exact ⟨Nat.lt_of_mul_lt_mul_right lo, Nat.lt_of_mul_lt_mul_right hi2⟩

theorem toInt_bd {m : Nat} {i : Int} (hp : -1074 ≤ i) (lo : 2 ^ 20 * 2 ^ Z < m * 2 ^ (i + 1074).toNat) (hi2 : m * 2 ^ (i + 1074).toNat < 2 ^ 64 * 2 ^ Z) :
    ∃ N : Nat, (Datum.number false m i).toInt .zero = some (N : Int) ∧ 1048576 ≤ N ∧ N < 18446744073709551616 := by
  unfold Datum.toInt Datum.integral
  simp only [signed_false, Nat.pow_zero, Nat.mul_one, cut_zero]
  refine ⟨_, rfl, ?_⟩
  by_cases h : 0 ≤ i
  · obtain ⟨a, b⟩ := whole_up h lo hi2
    rw [show (-i).toNat = 0 by omega, Nat.zero_min, Nat.pow_zero, Nat.div_one, Nat.shiftLeft_eq]
    omega
  · obtain ⟨a, b⟩ := whole_down (by omega) hp lo hi2
    rw [show i.toNat = 0 by omega, Nat.shiftLeft_zero]
    have hm : m ≠ 0 := by omega
    have hl : (-i).toNat ≤ m.log2 := by
      rw [Nat.le_log2 hm]
      have : 1 * 2 ^ (-i).toNat ≤ 2 ^ 20 * 2 ^ (-i).toNat := Nat.mul_le_mul_right _ (by decide)
      omega
    rw [Nat.min_eq_left (by omega)]
    constructor
    · rw [Nat.le_div_iff_mul_le (Nat.two_pow_pos _)]
      exact Nat.le_of_lt a
    · rw [Nat.div_lt_iff_lt_mul (Nat.two_pow_pos _)]
      exact b

theorem near_read (n : Int) (h0 : 0 ≤ n) (h1 : n ≤ 18446744073709551615) : ∃ m p, double.read (FloatKind.f64.nearest n) = .number false m p ∧ -1074 ≤ p ∧ m * 2 ^ (p + 1074).toNat ≤ 2 ^ X := by
  refine read_small _ ?_
  show double.nearest (decide (n < 0)) n.natAbs 0 ≤ _
  rw [decide_eq_false (by omega)]
  exact nearest_rung _ (by omega)

theorem conv_ok (x : Nat) (most : Int) (h0 : 0 ≤ most) (h1 : most ≤ 18446744073709551615) (n1 : ¬ double.order x (FloatKind.f64.nearest most) = some .gt) (n2 : ¬ double.order x (FloatKind.f64.nearest most) = some .eq)
    (hgt : double.order x (FloatKind.f64.nearest 1048576) = some .gt) : ∃ N : Int, floatToIntVal .f64 x .u64 = some N ∧ 1048576 ≤ N ∧ N ≤ 18446744073709551615 := by
  obtain ⟨n, j, hy, hj, hv⟩ := near_read most h0 h1
  rcases gt_number low_read (by omega) hgt with hinf | ⟨m, i, hx, hi, hlo⟩
  · exfalso
    apply n1
    unfold Format.order
    rw [hinf, hy]
    rfl
  · have hup := Nat.lt_of_lt_of_le (not_ge_number hy hj hx hi n1 n2) hv
    rw [low_scaled] at hlo
    rw [top_scaled] at hup
    obtain ⟨N, hN, a, b⟩ := toInt_bd hi hlo hup
    refine ⟨N, ?_, by omega, by omega⟩
    unfold floatToIntVal
    have hd : (FloatKind.f64.decode x).toInt .zero = some (N : Int) := by
      show (double.read x).toInt .zero = _
      rw [hx]; exact hN
    rw [hd]
    have : IntKind.u64.min ≤ (N : Int) ∧ (N : Int) ≤ IntKind.u64.max := by
      have e1 : IntKind.u64.min = 0 := by decide
      have e2 : IntKind.u64.max = 18446744073709551615 := by decide
      rw [e1, e2]; omega
    simp [this]
end Go.Proofs.Qxb6003347a.flt
