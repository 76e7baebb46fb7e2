import Derived.Test.Qxb6003347aRows
import Derived.WalkKit
import Derived.ProofKit
import Derived.OpenShut
import Derived.Below
import Derived.Deep.QuietTactic
import Derived.BigQuiet
import Derived.WalkSmall
import Derived.RegionTactic
import Derived.BigRegion
import Derived.Laws.BitsAllLaws
namespace Go.Proofs.Qxb6003347a.timekit
open Go.ChangeShapes Go.WideShapes Go.ChangeAt Go.RowKit
set_option linter.unusedVariables false

theorem mask_is (n : Int) (h0 : 0 ≤ n) (h1 : n < 1000000000) : bits .and .u64 n 1073741823 = n := by
  obtain ⟨m, rfl⟩ := Int.eq_ofNat_of_zero_le h0
  rw [show (1073741823 : Int) = ((1073741823 : Nat) : Int) from rfl, u64_and_nat _ _ (by omega) (by omega)]
  have : m &&& 1073741823 = m % 1073741824 := Nat.and_two_pow_sub_one_eq_mod m 30
  rw [this, Nat.mod_eq_of_lt (by omega)]

theorem mono_no (n : Int) (h0 : 0 ≤ n) (h1 : n < 1000000000) : (bits .and .u64 n 9223372036854775808 != 0) = false := by
  obtain ⟨m, rfl⟩ := Int.eq_ofNat_of_zero_le h0
  rw [show (9223372036854775808 : Int) = ((9223372036854775808 : Nat) : Int) from rfl, u64_and_nat _ _ (by omega) (by omega)]
  have e : (9223372036854775808 : Nat) = 2 ^ 63 := by decide
  rw [e, nat_bit, Nat.div_eq_of_lt (by omega)]
  rfl

set_option maxHeartbeats 400000 in
theorem nsec_any (B : Nat) (n : Int) (w : World) (h : w.cell? ⟨B, 0, none⟩ = some (.int .u64 n)) (h0 : 0 ≤ n) (h1 : n < 1000000000) :
    Calls Try.prog 31 #[.pointer (some ⟨B, 0, none⟩)] w fun e w' => e = .returned (.int .i32 n) ∧ w = w' := by
  have hm := mask_is n h0 h1
  go_enter Try.func31, Try.ntmps31
  go_wp2
  go_ret
  exact ⟨rfl, rfl⟩

set_option maxHeartbeats 400000 in
theorem sec_any (B : Nat) (n e : Int) (w : World) (h : w.cell? ⟨B, 0, none⟩ = some (.int .u64 n)) (h' : w.cell? ⟨B, 1, none⟩ = some (.int .i64 e)) (h0 : 0 ≤ n) (h1 : n < 1000000000) :
    Calls Try.prog 43 #[.pointer (some ⟨B, 0, none⟩)] w fun e' w' => e' = .returned (.int .i64 e) ∧ w = w' := by
  have hm := mono_no n h0 h1
  go_enter Try.func43, Try.ntmps43
  go_wp2
  go_ret
  exact ⟨rfl, rfl⟩

set_option maxHeartbeats 400000 in
theorem unix_any (B : Nat) (n e : Int) (w : World) (h : w.cell? ⟨B, 0, none⟩ = some (.int .u64 n)) (h' : w.cell? ⟨B, 1, none⟩ = some (.int .i64 e)) (h0 : 0 ≤ n) (h1 : n < 1000000000) :
    Calls Try.prog 47 #[.pointer (some ⟨B, 0, none⟩)] w fun e' w' => e' = .returned (.int .i64 (wrap64 (e + -62135596800))) ∧ w = w' := by
  go_enter Try.func47, Try.ntmps47
  go_wp2_with (go_at_call 43; refine (sec_any B n e _ h h' h0 h1).mono ?_; rintro e w1 ⟨rfl, rfl⟩)
  go_ret
  exact ⟨rfl, rfl⟩

def addSecF (e d : Int) : Int :=
  if (decide (e < wrap64 (e + d)) == decide (0 < d)) = true then wrap64 (e + d) else if 0 < d then 9223372036854775807 else -9223372036854775807

theorem addSecF_same {e d : Int} (h : (decide (e < wrap64 (e + d)) == decide (0 < d)) = true) : addSecF e d = wrap64 (e + d) := by unfold addSecF; rw [if_pos h]
theorem addSecF_up {e d : Int} (h : (decide (e < wrap64 (e + d)) == decide (0 < d)) = false) (h2 : 0 < d) : addSecF e d = 9223372036854775807 := by unfold addSecF; rw [if_neg (by rw [h]; simp), if_pos h2]
theorem addSecF_down {e d : Int} (h : (decide (e < wrap64 (e + d)) == decide (0 < d)) = false) (h2 : ¬ 0 < d) : addSecF e d = -9223372036854775807 := by unfold addSecF; rw [if_neg (by rw [h]; simp), if_neg h2]

set_option maxHeartbeats 400000 in
theorem addSec_any (B : Nat) (n e d : Int) (w : World) (h : w.cell? ⟨B, 0, none⟩ = some (.int .u64 n)) (h' : w.cell? ⟨B, 1, none⟩ = some (.int .i64 e)) (hf : w.frozen? ⟨B, 1, none⟩ = false) (h0 : 0 ≤ n) (h1 : n < 1000000000) :
    Calls Try.prog 32 #[.pointer (some ⟨B, 0, none⟩), .int .i64 d] w fun e' w' => e' = .returned (.tuple #[]) ∧ w' = w.setCell ⟨B, 1, none⟩ (.int .i64 (addSecF e d)) := by
  have hm := mono_no n h0 h1
  by_cases qa : e < wrap64 (e + d)
  · by_cases qb : 0 < d
    · rw [addSecF_same (show (decide (e < wrap64 (e + d)) == decide (0 < d)) = true by simp [qa, qb])]
      go_enter Try.func32, Try.ntmps32
      go_wp2
      go_end0
      exact ⟨rfl, rfl⟩
    · rw [addSecF_down (show (decide (e < wrap64 (e + d)) == decide (0 < d)) = false by simp [qa, qb]) qb]
      go_enter Try.func32, Try.ntmps32
      go_wp2
      go_end0
      exact ⟨rfl, rfl⟩
  · by_cases qb : 0 < d
    · rw [addSecF_up (show (decide (e < wrap64 (e + d)) == decide (0 < d)) = false by simp [qa, qb]) qb]
      go_enter Try.func32, Try.ntmps32
      go_wp2
      go_end0
      exact ⟨rfl, rfl⟩
    · rw [addSecF_same (show (decide (e < wrap64 (e + d)) == decide (0 < d)) = true by simp [qa, qb])]
      go_enter Try.func32, Try.ntmps32
      go_wp2
      go_end0
      exact ⟨rfl, rfl⟩

theorem clear_is (n : Int) (h0 : 0 ≤ n) (h1 : n < 1000000000) : bits .andNot .u64 n 1073741823 = 0 := by
  obtain ⟨m, rfl⟩ := Int.eq_ofNat_of_zero_le h0
  rw [show (1073741823 : Int) = ((1073741823 : Nat) : Int) from rfl, u64_andNot_nat _ _ (by omega) (by omega)]
  have : m &&& (18446744073709551615 - 1073741823) = 0 := by
    refine Nat.eq_of_testBit_eq fun j => ?_
    rw [Nat.testBit_and, Nat.zero_testBit]
    by_cases hj : j < 30
    · have : (18446744073709551615 - 1073741823 : Nat) = 2 ^ 30 * 17179869183 := by decide
      rw [this, Nat.testBit_two_pow_mul]
      simp [show ¬ 30 ≤ j by omega]
    · have : m < 2 ^ j := Nat.lt_of_lt_of_le (show m < 2 ^ 30 by omega) (Nat.pow_le_pow_right (by omega) (by omega))
      rw [Nat.testBit_lt_two_pow this, Bool.false_and]
  rw [this]
  rfl

theorem or_zero (n : Int) (h0 : 0 ≤ n) (h1 : n < 1000000000) : bits .or .u64 0 n = n := by
  obtain ⟨m, rfl⟩ := Int.eq_ofNat_of_zero_le h0
  rw [show (0 : Int) = ((0 : Nat) : Int) from rfl, u64_or_nat _ _ (by omega) (by omega), Nat.zero_or]

theorem tmod_lo (d : Int) : -1000000000 < d.tmod 1000000000 := by
  have h := Int.lt_tmod_of_pos d (show (0 : Int) < 1000000000 by omega)
  exact h
theorem tmod_hi (d : Int) : d.tmod 1000000000 < 1000000000 := Int.tmod_lt_of_pos d (by omega)

def tv (n e : Int) : Value := .agg #[.int .u64 n, .int .i64 e, .pointer none]

set_option maxHeartbeats 1000000 in
theorem add_det (n e d : Int) (h0 : 0 ≤ n) (h1 : n < 1000000000) : ∃ n' x, 0 ≤ n' ∧ n' < 1000000000 ∧ ∀ w,
    Calls Try.prog 23 #[.agg #[.int .u64 n, .int .i64 e, .pointer none], .int .i64 d] w fun e' w' => e' = .returned (.agg #[.int .u64 n', .int .i64 x, .pointer none]) ∧ Below w.heap.size w w' := by
  have r0 := tmod_lo d
  have r1 := tmod_hi d
  have hcl := clear_is n h0 h1
  by_cases c1 : 1000000000 ≤ n + d.tmod 1000000000
  · have ho := or_zero (n + d.tmod 1000000000 - 1000000000) (by omega) (by omega)
    have hm := mono_no (n + d.tmod 1000000000 - 1000000000) (by omega) (by omega)
    obtain ⟨x, hx⟩ : ∃ x, addSecF e (wrap64 (wrap64 (d.tdiv 1000000000) + 1)) = x := ⟨_, rfl⟩
    have HX : Hid (addSecF e (wrap64 (wrap64 (d.tdiv 1000000000) + 1)) = x) := hx
    clear hx
    refine ⟨n + d.tmod 1000000000 - 1000000000, x, by omega, by omega, fun w => ?_⟩
    go_enter Try.func23, Try.ntmps23
    go_wp2_with fail
    refine (nsec_any w.heap.size n _ ?_ h0 h1).mono ?_
    · simp
    rintro e1 w1 ⟨rfl, rfl⟩
    go_wp2_with fail
    refine (addSec_any w.heap.size (n + d.tmod 1000000000 - 1000000000) e _ _ ?_ ?_ ?_ (by omega) (by omega)).mono ?_
    · simp
    · simp
    · simp
    rintro e2 w2 ⟨rfl, rfl⟩
    rw [HX.out]
    go_wp2
    refine bodyPost_ret (v := .agg #[.int .u64 (n + d.tmod 1000000000 - 1000000000), .int .i64 x, .pointer none]) (by simp [results, Try.results23, go_sem]) rfl ⟨rfl, ?_⟩
    exact ((Below.refl _ _).alloc (Nat.le_refl _) _).alloc (by simp) _
  · by_cases c2 : n + d.tmod 1000000000 < 0
    · have ho := or_zero (n + d.tmod 1000000000 + 1000000000) (by omega) (by omega)
      have hm := mono_no (n + d.tmod 1000000000 + 1000000000) (by omega) (by omega)
      obtain ⟨x, hx⟩ : ∃ x, addSecF e (wrap64 (wrap64 (d.tdiv 1000000000) - 1)) = x := ⟨_, rfl⟩
      have HX : Hid (addSecF e (wrap64 (wrap64 (d.tdiv 1000000000) - 1)) = x) := hx
      clear hx
      refine ⟨n + d.tmod 1000000000 + 1000000000, x, by omega, by omega, fun w => ?_⟩
      go_enter Try.func23, Try.ntmps23
      go_wp2_with fail
      refine (nsec_any w.heap.size n _ ?_ h0 h1).mono ?_
      · simp
      rintro e1 w1 ⟨rfl, rfl⟩
      go_wp2_with fail
      refine (addSec_any w.heap.size (n + d.tmod 1000000000 + 1000000000) e _ _ ?_ ?_ ?_ (by omega) (by omega)).mono ?_
      · simp
      · simp
      · simp
      rintro e2 w2 ⟨rfl, rfl⟩
      rw [HX.out]
      go_wp2
      refine bodyPost_ret (v := .agg #[.int .u64 (n + d.tmod 1000000000 + 1000000000), .int .i64 x, .pointer none]) (by simp [results, Try.results23, go_sem]) rfl ⟨rfl, ?_⟩
      exact ((Below.refl _ _).alloc (Nat.le_refl _) _).alloc (by simp) _
    · have ho := or_zero (n + d.tmod 1000000000) (by omega) (by omega)
      have hm := mono_no (n + d.tmod 1000000000) (by omega) (by omega)
      obtain ⟨x, hx⟩ : ∃ x, addSecF e (wrap64 (d.tdiv 1000000000)) = x := ⟨_, rfl⟩
      have HX : Hid (addSecF e (wrap64 (d.tdiv 1000000000)) = x) := hx
      clear hx
      refine ⟨n + d.tmod 1000000000, x, by omega, by omega, fun w => ?_⟩
      go_enter Try.func23, Try.ntmps23
      go_wp2_with fail
      refine (nsec_any w.heap.size n _ ?_ h0 h1).mono ?_
      · simp
      rintro e1 w1 ⟨rfl, rfl⟩
      go_wp2_with fail
      refine (addSec_any w.heap.size (n + d.tmod 1000000000) e _ _ ?_ ?_ ?_ (by omega) (by omega)).mono ?_
      · simp
      · simp
      · simp
      rintro e2 w2 ⟨rfl, rfl⟩
      rw [HX.out]
      go_wp2
      refine bodyPost_ret (v := .agg #[.int .u64 (n + d.tmod 1000000000), .int .i64 x, .pointer none]) (by simp [results, Try.results23, go_sem]) rfl ⟨rfl, ?_⟩
      exact ((Below.refl _ _).alloc (Nat.le_refl _) _).alloc (by simp) _

theorem add_any (n e d : Int) (w : World) (h0 : 0 ≤ n) (h1 : n < 1000000000) :
    Calls Try.prog 23 #[.agg #[.int .u64 n, .int .i64 e, .pointer none], .int .i64 d] w fun e' w' => ∃ n' x, e' = .returned (.agg #[.int .u64 n', .int .i64 x, .pointer none]) ∧ 0 ≤ n' ∧ n' < 1000000000 ∧ Below w.heap.size w w' := by
  obtain ⟨n', x, a, b, h⟩ := add_det n e d h0 h1
  refine (h w).mono ?_
  rintro e' w' ⟨rfl, hb⟩
  exact ⟨n', x, rfl, a, b, hb⟩
end Go.Proofs.Qxb6003347a.timekit
