import Derived.Test.Qxb6003347aSub
import Derived.Test.Qxb6003347aCeil
import Derived.Test.Qxb6003347aFlt
import Derived.WalkLawsBesides
namespace Go.Proofs.Qxb6003347a.timekit
open Go.ChangeShapes Go.WideShapes Go.ChangeAt Go.RowKit
set_option linter.unusedVariables false

set_option maxHeartbeats 400000 in
theorem newState (t r n x k : Int) (w : World) :
    Calls Try.prog 6 #[.int .u64 t, .int .u64 r, .agg #[.int .u64 n, .int .i64 x, .pointer none], .int .i64 k] w fun e' w' => e' = .returned (.agg #[.int .u64 t, .int .u64 r, .int .u64 n, .int .i64 x, .pointer none, .int .i64 k]) ∧ Below w.heap.size w w' := by
  go_enter Try.func6, Try.ntmps6
  go_wp2
  refine bodyPost_ret (v := .agg #[.int .u64 t, .int .u64 r, .int .u64 n, .int .i64 x, .pointer none, .int .i64 k]) (by simp [results, Try.results6, go_sem]) rfl ⟨rfl, ?_⟩
  exact below2 w _ _

theorem mul_some (a b : Int) (a0 : 0 ≤ a) (a1 : a ≤ 18446744073709551615) (b0 : 0 ≤ b) (b1 : b ≤ 18446744073709551615) : ∃ r, floatBits .mul .f64 (FloatKind.f64.nearest a) (FloatKind.f64.nearest b) = some r := by
  obtain ⟨m, p, h1, _, _⟩ := flt.near_read a a0 a1
  obtain ⟨m', p', h2, _, _⟩ := flt.near_read b b0 b1
  show ∃ r, Ieee.double.mul _ _ = some r
  unfold Ieee.Format.mul
  rw [h1, h2]
  exact ⟨_, rfl⟩

theorem quo_nan (t : TypeId) (x y : Nat) (h : floatBits .quo .f64 x y = none) (w : World) : ∃ z, (binOp .quo t (.float .f64 x) (.float .f64 y)).run Try.prog w = .ok (.float .f64 z) w.drew := by
  have h' : FloatKind.f64.format.div x y = none := h
  have hf : (Question.nanBits FloatKind.f64 x y).forced = false := rfl
  exact ⟨(Question.nanBits FloatKind.f64 x y).cut (w.tape w.drawn (Question.nanBits FloatKind.f64 x y)), by simp [binOp, Op.floatArith, h', hf]⟩

theorem quo_any (t : TypeId) (x y : Nat) : (∃ z, ∀ w, (binOp .quo t (.float .f64 x) (.float .f64 y)).run Try.prog w = .ok (.float .f64 z) w) ∨ (∃ F : World → Nat, ∀ w, (binOp .quo t (.float .f64 x) (.float .f64 y)).run Try.prog w = .ok (.float .f64 (F w)) w.drew) := by
  cases h : floatBits .quo .f64 x y with
  | some z => exact Or.inl ⟨z, fun w => run_float_arith w .quo t .f64 x y z h⟩
  | none => exact Or.inr ⟨fun w => (quo_nan t x y h w).choose, fun w => (quo_nan t x y h w).choose_spec⟩

def Within (T m y : Int) (e' : Ending) : Prop := ∃ v : Int, e' = .returned (.int .u64 v) ∧ capF T 1048576 ≤ v ∧ v ≤ capF (max T (ceilF m y)) 1048576

theorem cap_le2 {T A B : Int} (h : A ≤ B) : capF T A ≤ capF T B := by
  unfold capF; split <;> split <;> omega
theorem cap_le1 {T M b : Int} (h : T ≤ M) (hM : M ≤ 18446744073709551615) : capF T b ≤ capF M b := by
  unfold capF; split <;> split <;> omega
theorem cap_bd {T b : Int} (h0 : 0 ≤ T) (h1 : T ≤ 18446744073709551615) (h2 : 0 ≤ b) : 0 ≤ capF T b ∧ capF T b ≤ 18446744073709551615 := by
  unfold capF; split <;> omega

theorem within_of {T m y C M P Q v : Int} (hC : ceilF m y = C) (hM : max T C = M) (hP : capF T 1048576 ≤ P) (hQ : capF M 1048576 = Q) (hLQ : capF T 1048576 ≤ Q) (hv : (v = P ∧ P ≤ Q) ∨ (v = Q ∧ Q ≤ P)) :
    Within T m y (.returned (.int .u64 v)) := by
  refine ⟨v, rfl, ?_, ?_⟩
  · omega
  · rw [hC, hM, hQ]; omega

set_option maxHeartbeats 1000000 in
theorem reach_slow (t r n x k T m y : Int) (w : World) (k0 : 0 ≤ m) (k1 : m < 1000000000) (hT0 : 0 ≤ T) (hT1 : T ≤ 18446744073709551615) (hk : ¬ 0 < wrap64 (16 * k)) :
    Calls Try.prog 24 #[.agg #[.int .u64 t, .int .u64 r, .int .u64 n, .int .i64 x, .pointer none, .int .i64 k], .int .u64 T, .agg #[.int .u64 m, .int .i64 y, .pointer none]] w fun e' w' => Within T m y e' ∧ Below w.heap.size w w' := by
  go_enter Try.func24, Try.ntmps24
  go_wp2_with fail
  refine (ceil_any m y _ k0 k1).mono ?_
  rintro e wz ⟨rfl, hb⟩
  have HB : Hid (Below w.heap.size w wz) := (below2 w _ _).trans (hb.mono (by simp; omega))
  clear hb
  obtain ⟨C, hC⟩ : ∃ C, ceilF m y = C := ⟨_, rfl⟩
  have HC : Hid (ceilF m y = C) := hC
  have hc0 : 0 ≤ C := by rw [← hC]; exact (ceilU_bd _).1
  have hc1 : C ≤ 4611686018427387904 := by rw [← hC]; exact (ceilU_bd _).2
  rw [HC.out]
  clear hC
  by_cases q : T < C
  · go_wp2_with fail
    refine (cap_any T (1048576) _ hT0 hT1 (by omega) (by omega)).mono ?_
    rintro e w2 ⟨rfl, rfl⟩
    obtain ⟨P, hP⟩ : ∃ P, capF T (1048576) = P := ⟨_, rfl⟩
    have HP : Hid (capF T (1048576) = P) := hP
    have hP0 := cap_bd (T := T) (b := 1048576) hT0 hT1 (by omega)
    rw [hP] at hP0
    clear hP
    rw [HP.out]
    go_wp2_with fail
    refine (cap_any C 1048576 _ (by omega) (by omega) (by omega) (by omega)).mono ?_
    rintro e w3 ⟨rfl, rfl⟩
    obtain ⟨Q, hQ⟩ : ∃ Q, capF C 1048576 = Q := ⟨_, rfl⟩
    have HQ : Hid (capF C 1048576 = Q) := hQ
    clear hQ
    rw [HQ.out]
    have HL : Hid (capF T 1048576 ≤ P ∧ capF T 1048576 ≤ Q) := ⟨by rw [← HP.out]; exact cap_le2 (by omega), by rw [← HQ.out]; exact cap_le1 (by omega) (by omega)⟩
    by_cases hPQ : P ≤ Q
    · go_wp2
      go_ret
      exact ⟨within_of HC.out (show max T C = C by omega) HL.out.1 HQ.out HL.out.2 (Or.inl ⟨rfl, by omega⟩), HB.out⟩
    · go_wp2
      go_ret
      exact ⟨within_of HC.out (show max T C = C by omega) HL.out.1 HQ.out HL.out.2 (Or.inr ⟨rfl, by omega⟩), HB.out⟩
  · go_wp2_with fail
    refine (cap_any T (1048576) _ hT0 hT1 (by omega) (by omega)).mono ?_
    rintro e w2 ⟨rfl, rfl⟩
    obtain ⟨P, hP⟩ : ∃ P, capF T (1048576) = P := ⟨_, rfl⟩
    have HP : Hid (capF T (1048576) = P) := hP
    have hP0 := cap_bd (T := T) (b := 1048576) hT0 hT1 (by omega)
    rw [hP] at hP0
    clear hP
    rw [HP.out]
    go_wp2_with fail
    refine (cap_any T 1048576 _ (by omega) (by omega) (by omega) (by omega)).mono ?_
    rintro e w3 ⟨rfl, rfl⟩
    obtain ⟨Q, hQ⟩ : ∃ Q, capF T 1048576 = Q := ⟨_, rfl⟩
    have HQ : Hid (capF T 1048576 = Q) := hQ
    clear hQ
    rw [HQ.out]
    have HL : Hid (capF T 1048576 ≤ P ∧ capF T 1048576 ≤ Q) := ⟨by rw [← HP.out]; exact cap_le2 (by omega), by rw [← HQ.out]; exact cap_le1 (by omega) (by omega)⟩
    by_cases hPQ : P ≤ Q
    · go_wp2
      go_ret
      exact ⟨within_of HC.out (show max T C = T by omega) HL.out.1 HQ.out HL.out.2 (Or.inl ⟨rfl, by omega⟩), HB.out⟩
    · go_wp2
      go_ret
      exact ⟨within_of HC.out (show max T C = T by omega) HL.out.1 HQ.out HL.out.2 (Or.inr ⟨rfl, by omega⟩), HB.out⟩

theorem wrapu_bd (a : Int) : 0 ≤ IntKind.u64.wrap a ∧ IntKind.u64.wrap a ≤ 18446744073709551615 := by
  rw [IntKind.wrap_u64]; omega
theorem wrap64_hi (a : Int) : wrap64 a ≤ 9223372036854775807 := by unfold wrap64; omega

theorem conv_run (z : Nat) (most : Int) (h0 : 0 ≤ most) (h1 : most ≤ 18446744073709551615) (o : Option Ordering) (ho : FloatKind.f64.format.order z (floatOfInt .f64 most) = o) (n1 : o ≠ some .gt) (n2 : o ≠ some .eq)
    (hgt : FloatKind.f64.format.order z (floatOfInt .f64 1048576) = some .gt) : ∃ N : Int, 1048576 ≤ N ∧ N ≤ 18446744073709551615 ∧ ∀ W, (convert 55 22 (.float .f64 z)).run Try.prog W = .ok (.int .u64 N) W := by
  obtain ⟨N, hN, a, b⟩ := flt.conv_ok z most h0 h1 (fun h => n1 (ho.symm.trans h)) (fun h => n2 (ho.symm.trans h)) hgt
  exact ⟨N, a, b, fun W => run_convert_float_int (P := Try.prog) W 55 22 .f64 .u64 z N (by rw [Try.underlying55]; rfl) Try.underlying22 hN⟩
end Go.Proofs.Qxb6003347a.timekit
