import Derived.Test.Qxb6003347aTime
namespace Go.Proofs.Qxb6003347a.timekit
open Go.ChangeShapes Go.WideShapes Go.ChangeAt Go.RowKit
set_option linter.unusedVariables false

def microF (n x : Int) : Int := wrap64 (wrap64 (wrap64 (x + -62135596800) * 1000000) + n / 1000)
def ceilU (u : Int) : Int := if u ≤ 0 then 0 else if 288230376151711744 ≤ u then 4611686018427387904 else u * 16
def ceilF (n x : Int) : Int := ceilU (microF n x)

theorem ceilU_bd (u : Int) : 0 ≤ ceilU u ∧ ceilU u ≤ 4611686018427387904 := by
  unfold ceilU; split
  · omega
  · split <;> omega

set_option maxHeartbeats 400000 in
theorem micro_any (n x : Int) (w : World) (h0 : 0 ≤ n) (h1 : n < 1000000000) :
    Calls Try.prog 35 #[.agg #[.int .u64 n, .int .i64 x, .pointer none]] w fun e' w' => e' = .returned (.int .i64 (microF n x)) ∧ Below w.heap.size w w' := by
  go_enter Try.func35, Try.ntmps35
  go_wp2_with (first
    | (go_at_call 47; refine (unix_any w.heap.size n x _ (by simp) (by simp) h0 h1).mono ?_; rintro e w1 ⟨rfl, rfl⟩)
    | (go_at_call 31; refine (nsec_any w.heap.size n _ (by simp) h0 h1).mono ?_; rintro e w1 ⟨rfl, rfl⟩))
  go_ret
  exact ⟨rfl, (Below.refl _ _).alloc (Nat.le_refl _) _⟩

theorem ret_u64 {a b : Int} (h : a = b) : Ending.returned (.int .u64 a) = .returned (.int .u64 b) := by rw [h]

set_option maxHeartbeats 400000 in
theorem ceil_any (n x : Int) (w : World) (h0 : 0 ≤ n) (h1 : n < 1000000000) :
    Calls Try.prog 26 #[.agg #[.int .u64 n, .int .i64 x, .pointer none]] w fun e' w' => e' = .returned (.int .u64 (ceilF n x)) ∧ Below w.heap.size w w' := by
  have H : Hid (ceilF n x = ceilU (microF n x)) := rfl
  have M : Hid (∀ W, Calls Try.prog 35 #[.agg #[.int .u64 n, .int .i64 x, .pointer none]] W fun e' w' => e' = .returned (.int .i64 (microF n x)) ∧ Below W.heap.size W w') := fun W => micro_any n x W h0 h1
  generalize microF n x = u at *
  go_enter Try.func26, Try.ntmps26
  go_wp2_with fail
  refine (M.out _).mono ?_
  rintro e w1 ⟨rfl, hb⟩
  have HB : Hid (Below w.heap.size w w1) := ((Below.refl _ _).alloc (Nat.le_refl _) _).trans (hb.mono (by simp))
  clear hb
  by_cases q1 : u ≤ 0
  · go_wp2
    go_ret
    exact ⟨ret_u64 (by rw [H.out]; unfold ceilU; rw [if_pos q1]), HB.out⟩
  · by_cases q2 : 288230376151711744 ≤ u
    · go_wp2
      go_ret
      exact ⟨ret_u64 (by rw [H.out]; unfold ceilU; rw [if_neg (by omega), if_pos q2]), HB.out⟩
    · go_wp2
      go_ret
      exact ⟨ret_u64 (by rw [H.out]; unfold ceilU; rw [if_neg (by omega), if_neg (by omega)]), HB.out⟩

set_option maxHeartbeats 400000 in
theorem zceil_any (n x : Int) (w : World) (h0 : 0 ≤ n) (h1 : n < 1000000000) :
    Calls Try.prog 10 #[.agg #[.int .u64 n, .int .i64 x, .pointer none]] w fun e' w' => e' = .returned (.int .u64 (ceilF n x)) ∧ Below w.heap.size w w' := by
  go_enter Try.func10, Try.ntmps10
  go_wp2_with fail
  refine (ceil_any n x _ h0 h1).mono ?_
  rintro e w1 ⟨rfl, hb⟩
  have HB : Hid (Below w.heap.size w w1) := ((Below.refl _ _).alloc (Nat.le_refl _) _).trans (hb.mono (by simp))
  clear hb
  go_wp2
  go_ret
  exact ⟨rfl, HB.out⟩

def capF (a b : Int) : Int := if 18446744073709551615 - b < a then 18446744073709551615 else a + b

set_option maxHeartbeats 400000 in
theorem cap_any (a b : Int) (w : World) (ha0 : 0 ≤ a) (ha1 : a ≤ 18446744073709551615) (hb0 : 0 ≤ b) (hb1 : b ≤ 18446744073709551615) :
    Calls Try.prog 25 #[.int .u64 a, .int .u64 b] w fun e' w' => e' = .returned (.int .u64 (capF a b)) ∧ w = w' := by
  by_cases q : 18446744073709551615 - b < a
  · go_enter Try.func25, Try.ntmps25
    go_wp2
    go_ret
    exact ⟨ret_u64 (by unfold capF; rw [if_pos q]), rfl⟩
  · go_enter Try.func25, Try.ntmps25
    go_wp2
    go_ret
    exact ⟨ret_u64 (by unfold capF; rw [if_neg (by omega)]), rfl⟩

set_option maxHeartbeats 400000 in
theorem zcap_any (a b : Int) (w : World) (ha0 : 0 ≤ a) (ha1 : a ≤ 18446744073709551615) (hb0 : 0 ≤ b) (hb1 : b ≤ 18446744073709551615) :
    Calls Try.prog 9 #[.int .u64 a, .int .u64 b] w fun e' w' => e' = .returned (.int .u64 (capF a b)) ∧ w = w' := by
  go_enter Try.func9, Try.ntmps9
  go_wp2_with (go_at_call 25; refine (cap_any a b _ ha0 ha1 hb0 hb1).mono ?_; rintro e w1 ⟨rfl, rfl⟩)
  go_ret
  exact ⟨rfl, rfl⟩
end Go.Proofs.Qxb6003347a.timekit
