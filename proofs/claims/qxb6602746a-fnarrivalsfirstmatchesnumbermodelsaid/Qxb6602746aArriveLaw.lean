import Derived.Test.Qxb6602746aModel
namespace Go.Proofs.Qxb6602746a.arrivelaw
open Go.ChangeShapes Go.WideShapes Go.ChangeAt Go.RowKit
open directkit bitsn arrivekit modelkit
set_option linter.unusedVariables false

theorem eq_of_bits {x y : Nat} (hx : x < 18446744073709551616) (hy : y < 18446744073709551616) (h : ∀ j, j < 64 → x.testBit j = y.testBit j) : x = y := by
  have e : (18446744073709551616 : Nat) = 2 ^ 64 := by decide
  rw [e] at hx hy
  refine Nat.eq_of_testBit_eq fun j => ?_
  by_cases hj : j < 64
  · exact h j hj
  · have hp : (2 : Nat) ^ 64 ≤ 2 ^ j := Nat.pow_le_pow_right (by omega) (by omega)
    rw [Nat.testBit_lt_two_pow (Nat.lt_of_lt_of_le hx hp), Nat.testBit_lt_two_pow (Nat.lt_of_lt_of_le hy hp)]

theorem up_eq (b c s : Int) (hb0 : 0 ≤ b) (h : b < s) : ((accW (upF b c s) 64 : Nat) : Int) = ((upN c.toNat (s - b).toNat : Nat) : Int) := by
  congr 1
  refine eq_of_bits (accW_lt64 _ _ (by omega)) (upN_lt _ _) fun j hj => ?_
  rw [accW_bit, upN_bit _ _ _ (by omega) hj, decide_eq_true hj, Bool.true_and]
  by_cases h0 : j = 0
  · rw [upF_zero (by omega) h0]; simp [h0]
  · rw [decide_eq_false h0, Bool.false_or]
    by_cases h1 : (j : Int) ≤ s
    · by_cases h2 : s - (j : Int) ≤ b
      · rw [upF_in h1 h0 h2 rfl, decide_eq_true (show (s - b).toNat ≤ j by omega), Bool.true_and]
        unfold tb
        rw [show (b - (s - (j : Int))).toNat = j - (s - b).toNat by omega]
      · rw [upF_out h1 h0 h2, decide_eq_false (show ¬ (s - b).toNat ≤ j by omega), Bool.false_and]
    · rw [upF_past h1 rfl, decide_eq_true (show (s - b).toNat ≤ j by omega), Bool.true_and]
      unfold tb
      rw [show ((j : Int) - (s - b)).toNat = j - (s - b).toNat by omega]

theorem loF_else {b c s : Int} {k : Nat} (h2 : ¬ b - (k : Int) = s) : loF b c s k = c.toNat.testBit k := by
  rw [loF_in h2 rfl]; rfl

theorem far_eq (b c s : Int) (hc0 : 0 ≤ c) (hc1 : c ≤ 18446744073709551615) (hf : 64 ≤ b - s) : ((accW (loF b c s) 64 : Nat) : Int) = c := by
  rw [show accW (loF b c s) 64 = c.toNat from ?_]
  · omega
  refine eq_of_bits (accW_lt64 _ _ (by omega)) (toNat_lt hc0 hc1) fun j hj => ?_
  rw [accW_bit, decide_eq_true hj, Bool.true_and, loF_else (by omega)]

theorem seen_eq (b c s : Int) (hc0 : 0 ≤ c) (hc1 : c ≤ 18446744073709551615) (hs0 : 0 ≤ s) (h : s ≤ b) (ht : tb c (b - s) = true) : ((accW (loF b c s) 64 : Nat) : Int) = c := by
  rw [show accW (loF b c s) 64 = c.toNat from ?_]
  · omega
  refine eq_of_bits (accW_lt64 _ _ (by omega)) (toNat_lt hc0 hc1) fun j hj => ?_
  rw [accW_bit, decide_eq_true hj, Bool.true_and]
  by_cases e : b - (j : Int) = s
  · rw [loF_at (by omega) e]
    unfold tb at ht
    rw [← ht, show (b - s).toNat = j by omega]
  · rw [loF_else e]

theorem or_lt (c : Int) (k : Nat) (hc0 : 0 ≤ c) (hc1 : c ≤ 18446744073709551615) (hk : k < 64) : c.toNat ||| 2 ^ k < 18446744073709551616 := by
  have e : (18446744073709551616 : Nat) = 2 ^ 64 := by decide
  rw [e]
  exact Nat.or_lt_two_pow (by omega) (Nat.pow_lt_pow_right (by omega) hk)

theorem fresh_eq (b c s : Int) (hc0 : 0 ≤ c) (hc1 : c ≤ 18446744073709551615) (hs0 : 0 ≤ s) (h : s ≤ b) (hf : b - s < 64) : ((accW (loF b c s) 64 : Nat) : Int) = ((c.toNat ||| 2 ^ (b - s).toNat : Nat) : Int) := by
  congr 1
  refine eq_of_bits (accW_lt64 _ _ (by omega)) (or_lt c _ hc0 hc1 (by omega)) fun j hj => ?_
  rw [accW_bit, decide_eq_true hj, Bool.true_and, Nat.testBit_or, Nat.testBit_two_pow]
  by_cases e : b - (j : Int) = s
  · rw [loF_at (by omega) e, decide_eq_true (show (b - s).toNat = j by omega), Bool.or_true]
  · rw [loF_else e, decide_eq_false (show ¬ (b - s).toNat = j by omega), Bool.or_false]

set_option maxHeartbeats 1000000 in
theorem law_old (a b c i s : Int) (w : World) (ha0 : 0 ≤ a) (ha1 : a ≤ 18446744073709551615) (hb0 : 0 ≤ b) (hb1 : b ≤ 18446744073709551615) (hc0 : 0 ≤ c) (hc1 : c ≤ 18446744073709551615) (hi0 : 0 ≤ i) (hi1 : i ≤ 18446744073709551615) (hs0 : 0 ≤ s) (hs1 : s ≤ 18446744073709551615) (h : i < a) :
    Calls Try.prog 3 #[.int .u64 a, .int .u64 b, .int .u64 c, .int .u64 i, .int .u64 s] w fun e w' => e = .returned (.bool true) ∧ Below w.heap.size w w' := by
  have M : Hid (∀ W : World, Calls Try.prog 12 #[.int .u64 a, .int .u64 b, .int .u64 c, .int .u64 i, .int .u64 s] W fun e w' => e = .returned (.tuple #[.bool false, .int .u64 a, .int .u64 b, .int .u64 (c)]) ∧ W = w') := by
    intro W
    exact model_old a b c i s W h
  have F : Hid (Calls Try.prog 10 #[.pointer (some ⟨w.heap.size, 0, none⟩), .int .u64 i, .int .u64 s] (w.alloc (.cells #[.int .u64 a, .int .u64 b, .int .u64 c] 37)) (ToldA w.heap.size (w.alloc (.cells #[.int .u64 a, .int .u64 b, .int .u64 c] 37)) false a b (c))) :=
    first_old _ a b c i s _ (ownA_new w a b c) h
  go_enter Try.func3, Try.ntmps3
  go_wp2_with fail
  refine (makeA_any _ _ _ _).mono ?_
  rintro e w' ⟨rfl, rfl⟩
  go_wp2_with fail
  refine F.out.mono ?_
  rintro e w1 ⟨rfl, hb, hr0, hr1, hr2⟩
  have HB : Hid (Below w.heap.size w w1) := ((Below.refl _ _).alloc (Nat.le_refl _) _).trans hb
  clear hb F
  go_wp2_with fail
  refine (stateA_any _ _ _ _ _ hr0 hr1 hr2).mono ?_
  rintro e w2 ⟨rfl, k, rfl⟩
  clear hr0 hr1 hr2
  go_wp2_with fail
  refine (M.out _).mono ?_
  rintro e w3 ⟨rfl, rfl⟩
  go_wp2
  go_ret
  exact ⟨rfl, below_drewN HB.out _⟩

set_option maxHeartbeats 1000000 in
theorem law_new (a b c i s : Int) (w : World) (ha0 : 0 ≤ a) (ha1 : a ≤ 18446744073709551615) (hb0 : 0 ≤ b) (hb1 : b ≤ 18446744073709551615) (hc0 : 0 ≤ c) (hc1 : c ≤ 18446744073709551615) (hi0 : 0 ≤ i) (hi1 : i ≤ 18446744073709551615) (hs0 : 0 ≤ s) (hs1 : s ≤ 18446744073709551615) (h : a < i) :
    Calls Try.prog 3 #[.int .u64 a, .int .u64 b, .int .u64 c, .int .u64 i, .int .u64 s] w fun e w' => e = .returned (.bool true) ∧ Below w.heap.size w w' := by
  have M : Hid (∀ W : World, Calls Try.prog 12 #[.int .u64 a, .int .u64 b, .int .u64 c, .int .u64 i, .int .u64 s] W fun e w' => e = .returned (.tuple #[.bool true, .int .u64 i, .int .u64 s, .int .u64 (1)]) ∧ W = w') := by
    intro W
    exact model_new a b c i s W h
  have F : Hid (Calls Try.prog 10 #[.pointer (some ⟨w.heap.size, 0, none⟩), .int .u64 i, .int .u64 s] (w.alloc (.cells #[.int .u64 a, .int .u64 b, .int .u64 c] 37)) (ToldA w.heap.size (w.alloc (.cells #[.int .u64 a, .int .u64 b, .int .u64 c] 37)) true i s (1))) :=
    first_new _ a b c i s _ (ownA_new w a b c) h
  go_enter Try.func3, Try.ntmps3
  go_wp2_with fail
  refine (makeA_any _ _ _ _).mono ?_
  rintro e w' ⟨rfl, rfl⟩
  go_wp2_with fail
  refine F.out.mono ?_
  rintro e w1 ⟨rfl, hb, hr0, hr1, hr2⟩
  have HB : Hid (Below w.heap.size w w1) := ((Below.refl _ _).alloc (Nat.le_refl _) _).trans hb
  clear hb F
  go_wp2_with fail
  refine (stateA_any _ _ _ _ _ hr0 hr1 hr2).mono ?_
  rintro e w2 ⟨rfl, k, rfl⟩
  clear hr0 hr1 hr2
  go_wp2_with fail
  refine (M.out _).mono ?_
  rintro e w3 ⟨rfl, rfl⟩
  go_wp2
  go_ret
  exact ⟨rfl, below_drewN HB.out _⟩

set_option maxHeartbeats 1000000 in
theorem law_up (a b c i s : Int) (w : World) (ha0 : 0 ≤ a) (ha1 : a ≤ 18446744073709551615) (hb0 : 0 ≤ b) (hb1 : b ≤ 18446744073709551615) (hc0 : 0 ≤ c) (hc1 : c ≤ 18446744073709551615) (hs0 : 0 ≤ s) (hs1 : s ≤ 18446744073709551615) (h : b < s) :
    Calls Try.prog 3 #[.int .u64 a, .int .u64 b, .int .u64 c, .int .u64 a, .int .u64 s] w fun e w' => e = .returned (.bool true) ∧ Below w.heap.size w w' := by
  have M : Hid (∀ W : World, Calls Try.prog 12 #[.int .u64 a, .int .u64 b, .int .u64 c, .int .u64 a, .int .u64 s] W fun e w' => e = .returned (.tuple #[.bool true, .int .u64 a, .int .u64 s, .int .u64 (((upN c.toNat (s - b).toNat : Nat) : Int))]) ∧ W = w') := by
    intro W
    rw [← up_eq b c s hb0 h]
    exact model_up a b c s W hb0 hb1 hc0 hc1 hs1 h
  have F : Hid (Calls Try.prog 10 #[.pointer (some ⟨w.heap.size, 0, none⟩), .int .u64 a, .int .u64 s] (w.alloc (.cells #[.int .u64 a, .int .u64 b, .int .u64 c] 37)) (ToldA w.heap.size (w.alloc (.cells #[.int .u64 a, .int .u64 b, .int .u64 c] 37)) true a s (((upN c.toNat (s - b).toNat : Nat) : Int)))) :=
    first_up _ a b c s _ (ownA_new w a b c) hc0 hb0 h hs1
  obtain ⟨win, hwin⟩ : ∃ win : Int, win = ((upN c.toNat (s - b).toNat : Nat) : Int) := ⟨_, rfl⟩
  rw [← hwin] at M F
  clear hwin
  go_enter Try.func3, Try.ntmps3
  go_wp2_with fail
  refine (makeA_any _ _ _ _).mono ?_
  rintro e w' ⟨rfl, rfl⟩
  go_wp2_with fail
  refine F.out.mono ?_
  rintro e w1 ⟨rfl, hb, hr0, hr1, hr2⟩
  have HB : Hid (Below w.heap.size w w1) := ((Below.refl _ _).alloc (Nat.le_refl _) _).trans hb
  clear hb F
  go_wp2_with fail
  refine (stateA_any _ _ _ _ _ hr0 hr1 hr2).mono ?_
  rintro e w2 ⟨rfl, k, rfl⟩
  clear hr0 hr1 hr2
  go_wp2_with fail
  refine (M.out _).mono ?_
  rintro e w3 ⟨rfl, rfl⟩
  go_wp2
  go_ret
  exact ⟨rfl, below_drewN HB.out _⟩

set_option maxHeartbeats 1000000 in
theorem law_far (a b c i s : Int) (w : World) (ha0 : 0 ≤ a) (ha1 : a ≤ 18446744073709551615) (hb0 : 0 ≤ b) (hb1 : b ≤ 18446744073709551615) (hc0 : 0 ≤ c) (hc1 : c ≤ 18446744073709551615) (hs0 : 0 ≤ s) (hs1 : s ≤ 18446744073709551615) (h : s ≤ b) (hf : 64 ≤ b - s) :
    Calls Try.prog 3 #[.int .u64 a, .int .u64 b, .int .u64 c, .int .u64 a, .int .u64 s] w fun e w' => e = .returned (.bool true) ∧ Below w.heap.size w w' := by
  have M : Hid (∀ W : World, Calls Try.prog 12 #[.int .u64 a, .int .u64 b, .int .u64 c, .int .u64 a, .int .u64 s] W fun e w' => e = .returned (.tuple #[.bool false, .int .u64 a, .int .u64 b, .int .u64 (c)]) ∧ W = w') := by
    intro W
    have m := model_far a b c s W hb0 hb1 hc0 hc1 hs0 h hf
    rw [far_eq b c s hc0 hc1 hf] at m
    exact m
  have F : Hid (Calls Try.prog 10 #[.pointer (some ⟨w.heap.size, 0, none⟩), .int .u64 a, .int .u64 s] (w.alloc (.cells #[.int .u64 a, .int .u64 b, .int .u64 c] 37)) (ToldA w.heap.size (w.alloc (.cells #[.int .u64 a, .int .u64 b, .int .u64 c] 37)) false a b (c))) :=
    first_far _ a b c s _ (ownA_new w a b c) hb1 hs0 hf
  go_enter Try.func3, Try.ntmps3
  go_wp2_with fail
  refine (makeA_any _ _ _ _).mono ?_
  rintro e w' ⟨rfl, rfl⟩
  go_wp2_with fail
  refine F.out.mono ?_
  rintro e w1 ⟨rfl, hb, hr0, hr1, hr2⟩
  have HB : Hid (Below w.heap.size w w1) := ((Below.refl _ _).alloc (Nat.le_refl _) _).trans hb
  clear hb F
  go_wp2_with fail
  refine (stateA_any _ _ _ _ _ hr0 hr1 hr2).mono ?_
  rintro e w2 ⟨rfl, k, rfl⟩
  clear hr0 hr1 hr2
  go_wp2_with fail
  refine (M.out _).mono ?_
  rintro e w3 ⟨rfl, rfl⟩
  go_wp2
  go_ret
  exact ⟨rfl, below_drewN HB.out _⟩

set_option maxHeartbeats 1000000 in
theorem law_seen (a b c i s : Int) (w : World) (ha0 : 0 ≤ a) (ha1 : a ≤ 18446744073709551615) (hb0 : 0 ≤ b) (hb1 : b ≤ 18446744073709551615) (hc0 : 0 ≤ c) (hc1 : c ≤ 18446744073709551615) (hs0 : 0 ≤ s) (hs1 : s ≤ 18446744073709551615) (h : s ≤ b) (hf : b - s < 64) (ht : Hid (tb c (b - s) = true)) :
    Calls Try.prog 3 #[.int .u64 a, .int .u64 b, .int .u64 c, .int .u64 a, .int .u64 s] w fun e w' => e = .returned (.bool true) ∧ Below w.heap.size w w' := by
  have M : Hid (∀ W : World, Calls Try.prog 12 #[.int .u64 a, .int .u64 b, .int .u64 c, .int .u64 a, .int .u64 s] W fun e w' => e = .returned (.tuple #[.bool false, .int .u64 a, .int .u64 b, .int .u64 (c)]) ∧ W = w') := by
    intro W
    have m := model_seen a b c s W hb0 hb1 hc0 hc1 hs0 h hf ht.out
    rw [seen_eq b c s hc0 hc1 hs0 h ht.out] at m
    exact m
  have F : Hid (Calls Try.prog 10 #[.pointer (some ⟨w.heap.size, 0, none⟩), .int .u64 a, .int .u64 s] (w.alloc (.cells #[.int .u64 a, .int .u64 b, .int .u64 c] 37)) (ToldA w.heap.size (w.alloc (.cells #[.int .u64 a, .int .u64 b, .int .u64 c] 37)) false a b (c))) :=
    first_seen _ a b c s _ (ownA_new w a b c) hc0 hc1 hb1 hs0 hf h ht.out
  go_enter Try.func3, Try.ntmps3
  go_wp2_with fail
  refine (makeA_any _ _ _ _).mono ?_
  rintro e w' ⟨rfl, rfl⟩
  go_wp2_with fail
  refine F.out.mono ?_
  rintro e w1 ⟨rfl, hb, hr0, hr1, hr2⟩
  have HB : Hid (Below w.heap.size w w1) := ((Below.refl _ _).alloc (Nat.le_refl _) _).trans hb
  clear hb F
  go_wp2_with fail
  refine (stateA_any _ _ _ _ _ hr0 hr1 hr2).mono ?_
  rintro e w2 ⟨rfl, k, rfl⟩
  clear hr0 hr1 hr2
  go_wp2_with fail
  refine (M.out _).mono ?_
  rintro e w3 ⟨rfl, rfl⟩
  go_wp2
  go_ret
  exact ⟨rfl, below_drewN HB.out _⟩

set_option maxHeartbeats 1000000 in
theorem law_fresh (a b c i s : Int) (w : World) (ha0 : 0 ≤ a) (ha1 : a ≤ 18446744073709551615) (hb0 : 0 ≤ b) (hb1 : b ≤ 18446744073709551615) (hc0 : 0 ≤ c) (hc1 : c ≤ 18446744073709551615) (hs0 : 0 ≤ s) (hs1 : s ≤ 18446744073709551615) (h : s ≤ b) (hf : b - s < 64) (ht : Hid (tb c (b - s) = false)) :
    Calls Try.prog 3 #[.int .u64 a, .int .u64 b, .int .u64 c, .int .u64 a, .int .u64 s] w fun e w' => e = .returned (.bool true) ∧ Below w.heap.size w w' := by
  have M : Hid (∀ W : World, Calls Try.prog 12 #[.int .u64 a, .int .u64 b, .int .u64 c, .int .u64 a, .int .u64 s] W fun e w' => e = .returned (.tuple #[.bool true, .int .u64 a, .int .u64 b, .int .u64 (((c.toNat ||| 2 ^ (b - s).toNat : Nat) : Int))]) ∧ W = w') := by
    intro W
    rw [← fresh_eq b c s hc0 hc1 hs0 h hf]
    exact model_fresh a b c s W hb0 hb1 hc0 hc1 hs0 h hf ht.out
  have F : Hid (Calls Try.prog 10 #[.pointer (some ⟨w.heap.size, 0, none⟩), .int .u64 a, .int .u64 s] (w.alloc (.cells #[.int .u64 a, .int .u64 b, .int .u64 c] 37)) (ToldA w.heap.size (w.alloc (.cells #[.int .u64 a, .int .u64 b, .int .u64 c] 37)) true a b (((c.toNat ||| 2 ^ (b - s).toNat : Nat) : Int)))) :=
    first_fresh _ a b c s _ (ownA_new w a b c) hc0 hc1 hb1 hs0 hf h ht.out
  obtain ⟨win, hwin⟩ : ∃ win : Int, win = ((c.toNat ||| 2 ^ (b - s).toNat : Nat) : Int) := ⟨_, rfl⟩
  rw [← hwin] at M F
  clear hwin
  go_enter Try.func3, Try.ntmps3
  go_wp2_with fail
  refine (makeA_any _ _ _ _).mono ?_
  rintro e w' ⟨rfl, rfl⟩
  go_wp2_with fail
  refine F.out.mono ?_
  rintro e w1 ⟨rfl, hb, hr0, hr1, hr2⟩
  have HB : Hid (Below w.heap.size w w1) := ((Below.refl _ _).alloc (Nat.le_refl _) _).trans hb
  clear hb F
  go_wp2_with fail
  refine (stateA_any _ _ _ _ _ hr0 hr1 hr2).mono ?_
  rintro e w2 ⟨rfl, k, rfl⟩
  clear hr0 hr1 hr2
  go_wp2_with fail
  refine (M.out _).mono ?_
  rintro e w3 ⟨rfl, rfl⟩
  go_wp2
  go_ret
  exact ⟨rfl, below_drewN HB.out _⟩

theorem law (a b c i s : Int) (w : World) (ha0 : 0 ≤ a) (ha1 : a ≤ 18446744073709551615) (hb0 : 0 ≤ b) (hb1 : b ≤ 18446744073709551615) (hc0 : 0 ≤ c) (hc1 : c ≤ 18446744073709551615) (hi0 : 0 ≤ i) (hi1 : i ≤ 18446744073709551615) (hs0 : 0 ≤ s) (hs1 : s ≤ 18446744073709551615) :
    Calls Try.prog 3 #[.int .u64 a, .int .u64 b, .int .u64 c, .int .u64 i, .int .u64 s] w fun e w' => e = .returned (.bool true) ∧ Below w.heap.size w w' := by
  rcases Int.lt_trichotomy i a with h | rfl | h
  · exact law_old a b c i s w ha0 ha1 hb0 hb1 hc0 hc1 hi0 hi1 hs0 hs1 h
  · by_cases hu : b < s
    · exact law_up i b c i s w ha0 ha1 hb0 hb1 hc0 hc1 hs0 hs1 hu
    · by_cases hf : 64 ≤ b - s
      · exact law_far i b c i s w ha0 ha1 hb0 hb1 hc0 hc1 hs0 hs1 (by omega) hf
      · cases ht : tb c (b - s) with
        | true => exact law_seen i b c i s w ha0 ha1 hb0 hb1 hc0 hc1 hs0 hs1 (by omega) (by omega) ht
        | false => exact law_fresh i b c i s w ha0 ha1 hb0 hb1 hc0 hc1 hs0 hs1 (by omega) (by omega) ht
  · exact law_new a b c i s w ha0 ha1 hb0 hb1 hc0 hc1 hi0 hi1 hs0 hs1 h
end Go.Proofs.Qxb6602746a.arrivelaw
