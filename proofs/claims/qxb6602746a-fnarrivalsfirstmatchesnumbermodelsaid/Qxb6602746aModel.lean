import Derived.Test.Qxb6602746aArrive
namespace Go.Proofs.Qxb6602746a.modelkit
open Go.ChangeShapes Go.WideShapes Go.ChangeAt Go.RowKit
open directkit bitsn arrivekit
set_option linter.unusedVariables false

set_option maxHeartbeats 400000 in
theorem model_old (a b c i s : Int) (w : World) (h : i < a) :
    Calls Try.prog 12 #[.int .u64 a, .int .u64 b, .int .u64 c, .int .u64 i, .int .u64 s] w fun e w' => e = .returned (.tuple #[.bool false, .int .u64 a, .int .u64 b, .int .u64 c]) ∧ w = w' := by
  go_enter Try.func12, Try.ntmps12
  go_wp2
  refine bodyPost_ret (v := .tuple #[.bool false, .int .u64 a, .int .u64 b, .int .u64 c]) (by simp [results, Try.results12, go_sem]) rfl ?_
  exact ⟨rfl, rfl⟩

set_option maxHeartbeats 400000 in
theorem model_new (a b c i s : Int) (w : World) (h : a < i) :
    Calls Try.prog 12 #[.int .u64 a, .int .u64 b, .int .u64 c, .int .u64 i, .int .u64 s] w fun e w' => e = .returned (.tuple #[.bool true, .int .u64 i, .int .u64 s, .int .u64 1]) ∧ w = w' := by
  go_enter Try.func12, Try.ntmps12
  go_wp2
  refine bodyPost_ret (v := .tuple #[.bool true, .int .u64 i, .int .u64 s, .int .u64 1]) (by simp [results, Try.results12, go_sem]) rfl ?_
  exact ⟨rfl, rfl⟩

def upF (b c s : Int) (j : Nat) : Bool :=
  if (j : Int) ≤ s then (if (j : Int) = 0 then true else (decide (s - j ≤ b) && tb c (b - (s - j)))) else tb c (j - (s - b))

theorem val_eq {x y : Int} (h : x = y) : Value.int .u64 x = Value.int .u64 y := by rw [h]

theorem acc_set {f : Nat → Bool} {k : Nat} {acc : Int} (h : ((accW f k : Nat) : Int) = acc) (hk : k < 64) (hf : f k = true) : bits .or .u64 acc (IntKind.u64.wrap ((2 : Int) ^ k)) = ((accW f (k + 1) : Nat) : Int) := by
  rw [← h]; exact accW_or f k hk hf
theorem acc_not {f : Nat → Bool} {k : Nat} {acc : Int} (h : ((accW f k : Nat) : Int) = acc) (hf : f k = false) : acc = ((accW f (k + 1) : Nat) : Int) := by
  rw [← h, accW_not f k hf]

theorem upF_zero {b c s : Int} {k : Nat} (h1 : (k : Int) ≤ s) (h2 : k = 0) : upF b c s k = true := by simp [upF, h2]; omega
theorem upF_in {b c s : Int} {k : Nat} {t : Bool} (h1 : (k : Int) ≤ s) (h2 : ¬ k = 0) (h3 : s - k ≤ b) (h4 : tb c (b - (s - k)) = t) : upF b c s k = t := by
  simp only [upF, if_pos h1, if_neg (show ¬ (k : Int) = 0 by omega), decide_eq_true h3, h4, Bool.true_and]
theorem upF_out {b c s : Int} {k : Nat} (h1 : (k : Int) ≤ s) (h2 : ¬ k = 0) (h3 : ¬ s - k ≤ b) : upF b c s k = false := by
  simp only [upF, if_pos h1, if_neg (show ¬ (k : Int) = 0 by omega), decide_eq_false h3, Bool.false_and]
theorem upF_past {b c s : Int} {k : Nat} {t : Bool} (h1 : ¬ (k : Int) ≤ s) (h4 : tb c (k - (s - b)) = t) : upF b c s k = t := by
  simp only [upF, if_neg h1, h4]

set_option maxHeartbeats 1000000 in
theorem model_up (a b c s : Int) (w : World) (hb0 : 0 ≤ b) (hb1 : b ≤ 18446744073709551615) (hc0 : 0 ≤ c) (hc1 : c ≤ 18446744073709551615) (hs1 : s ≤ 18446744073709551615) (h : b < s) :
    Calls Try.prog 12 #[.int .u64 a, .int .u64 b, .int .u64 c, .int .u64 a, .int .u64 s] w fun e w' => e = .returned (.tuple #[.bool true, .int .u64 a, .int .u64 s, .int .u64 ((accW (upF b c s) 64 : Nat) : Int)]) ∧ w = w' := by
  have e1 : decide (s ≤ b) = false := by simp; omega
  go_enter Try.func12, Try.ntmps12
  go_wp2
  clear e1
  go_loop [17, 18, 19, 20] (fun v i _ _ => ∃ k : Nat, k ≤ 64 ∧ i = .int .u64 k ∧ v = .int .u64 ((accW (upF b c s) k : Nat) : Int)) (fun _ i _ _ => 64 - (intOf i).toNat)
  case atStart => exact ⟨0, by omega, rfl, rfl⟩
  case round =>
    obtain ⟨k, hk, rfl, rfl⟩ := hrel
    by_cases hlt : k < 64
    · generalize hacc : ((accW (upF b c s) k : Nat) : Int) = acc
      have HA : Hid (((accW (upF b c s) k : Nat) : Int) = acc) := hacc
      clear hacc
      by_cases q1 : (k : Int) ≤ s
      · by_cases q2 : k = 0
        · have t1 : (s - (k : Int) == s) = true := beq_iff_eq.2 (by omega)
          have Q2 : Hid (k = 0) := q2
          clear q2
          go_wp2
          go_round
          case rel => exact ⟨k + 1, by omega, by go_num, val_eq (acc_set HA.out hlt (upF_zero (by omega) Q2.out))⟩
          case measure => simp [intOf]; omega
        · have t1 : (s - (k : Int) == s) = false := beq_eq_false_iff_ne.2 (by omega)
          by_cases q3 : s - (k : Int) ≤ b
          · have q4 : b - (s - (k : Int)) < 64 := by omega
            cases hT : tb c (b - (s - (k : Int))) with
            | true =>
              go_wp2_with (go_at_call 19; refine (bit_any c _ _ hc0 hc1 (by omega) (by omega)).mono ?_; rintro e w' ⟨rfl, rfl⟩)
              go_round
              case rel => exact ⟨k + 1, by omega, by go_num, val_eq (acc_set HA.out hlt (upF_in (by omega) q2 (by omega) hT))⟩
              case measure => simp [intOf]; omega
            | false =>
              go_wp2_with (go_at_call 19; refine (bit_any c _ _ hc0 hc1 (by omega) (by omega)).mono ?_; rintro e w' ⟨rfl, rfl⟩)
              go_round
              case rel => exact ⟨k + 1, by omega, by go_num, val_eq (acc_not HA.out (upF_in (by omega) q2 (by omega) hT))⟩
              case measure => simp [intOf]; omega
          · go_wp2_with (go_at_call 19; refine (bit_any c _ _ hc0 hc1 (by omega) (by omega)).mono ?_; rintro e w' ⟨rfl, rfl⟩)
            go_round
            case rel => exact ⟨k + 1, by omega, by go_num, val_eq (acc_not HA.out (upF_out (by omega) q2 (by omega)))⟩
            case measure => simp [intOf]; omega
      · cases hT : tb c ((k : Int) - (s - b)) with
        | true =>
          go_wp2_with (go_at_call 19; refine (bit_any c _ _ hc0 hc1 (by omega) (by omega)).mono ?_; rintro e w' ⟨rfl, rfl⟩)
          go_round
          case rel => exact ⟨k + 1, by omega, by go_num, val_eq (acc_set HA.out hlt (upF_past (by omega) hT))⟩
          case measure => simp [intOf]; omega
        | false =>
          go_wp2_with (go_at_call 19; refine (bit_any c _ _ hc0 hc1 (by omega) (by omega)).mono ?_; rintro e w' ⟨rfl, rfl⟩)
          go_round
          case rel => exact ⟨k + 1, by omega, by go_num, val_eq (acc_not HA.out (upF_past (by omega) hT))⟩
          case measure => simp [intOf]; omega
    · obtain rfl : k = 64 := by omega
      go_wp2
      refine bodyPost_ret (v := .tuple #[.bool true, .int .u64 a, .int .u64 s, .int .u64 ((accW (upF b c s) 64 : Nat) : Int)]) (by simp [results, Try.results12, go_sem]) rfl ?_
      exact ⟨rfl, rfl⟩

def loF (b c s : Int) (j : Nat) : Bool := if (j : Int) ≤ b then (if b - j = s then true else tb c j) else tb c j

theorem loF_at {b c s : Int} {k : Nat} (h1 : (k : Int) ≤ b) (h2 : b - k = s) : loF b c s k = true := by simp only [loF, if_pos h1, if_pos h2]
theorem loF_in {b c s : Int} {k : Nat} {t : Bool} (h2 : ¬ b - (k : Int) = s) (h4 : tb c k = t) : loF b c s k = t := by
  simp only [loF, if_neg h2, h4]; split <;> rfl
theorem loF_past {b c s : Int} {k : Nat} {t : Bool} (h1 : ¬ (k : Int) ≤ b) (h4 : tb c k = t) : loF b c s k = t := by
  simp only [loF, if_neg h1, h4]

set_option maxHeartbeats 1000000 in
theorem model_far (a b c s : Int) (w : World) (hb0 : 0 ≤ b) (hb1 : b ≤ 18446744073709551615) (hc0 : 0 ≤ c) (hc1 : c ≤ 18446744073709551615) (hs0 : 0 ≤ s) (h : s ≤ b) (hf : 64 ≤ b - s) :
    Calls Try.prog 12 #[.int .u64 a, .int .u64 b, .int .u64 c, .int .u64 a, .int .u64 s] w fun e w' => e = .returned (.tuple #[.bool false, .int .u64 a, .int .u64 b, .int .u64 ((accW (loF b c s) 64 : Nat) : Int)]) ∧ w = w' := by
  have e1 : decide (s ≤ b) = true := by simp; omega
  have e2 : decide (b < s) = false := by simp; omega
  have e3 : decide ((64 : Int) ≤ b - s) = true := by simp; omega
  have e4 : True := trivial
  go_enter Try.func12, Try.ntmps12
  go_wp2
  clear e1 e2 e3 e4
  go_loop [17, 18, 19, 20] (fun v i _ _ => ∃ k : Nat, k ≤ 64 ∧ i = .int .u64 k ∧ v = .int .u64 ((accW (loF b c s) k : Nat) : Int)) (fun _ i _ _ => 64 - (intOf i).toNat)
  case atStart => exact ⟨0, by omega, rfl, rfl⟩
  case round =>
    obtain ⟨k, hk, rfl, rfl⟩ := hrel
    by_cases hlt : k < 64
    · generalize hacc : ((accW (loF b c s) k : Nat) : Int) = acc
      have HA : Hid (((accW (loF b c s) k : Nat) : Int) = acc) := hacc
      clear hacc
      by_cases q1 : (k : Int) ≤ b
      · by_cases q2 : b - (k : Int) = s
        · have t1 : (b - (k : Int) == s) = true := beq_iff_eq.2 q2
          have Q2 : Hid (b - (k : Int) = s) := q2
          clear q2
          go_wp2
          go_round
          case rel => exact ⟨k + 1, by omega, by go_num, val_eq (acc_set HA.out hlt (loF_at (by omega) Q2.out))⟩
          case measure => simp [intOf]; omega
        · have t1 : (b - (k : Int) == s) = false := beq_eq_false_iff_ne.2 q2
          have e5 : b - (b - (k : Int)) = (k : Int) := by omega
          cases hT : tb c (k : Int) with
          | true =>
            go_wp2_with (go_at_call 19; refine (bit_any c _ _ hc0 hc1 (by omega) (by omega)).mono ?_; rintro e w' ⟨rfl, rfl⟩)
            go_round
            case rel => exact ⟨k + 1, by omega, by go_num, val_eq (acc_set HA.out hlt (loF_in q2 hT))⟩
            case measure => simp [intOf]; omega
          | false =>
            go_wp2_with (go_at_call 19; refine (bit_any c _ _ hc0 hc1 (by omega) (by omega)).mono ?_; rintro e w' ⟨rfl, rfl⟩)
            go_round
            case rel => exact ⟨k + 1, by omega, by go_num, val_eq (acc_not HA.out (loF_in q2 hT))⟩
            case measure => simp [intOf]; omega
      · exfalso; omega
    · obtain rfl : k = 64 := by omega
      go_wp2
      refine bodyPost_ret (v := .tuple #[.bool false, .int .u64 a, .int .u64 b, .int .u64 ((accW (loF b c s) 64 : Nat) : Int)]) (by simp [results, Try.results12, go_sem]) rfl ?_
      exact ⟨rfl, rfl⟩

set_option maxHeartbeats 1000000 in
theorem model_seen (a b c s : Int) (w : World) (hb0 : 0 ≤ b) (hb1 : b ≤ 18446744073709551615) (hc0 : 0 ≤ c) (hc1 : c ≤ 18446744073709551615) (hs0 : 0 ≤ s) (h : s ≤ b) (hf : b - s < 64) (ht : tb c (b - s) = true) :
    Calls Try.prog 12 #[.int .u64 a, .int .u64 b, .int .u64 c, .int .u64 a, .int .u64 s] w fun e w' => e = .returned (.tuple #[.bool false, .int .u64 a, .int .u64 b, .int .u64 ((accW (loF b c s) 64 : Nat) : Int)]) ∧ w = w' := by
  have e1 : decide (s ≤ b) = true := by simp; omega
  have e2 : decide (b < s) = false := by simp; omega
  have e3 : decide ((64 : Int) ≤ b - s) = false := by simp; omega
  have e4 : True := trivial
  go_enter Try.func12, Try.ntmps12
  go_wp2_with (go_at_call 19; refine (bit_any c _ _ hc0 hc1 (by omega) (by omega)).mono ?_; rintro e w' ⟨rfl, rfl⟩)
  clear e1 e2 e3 e4
  go_loop [17, 18, 19, 20] (fun v i _ _ => ∃ k : Nat, k ≤ 64 ∧ i = .int .u64 k ∧ v = .int .u64 ((accW (loF b c s) k : Nat) : Int)) (fun _ i _ _ => 64 - (intOf i).toNat)
  case atStart => exact ⟨0, by omega, rfl, rfl⟩
  case round =>
    obtain ⟨k, hk, rfl, rfl⟩ := hrel
    by_cases hlt : k < 64
    · generalize hacc : ((accW (loF b c s) k : Nat) : Int) = acc
      have HA : Hid (((accW (loF b c s) k : Nat) : Int) = acc) := hacc
      clear hacc
      by_cases q1 : (k : Int) ≤ b
      · by_cases q2 : b - (k : Int) = s
        · have t1 : (b - (k : Int) == s) = true := beq_iff_eq.2 q2
          have Q2 : Hid (b - (k : Int) = s) := q2
          clear q2
          go_wp2
          go_round
          case rel => exact ⟨k + 1, by omega, by go_num, val_eq (acc_set HA.out hlt (loF_at (by omega) Q2.out))⟩
          case measure => simp [intOf]; omega
        · have t1 : (b - (k : Int) == s) = false := beq_eq_false_iff_ne.2 q2
          have e5 : b - (b - (k : Int)) = (k : Int) := by omega
          cases hT : tb c (k : Int) with
          | true =>
            go_wp2_with (go_at_call 19; refine (bit_any c _ _ hc0 hc1 (by omega) (by omega)).mono ?_; rintro e w' ⟨rfl, rfl⟩)
            go_round
            case rel => exact ⟨k + 1, by omega, by go_num, val_eq (acc_set HA.out hlt (loF_in q2 hT))⟩
            case measure => simp [intOf]; omega
          | false =>
            go_wp2_with (go_at_call 19; refine (bit_any c _ _ hc0 hc1 (by omega) (by omega)).mono ?_; rintro e w' ⟨rfl, rfl⟩)
            go_round
            case rel => exact ⟨k + 1, by omega, by go_num, val_eq (acc_not HA.out (loF_in q2 hT))⟩
            case measure => simp [intOf]; omega
      · cases hT : tb c (k : Int) with
        | true =>
          go_wp2_with (go_at_call 19; refine (bit_any c _ _ hc0 hc1 (by omega) (by omega)).mono ?_; rintro e w' ⟨rfl, rfl⟩)
          go_round
          case rel => exact ⟨k + 1, by omega, by go_num, val_eq (acc_set HA.out hlt (loF_past (by omega) hT))⟩
          case measure => simp [intOf]; omega
        | false =>
          go_wp2_with (go_at_call 19; refine (bit_any c _ _ hc0 hc1 (by omega) (by omega)).mono ?_; rintro e w' ⟨rfl, rfl⟩)
          go_round
          case rel => exact ⟨k + 1, by omega, by go_num, val_eq (acc_not HA.out (loF_past (by omega) hT))⟩
          case measure => simp [intOf]; omega
    · obtain rfl : k = 64 := by omega
      go_wp2
      refine bodyPost_ret (v := .tuple #[.bool false, .int .u64 a, .int .u64 b, .int .u64 ((accW (loF b c s) 64 : Nat) : Int)]) (by simp [results, Try.results12, go_sem]) rfl ?_
      exact ⟨rfl, rfl⟩

set_option maxHeartbeats 1000000 in
theorem model_fresh (a b c s : Int) (w : World) (hb0 : 0 ≤ b) (hb1 : b ≤ 18446744073709551615) (hc0 : 0 ≤ c) (hc1 : c ≤ 18446744073709551615) (hs0 : 0 ≤ s) (h : s ≤ b) (hf : b - s < 64) (ht : tb c (b - s) = false) :
    Calls Try.prog 12 #[.int .u64 a, .int .u64 b, .int .u64 c, .int .u64 a, .int .u64 s] w fun e w' => e = .returned (.tuple #[.bool true, .int .u64 a, .int .u64 b, .int .u64 ((accW (loF b c s) 64 : Nat) : Int)]) ∧ w = w' := by
  have e1 : decide (s ≤ b) = true := by simp; omega
  have e2 : decide (b < s) = false := by simp; omega
  have e3 : decide ((64 : Int) ≤ b - s) = false := by simp; omega
  have e4 : True := trivial
  go_enter Try.func12, Try.ntmps12
  go_wp2_with (go_at_call 19; refine (bit_any c _ _ hc0 hc1 (by omega) (by omega)).mono ?_; rintro e w' ⟨rfl, rfl⟩)
  clear e1 e2 e3 e4
  go_loop [17, 18, 19, 20] (fun v i _ _ => ∃ k : Nat, k ≤ 64 ∧ i = .int .u64 k ∧ v = .int .u64 ((accW (loF b c s) k : Nat) : Int)) (fun _ i _ _ => 64 - (intOf i).toNat)
  case atStart => exact ⟨0, by omega, rfl, rfl⟩
  case round =>
    obtain ⟨k, hk, rfl, rfl⟩ := hrel
    by_cases hlt : k < 64
    · generalize hacc : ((accW (loF b c s) k : Nat) : Int) = acc
      have HA : Hid (((accW (loF b c s) k : Nat) : Int) = acc) := hacc
      clear hacc
      by_cases q1 : (k : Int) ≤ b
      · by_cases q2 : b - (k : Int) = s
        · have t1 : (b - (k : Int) == s) = true := beq_iff_eq.2 q2
          have Q2 : Hid (b - (k : Int) = s) := q2
          clear q2
          go_wp2
          go_round
          case rel => exact ⟨k + 1, by omega, by go_num, val_eq (acc_set HA.out hlt (loF_at (by omega) Q2.out))⟩
          case measure => simp [intOf]; omega
        · have t1 : (b - (k : Int) == s) = false := beq_eq_false_iff_ne.2 q2
          have e5 : b - (b - (k : Int)) = (k : Int) := by omega
          cases hT : tb c (k : Int) with
          | true =>
            go_wp2_with (go_at_call 19; refine (bit_any c _ _ hc0 hc1 (by omega) (by omega)).mono ?_; rintro e w' ⟨rfl, rfl⟩)
            go_round
            case rel => exact ⟨k + 1, by omega, by go_num, val_eq (acc_set HA.out hlt (loF_in q2 hT))⟩
            case measure => simp [intOf]; omega
          | false =>
            go_wp2_with (go_at_call 19; refine (bit_any c _ _ hc0 hc1 (by omega) (by omega)).mono ?_; rintro e w' ⟨rfl, rfl⟩)
            go_round
            case rel => exact ⟨k + 1, by omega, by go_num, val_eq (acc_not HA.out (loF_in q2 hT))⟩
            case measure => simp [intOf]; omega
      · cases hT : tb c (k : Int) with
        | true =>
          go_wp2_with (go_at_call 19; refine (bit_any c _ _ hc0 hc1 (by omega) (by omega)).mono ?_; rintro e w' ⟨rfl, rfl⟩)
          go_round
          case rel => exact ⟨k + 1, by omega, by go_num, val_eq (acc_set HA.out hlt (loF_past (by omega) hT))⟩
          case measure => simp [intOf]; omega
        | false =>
          go_wp2_with (go_at_call 19; refine (bit_any c _ _ hc0 hc1 (by omega) (by omega)).mono ?_; rintro e w' ⟨rfl, rfl⟩)
          go_round
          case rel => exact ⟨k + 1, by omega, by go_num, val_eq (acc_not HA.out (loF_past (by omega) hT))⟩
          case measure => simp [intOf]; omega
    · obtain rfl : k = 64 := by omega
      go_wp2
      refine bodyPost_ret (v := .tuple #[.bool true, .int .u64 a, .int .u64 b, .int .u64 ((accW (loF b c s) 64 : Nat) : Int)]) (by simp [results, Try.results12, go_sem]) rfl ?_
      exact ⟨rfl, rfl⟩

end Go.Proofs.Qxb6602746a.modelkit
