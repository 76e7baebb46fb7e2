import Derived.Test.Qxb6601003aHex
namespace Go.Proofs.Qxb6601003a.foldkit
open Go.ChangeShapes Go.WideShapes Go.ChangeAt Go.RowKit
open hexkit
set_option linter.unusedVariables false

theorem hex_val (c d : Int) (w : World) (h0 : 0 ≤ c) (h1 : c ≤ 255) (hd : hexd c = d) :
    Calls Try.prog 9 #[.int .u8 c] w fun e w' => e = .returned (.int .i32 d) ∧ w' = w := by
  rw [← hd]; exact hex_any c w h0 h1

theorem fold_up (c : Int) (h0 : 65 ≤ c) (h1 : c ≤ 90) : hexd (c + 32) = hexd c := by
  unfold hexd; (repeat' split) <;> omega
theorem fold_lo (c : Int) (h0 : 97 ≤ c) (h1 : c ≤ 122) : hexd (c - 32) = hexd c := by
  unfold hexd; (repeat' split) <;> omega
theorem back (c : Int) (n : Nat) (hn : hexd c = n) (h : ¬ (65 ≤ c ∧ c ≤ 90)) : (((if n < 10 then 48 + n else 87 + n : Nat) : Int)) = c := by
  unfold hexd at hn; split <;> (repeat' split at hn) <;> omega
theorem back' (c : Int) (n : Nat) (hn : hexd c = n) (h : (65 ≤ c ∧ c ≤ 90)) : (((if n < 10 then 48 + n else 87 + n : Nat) : Int)) = c + 32 := by
  unfold hexd at hn; split <;> (repeat' split at hn) <;> omega

theorem low_ne (c : Int) (n : Nat) (hb : n < (ByteArray.mk #[48, 49, 50, 51, 52, 53, 54, 55, 56, 57, 97, 98, 99, 100, 101, 102]).size)
    (hx : (((if n < 10 then 48 + n else 87 + n : Nat) : Int)) = c)
    (h : (((((ByteArray.mk #[48, 49, 50, 51, 52, 53, 54, 55, 56, 57, 97, 98, 99, 100, 101, 102])[n]'hb).toNat : Nat) : Int) != c) = true) : False := by
  rw [low_at, bne_iff_ne] at h
  exact h hx

set_option maxHeartbeats 400000 in
theorem upper_pos (c : Int) (n : Nat) (w : World) (h0 : 65 ≤ c) (h1 : c ≤ 90) (hn : n < 16) (H : Hid (hexd c = n)) :
    Calls Try.prog 4 #[.int .u8 c] w fun e w' => e = .returned (.bool true) ∧ w' = w := by
  go_enter Try.func4, Try.ntmps4
  go_wp2_with fail
  refine (hex_val c n _ (by omega) (by omega) H.out).mono ?_
  rintro e w' ⟨rfl, rfl⟩
  go_wp2_with fail
  all_goals
    refine (hex_val (c + 32) n _ (by omega) (by omega) (by rw [fold_up c h0 h1]; exact H.out)).mono ?_
    rintro e w' ⟨rfl, rfl⟩
    go_wp2_with fail
  all_goals
    refine (hex_val c n _ (by omega) (by omega) H.out).mono ?_
    rintro e w' ⟨rfl, rfl⟩
    go_wp2
  all_goals
    first
      | (rename_i h; exact (low_ne _ n _ (back' c n H.out ⟨h0, h1⟩) h).elim)
      | (go_ret; exact ⟨rfl, rfl⟩)

set_option maxHeartbeats 400000 in
theorem upper_neg (c : Int)  (w : World) (h0 : 65 ≤ c) (h1 : c ≤ 90) (H : Hid (hexd c = (-1))) :
    Calls Try.prog 4 #[.int .u8 c] w fun e w' => e = .returned (.bool true) ∧ w' = w := by
  go_enter Try.func4, Try.ntmps4
  go_wp2_with fail
  refine (hex_val c (-1) _ (by omega) (by omega) H.out).mono ?_
  rintro e w' ⟨rfl, rfl⟩
  go_wp2_with fail
  all_goals
    refine (hex_val (c + 32) (-1) _ (by omega) (by omega) (by rw [fold_up c h0 h1]; exact H.out)).mono ?_
    rintro e w' ⟨rfl, rfl⟩
    go_wp2_with fail
  all_goals
    refine (hex_val c (-1) _ (by omega) (by omega) H.out).mono ?_
    rintro e w' ⟨rfl, rfl⟩
    go_wp2
  all_goals
    go_ret
    exact ⟨rfl, rfl⟩

set_option maxHeartbeats 400000 in
theorem lower_pos (c : Int) (n : Nat) (w : World) (h0 : 97 ≤ c) (h1 : c ≤ 122) (hn : n < 16) (H : Hid (hexd c = n)) :
    Calls Try.prog 4 #[.int .u8 c] w fun e w' => e = .returned (.bool true) ∧ w' = w := by
  go_enter Try.func4, Try.ntmps4
  go_wp2_with fail
  refine (hex_val c n _ (by omega) (by omega) H.out).mono ?_
  rintro e w' ⟨rfl, rfl⟩
  go_wp2_with fail
  all_goals
    refine (hex_val c n _ (by omega) (by omega) H.out).mono ?_
    rintro e w' ⟨rfl, rfl⟩
    go_wp2_with fail
  all_goals
    refine (hex_val (c - 32) n _ (by omega) (by omega) (by rw [fold_lo c h0 h1]; exact H.out)).mono ?_
    rintro e w' ⟨rfl, rfl⟩
    go_wp2
  all_goals
    first
      | (rename_i h; exact (low_ne _ n _ (back c n H.out (by omega)) h).elim)
      | (go_ret; exact ⟨rfl, rfl⟩)

set_option maxHeartbeats 400000 in
theorem lower_neg (c : Int)  (w : World) (h0 : 97 ≤ c) (h1 : c ≤ 122) (H : Hid (hexd c = (-1))) :
    Calls Try.prog 4 #[.int .u8 c] w fun e w' => e = .returned (.bool true) ∧ w' = w := by
  go_enter Try.func4, Try.ntmps4
  go_wp2_with fail
  refine (hex_val c (-1) _ (by omega) (by omega) H.out).mono ?_
  rintro e w' ⟨rfl, rfl⟩
  go_wp2_with fail
  all_goals
    refine (hex_val c (-1) _ (by omega) (by omega) H.out).mono ?_
    rintro e w' ⟨rfl, rfl⟩
    go_wp2_with fail
  all_goals
    refine (hex_val (c - 32) (-1) _ (by omega) (by omega) (by rw [fold_lo c h0 h1]; exact H.out)).mono ?_
    rintro e w' ⟨rfl, rfl⟩
    go_wp2
  all_goals
    go_ret
    exact ⟨rfl, rfl⟩

set_option maxHeartbeats 400000 in
theorem o1_pos (c : Int) (n : Nat) (w : World) (h0 : 0 ≤ c) (h1 : c < 65) (hn : n < 16) (H : Hid (hexd c = n)) :
    Calls Try.prog 4 #[.int .u8 c] w fun e w' => e = .returned (.bool true) ∧ w' = w := by
  go_enter Try.func4, Try.ntmps4
  go_wp2_with fail
  refine (hex_val c n _ (by omega) (by omega) H.out).mono ?_
  rintro e w' ⟨rfl, rfl⟩
  go_wp2_with fail
  all_goals
    refine (hex_val c n _ (by omega) (by omega) H.out).mono ?_
    rintro e w' ⟨rfl, rfl⟩
    go_wp2_with fail
  all_goals
    refine (hex_val c n _ (by omega) (by omega) H.out).mono ?_
    rintro e w' ⟨rfl, rfl⟩
    go_wp2
  all_goals
    first
      | (rename_i h; exact (low_ne _ n _ (back c n H.out (by omega)) h).elim)
      | (go_ret; exact ⟨rfl, rfl⟩)

set_option maxHeartbeats 400000 in
theorem o1_neg (c : Int)  (w : World) (h0 : 0 ≤ c) (h1 : c < 65) (H : Hid (hexd c = (-1))) :
    Calls Try.prog 4 #[.int .u8 c] w fun e w' => e = .returned (.bool true) ∧ w' = w := by
  go_enter Try.func4, Try.ntmps4
  go_wp2_with fail
  refine (hex_val c (-1) _ (by omega) (by omega) H.out).mono ?_
  rintro e w' ⟨rfl, rfl⟩
  go_wp2_with fail
  all_goals
    refine (hex_val c (-1) _ (by omega) (by omega) H.out).mono ?_
    rintro e w' ⟨rfl, rfl⟩
    go_wp2_with fail
  all_goals
    refine (hex_val c (-1) _ (by omega) (by omega) H.out).mono ?_
    rintro e w' ⟨rfl, rfl⟩
    go_wp2
  all_goals
    go_ret
    exact ⟨rfl, rfl⟩

set_option maxHeartbeats 400000 in
theorem o2_pos (c : Int) (n : Nat) (w : World) (h0 : 90 < c) (h1 : c < 97) (hn : n < 16) (H : Hid (hexd c = n)) :
    Calls Try.prog 4 #[.int .u8 c] w fun e w' => e = .returned (.bool true) ∧ w' = w := by
  go_enter Try.func4, Try.ntmps4
  go_wp2_with fail
  refine (hex_val c n _ (by omega) (by omega) H.out).mono ?_
  rintro e w' ⟨rfl, rfl⟩
  go_wp2_with fail
  all_goals
    refine (hex_val c n _ (by omega) (by omega) H.out).mono ?_
    rintro e w' ⟨rfl, rfl⟩
    go_wp2_with fail
  all_goals
    refine (hex_val c n _ (by omega) (by omega) H.out).mono ?_
    rintro e w' ⟨rfl, rfl⟩
    go_wp2
  all_goals
    first
      | (rename_i h; exact (low_ne _ n _ (back c n H.out (by omega)) h).elim)
      | (go_ret; exact ⟨rfl, rfl⟩)

set_option maxHeartbeats 400000 in
theorem o2_neg (c : Int)  (w : World) (h0 : 90 < c) (h1 : c < 97) (H : Hid (hexd c = (-1))) :
    Calls Try.prog 4 #[.int .u8 c] w fun e w' => e = .returned (.bool true) ∧ w' = w := by
  go_enter Try.func4, Try.ntmps4
  go_wp2_with fail
  refine (hex_val c (-1) _ (by omega) (by omega) H.out).mono ?_
  rintro e w' ⟨rfl, rfl⟩
  go_wp2_with fail
  all_goals
    refine (hex_val c (-1) _ (by omega) (by omega) H.out).mono ?_
    rintro e w' ⟨rfl, rfl⟩
    go_wp2_with fail
  all_goals
    refine (hex_val c (-1) _ (by omega) (by omega) H.out).mono ?_
    rintro e w' ⟨rfl, rfl⟩
    go_wp2
  all_goals
    go_ret
    exact ⟨rfl, rfl⟩

set_option maxHeartbeats 400000 in
theorem o3_pos (c : Int) (n : Nat) (w : World) (h0 : 122 < c) (h1 : c ≤ 255) (hn : n < 16) (H : Hid (hexd c = n)) :
    Calls Try.prog 4 #[.int .u8 c] w fun e w' => e = .returned (.bool true) ∧ w' = w := by
  go_enter Try.func4, Try.ntmps4
  go_wp2_with fail
  refine (hex_val c n _ (by omega) (by omega) H.out).mono ?_
  rintro e w' ⟨rfl, rfl⟩
  go_wp2_with fail
  all_goals
    refine (hex_val c n _ (by omega) (by omega) H.out).mono ?_
    rintro e w' ⟨rfl, rfl⟩
    go_wp2_with fail
  all_goals
    refine (hex_val c n _ (by omega) (by omega) H.out).mono ?_
    rintro e w' ⟨rfl, rfl⟩
    go_wp2
  all_goals
    first
      | (rename_i h; exact (low_ne _ n _ (back c n H.out (by omega)) h).elim)
      | (go_ret; exact ⟨rfl, rfl⟩)

set_option maxHeartbeats 400000 in
theorem o3_neg (c : Int)  (w : World) (h0 : 122 < c) (h1 : c ≤ 255) (H : Hid (hexd c = (-1))) :
    Calls Try.prog 4 #[.int .u8 c] w fun e w' => e = .returned (.bool true) ∧ w' = w := by
  go_enter Try.func4, Try.ntmps4
  go_wp2_with fail
  refine (hex_val c (-1) _ (by omega) (by omega) H.out).mono ?_
  rintro e w' ⟨rfl, rfl⟩
  go_wp2_with fail
  all_goals
    refine (hex_val c (-1) _ (by omega) (by omega) H.out).mono ?_
    rintro e w' ⟨rfl, rfl⟩
    go_wp2_with fail
  all_goals
    refine (hex_val c (-1) _ (by omega) (by omega) H.out).mono ?_
    rintro e w' ⟨rfl, rfl⟩
    go_wp2
  all_goals
    go_ret
    exact ⟨rfl, rfl⟩

theorem fold_any (c : Int) (w : World) (h0 : 0 ≤ c) (h1 : c ≤ 255) :
    Calls Try.prog 4 #[.int .u8 c] w fun e w' => e = .returned (.bool true) ∧ w' = w := by
  have hb := hexd_le c
  by_cases hp : 0 ≤ hexd c
  · obtain ⟨n, hn⟩ := Int.eq_ofNat_of_zero_le hp
    have hn16 : n < 16 := by omega
    by_cases c1 : c < 65
    · exact o1_pos c n w h0 c1 hn16 hn
    by_cases c2 : c ≤ 90
    · exact upper_pos c n w (by omega) c2 hn16 hn
    by_cases c3 : c < 97
    · exact o2_pos c n w (by omega) c3 hn16 hn
    by_cases c4 : c ≤ 122
    · exact lower_pos c n w (by omega) c4 hn16 hn
    · exact o3_pos c n w (by omega) h1 hn16 hn
  · have hn : hexd c = -1 := by omega
    by_cases c1 : c < 65
    · exact o1_neg c w h0 c1 hn
    by_cases c2 : c ≤ 90
    · exact upper_neg c w (by omega) c2 hn
    by_cases c3 : c < 97
    · exact o2_neg c w (by omega) c3 hn
    by_cases c4 : c ≤ 122
    · exact lower_neg c w (by omega) c4 hn
    · exact o3_neg c w (by omega) h1 hn

end Go.Proofs.Qxb6601003a.foldkit
