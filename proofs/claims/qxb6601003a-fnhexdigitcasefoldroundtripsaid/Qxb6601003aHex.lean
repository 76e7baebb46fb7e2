import Derived.Test.Qxb6601003aRows
import Derived.WalkKit
import Derived.ProofKit
import Derived.OpenShut
namespace Go.Proofs.Qxb6601003a.hexkit
open Go.ChangeShapes Go.WideShapes Go.ChangeAt Go.RowKit
set_option linter.unusedVariables false

def hexd (c : Int) : Int :=
  if 48 ≤ c ∧ c ≤ 57 then c - 48 else if 97 ≤ c ∧ c ≤ 102 then c - 87 else if 65 ≤ c ∧ c ≤ 70 then c - 55 else -1

theorem ret_int {k : IntKind} {a b : Int} (h : a = b) : Ending.returned (.int k a) = .returned (.int k b) := by rw [h]

set_option maxHeartbeats 400000 in
theorem hex_any (c : Int) (w : World) (h0 : 0 ≤ c) (h1 : c ≤ 255) :
    Calls Try.prog 9 #[.int .u8 c] w fun e w' => e = .returned (.int .i32 (hexd c)) ∧ w' = w := by
  go_enter Try.func9, Try.ntmps9
  go_wp2
  all_goals
    go_ret
    refine ⟨ret_int ?_, rfl⟩
    unfold hexd
    (repeat' split) <;> omega

theorem hexd_le (c : Int) : -1 ≤ hexd c ∧ hexd c ≤ 15 := by
  unfold hexd
  (repeat' split) <;> omega

theorem low_at (k : Nat) (hb : k < (ByteArray.mk #[48, 49, 50, 51, 52, 53, 54, 55, 56, 57, 97, 98, 99, 100, 101, 102]).size) :
    ((ByteArray.mk #[48, 49, 50, 51, 52, 53, 54, 55, 56, 57, 97, 98, 99, 100, 101, 102])[k]'hb).toNat = if k < 10 then 48 + k else 87 + k :=
  (by decide : ∀ k : Fin 16, ((ByteArray.mk #[48, 49, 50, 51, 52, 53, 54, 55, 56, 57, 97, 98, 99, 100, 101, 102])[k.1]'k.2).toNat = if k.1 < 10 then 48 + k.1 else 87 + k.1) ⟨k, hb⟩

theorem up_at (k : Nat) (hb : k < (ByteArray.mk #[48, 49, 50, 51, 52, 53, 54, 55, 56, 57, 65, 66, 67, 68, 69, 70]).size) :
    ((ByteArray.mk #[48, 49, 50, 51, 52, 53, 54, 55, 56, 57, 65, 66, 67, 68, 69, 70])[k]'hb).toNat = if k < 10 then 48 + k else 55 + k :=
  (by decide : ∀ k : Fin 16, ((ByteArray.mk #[48, 49, 50, 51, 52, 53, 54, 55, 56, 57, 65, 66, 67, 68, 69, 70])[k.1]'k.2).toNat = if k.1 < 10 then 48 + k.1 else 55 + k.1) ⟨k, hb⟩

theorem hit (c : Int) (k : Nat) (hk : k < 16) (h : (((if k < 10 then 48 + k else 87 + k : Nat) : Int) = c ∨ ((if k < 10 then 48 + k else 55 + k : Nat) : Int) = c)) : (k : Int) = hexd c := by
  unfold hexd
  by_cases h10 : k < 10 <;> simp only [h10, if_true, if_false] at h <;> (repeat' split) <;> omega

theorem miss (c : Int) (k : Nat) (hk : k < 16) (h1 : ¬ ((if k < 10 then 48 + k else 87 + k : Nat) : Int) = c) (h2 : ¬ ((if k < 10 then 48 + k else 55 + k : Nat) : Int) = c) (h : hexd c = -1 ∨ (k : Int) ≤ hexd c) : hexd c = -1 ∨ ((k + 1 : Nat) : Int) ≤ hexd c := by
  unfold hexd at *
  by_cases h10 : k < 10 <;> simp only [h10, if_true, if_false] at h1 h2 <;> (repeat' split at *) <;> omega

set_option maxHeartbeats 400000 in
theorem model_any (c : Int) (w : World) (h0 : 0 ≤ c) (h1 : c ≤ 255) :
    Calls Try.prog 10 #[.int .u8 c] w fun e w' => e = .returned (.int .i32 (hexd c)) ∧ w' = w := by
  go_enter Try.func10, Try.ntmps10
  go_wp2
  go_loop [3] (fun i => ∃ k : Nat, k ≤ 16 ∧ i = .int .i64 k ∧ (hexd c = -1 ∨ (k : Int) ≤ hexd c)) (fun i => 16 - (intOf i).toNat)
  case atStart => exact ⟨0, by omega, rfl, by have := hexd_le c; omega⟩
  case round =>
    obtain ⟨k, hk, rfl, hrel⟩ := hrel
    by_cases hlt : k < 16
    · go_wp2
      · go_ret
        rename_i h _
        rw [low_at] at h
        exact ⟨ret_int (hit c k hlt (Or.inl h)), rfl⟩
      · go_ret
        rename_i h1 h _
        rw [low_at] at h1
        rw [low_at, up_at, beq_iff_eq, beq_iff_eq] at h
        exact ⟨ret_int (hit c k hlt h), rfl⟩
      · go_round
        rename_i h1 h
        rw [low_at] at h1
        rw [up_at, beq_eq_false_iff_ne, beq_eq_false_iff_ne] at h
        case rel => exact ⟨k + 1, by omega, by go_num, miss c k hlt h1 h.2 hrel⟩
        case measure => simp [intOf]; omega
    · go_wp2
      go_ret
      exact ⟨ret_int (by have := hexd_le c; omega), rfl⟩
end Go.Proofs.Qxb6601003a.hexkit
