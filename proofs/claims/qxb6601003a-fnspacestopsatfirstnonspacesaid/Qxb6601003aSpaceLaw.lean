import Derived.Test.Qxb6601003aSpace
namespace Go.Proofs.Qxb6601003a.spacelaw
open Go.ChangeShapes Go.WideShapes Go.ChangeAt Go.RowKit
open byteskit spacekit
set_option linter.unusedVariables false

theorem ret_bool {a b : Bool} (h : a = b) : Ending.returned (.bool a) = .returned (.bool b) := by rw [h]

set_option maxHeartbeats 400000 in
theorem fits (a : Option Addr) (n c : Nat) (i : Int) (w : World) (hn : n ≤ 1048576) :
    Calls Try.prog 11 #[.slice a n c, .int .i64 i] w fun e w' => e = .returned (.bool true) ∧ w' = w := by
  go_enter Try.func11, Try.ntmps11
  go_wp2
  go_ret
  exact ⟨rfl, rfl⟩

set_option maxHeartbeats 400000 in
theorem too_long (a : Option Addr) (n c : Nat) (i : Int) (w : World) (hn : 1048576 < n) (hm : n ≤ maxLen) :
    Calls Try.prog 5 #[.slice a n c, .int .i64 i] w fun e w' => e = .returned (.bool true) ∧ Below w.heap.size w w' := by
  unfold maxLen at hm
  go_enter Try.func5, Try.ntmps5
  go_wp2
  go_ret
  exact ⟨rfl, Below.refl _ _⟩

set_option maxHeartbeats 400000 in
theorem negative (a : Option Addr) (n c : Nat) (i : Int) (w : World) (hn : n ≤ 1048576) (hi : i < 0) :
    Calls Try.prog 5 #[.slice a n c, .int .i64 i] w fun e w' => e = .returned (.bool true) ∧ Below w.heap.size w w' := by
  go_enter Try.func5, Try.ntmps5
  go_wp2
  go_ret
  exact ⟨rfl, Below.refl _ _⟩

set_option maxHeartbeats 400000 in
theorem of_nil (i : Int) (w : World) (hi : 0 ≤ i) :
    Calls Try.prog 5 #[.slice none 0 0, .int .i64 i] w fun e w' => e = .returned (.bool true) ∧ Below w.heap.size w w' := by
  go_enter Try.func5, Try.ntmps5
  go_wp2_with (first
    | (go_at_call 12; refine (clone_nil _).mono ?_; rintro e w' ⟨rfl, rfl⟩)
    | (go_at_call 13; refine (zspace_past none 0 0 i _ hi).mono ?_; rintro e w' ⟨rfl, hb⟩)
    | go_in)
  go_ret
  exact ⟨by simp, hb⟩

set_option maxHeartbeats 400000 in
theorem of_past (x : Addr) (zs : List Int) (c : Nat) (i : Int) (w : World) (hn : zs.length ≤ 1048576) (hi : (zs.length : Int) ≤ i)
    (hc : ∀ i, i < zs.length → w.cell? (x.add i) = some (.int .u8 (zs.getD i 0))) :
    Calls Try.prog 5 #[.slice (some x) zs.length c, .int .i64 i] w fun e w' => e = .returned (.bool true) ∧ Below w.heap.size w w' := by
  have HC : Hid (∀ i, i < zs.length → w.cell? (x.add i) = some (.int .u8 (zs.getD i 0))) := hc
  clear hc
  go_enter Try.func5, Try.ntmps5
  go_wp2_with (first
    | (go_at_call 12; refine (clone_some x zs c _ hn HC.out).mono ?_; rintro e w1 ⟨rfl, hown, hb1⟩)
    | (go_at_call 13; refine (zspace_past _ zs.length zs.length i _ hi).mono ?_; rintro e w2 ⟨rfl, hb2⟩)
    | go_in)
  go_ret
  exact ⟨by simp, hb1.trans (hb2.mono hb1.size)⟩

set_option maxHeartbeats 1000000 in
theorem of_from (x : Addr) (zs : List Int) (c : Nat) (i : Nat) (w : World) (hn : zs.length ≤ 1048576) (hi : i < zs.length)
    (hc : ∀ i, i < zs.length → w.cell? (x.add i) = some (.int .u8 (zs.getD i 0))) :
    Calls Try.prog 5 #[.slice (some x) zs.length c, .int .i64 i] w fun e w' => e = .returned (.bool true) ∧ Below w.heap.size w w' := by
  have HC : Hid (∀ i, i < zs.length → w.cell? (x.add i) = some (.int .u8 (zs.getD i 0))) := hc
  clear hc
  go_enter Try.func5, Try.ntmps5
  go_wp2_with fail
  refine (fits _ _ _ _ _ hn).mono ?_
  rintro e w' ⟨rfl, rfl⟩
  go_wp2_with fail
  refine (clone_some x zs c _ hn HC.out).mono ?_
  rintro e w1 ⟨rfl, hown, hb1⟩
  have hg : w'.heap.size < w1.heap.size := by
    have := hown.cellAt 0 (by omega)
    rw [List.getElem?_eq_getElem (by simp [vals]; omega)] at this
    exact World.block_lt_of_cell? _ _ this
  have HZ : Hid (∀ j, j < zs.length → w1.cell? ⟨w'.heap.size, j, none⟩ = some (.int .u8 (zs.getD j 0))) := fun j hj => by
    rw [hown.cellAt j (by omega), getD_at zs j hj]
    simp [vals, hj]
  clear hown
  go_wp2_with fail
  refine (zspace_from w'.heap.size zs zs.length i w1 hn hg HZ.out (by omega)).mono ?_
  rintro e w2 ⟨r, rfl, hb2, h1, h2, h4, h5⟩
  have HZ2 : Hid (∀ j, j < zs.length → w2.cell? ⟨w'.heap.size, j, none⟩ = some (.int .u8 (zs.getD j 0))) := fun j hj => (hb2.cell (p := ⟨w'.heap.size, j, none⟩) hg).trans (HZ.out j hj)
  have H4 : Hid (∀ j, i ≤ j → j < r → spB (zs.getD j 0) = true) := h4
  have H5 : Hid (r < zs.length → spB (zs.getD r 0) = false) := h5
  clear h4 h5
  have HB : Hid (Below w'.heap.size w' w2) := hb1.trans (hb2.mono hb1.size)
  clear hb1 hb2 HZ HC
  have d1 : decide (r < i) = false := by simp; omega
  have d2 : decide (zs.length < r) = false := by simp; omega
  have d3 : decide ((r : Int) < (i : Int)) = false := by simp; omega
  have d4 : decide ((zs.length : Int) < (r : Int)) = false := by simp; omega
  have d5 : decide ((zs.length : Int) ≤ (i : Int)) = false := by simp; omega
  have d6 : decide (zs.length ≤ i) = false := by simp; omega
  go_wp2
  clear d1 d2 d3 d4 d5 d6
  go_loop [6] (fun v => ∃ k : Nat, i ≤ k ∧ k ≤ r ∧ v = .int .i64 k) (fun v => r - (intOf v).toNat)
  case atStart => exact ⟨i, Nat.le_refl _, h1, rfl⟩
  case round =>
    obtain ⟨k, hik, hkr, rfl⟩ := hrel
    by_cases hlt : k < r
    · have hkl : k < zs.length := by omega
      have hcz : w2.cell? ⟨w'.heap.size, k, none⟩ = some (.int .u8 zs[k]) := by rw [← getD_at zs k hkl]; exact HZ2.out k hkl
      have hsp : spB zs[k] = true := by rw [← getD_at zs k hkl]; exact H4.out k hik hlt
      go_wp2_with (go_at_call 14; refine (isspace_any _ _).mono ?_; rintro e w3 ⟨rfl, rfl⟩)
      go_round
      case rel => exact ⟨k + 1, by omega, by omega, by go_num⟩
      case measure => simp [intOf]; omega
    · by_cases hrl : r < zs.length
      · have hcz : w2.cell? ⟨w'.heap.size, r, none⟩ = some (.int .u8 zs[r]) := by rw [← getD_at zs r hrl]; exact HZ2.out r hrl
        have hsp : spB zs[r] = false := by rw [← getD_at zs r hrl]; exact H5.out hrl
        go_wp2_with (go_at_call 14; refine (isspace_any _ _).mono ?_; rintro e w3 ⟨rfl, rfl⟩)
        go_ret
        exact ⟨rfl, HB.out⟩
      · go_wp2_with (go_at_call 14; refine (isspace_any _ _).mono ?_; rintro e w3 ⟨rfl, rfl⟩)
        go_ret
        exact ⟨rfl, HB.out⟩
end Go.Proofs.Qxb6601003a.spacelaw
