import Derived.Test.Qxb6602746aDirect
import Derived.Test.Qxb6602746aBitsN
import Derived.RegionTactic
import Derived.BigRegion
namespace Go.Proofs.Qxb6602746a.arrivekit
open Go.ChangeShapes Go.WideShapes Go.ChangeAt Go.RowKit
open directkit bitsn
set_option linter.unusedVariables false

theorem ret_bool {a b : Bool} (h : a = b) : Ending.returned (.bool a) = .returned (.bool b) := by rw [h]

set_option maxHeartbeats 400000 in
theorem bit_any (c x : Int) (w : World) (c0 : 0 ≤ c) (c1 : c ≤ 18446744073709551615) (x0 : 0 ≤ x) (x1 : x < 64) :
    Calls Try.prog 19 #[.int .u64 c, .int .u64 x] w fun e w' => e = .returned (.bool (tb c x)) ∧ w = w' := by
  go_enter Try.func19, Try.ntmps19
  go_wp2
  go_ret
  exact ⟨ret_bool (bit_is c x c0 c1), rfl⟩

theorem makeA_any (a b c : Int) (w : World) :
    Calls Try.prog 9 #[.int .u64 a, .int .u64 b, .int .u64 c] w fun e w' => e = .returned (.pointer (some ⟨w.heap.size, 0, none⟩)) ∧ w' = w.alloc (.cells #[.int .u64 a, .int .u64 b, .int .u64 c] 37) := by
  go_enter Try.func9, Try.ntmps9
  go_wp2
  go_ret
  exact ⟨rfl, rfl⟩

theorem ownA_new (w : World) (a b c : Int) : Own3 (w.alloc (.cells #[.int .u64 a, .int .u64 b, .int .u64 c] 37)) w.heap.size a b c := by
  refine ⟨⟨?_, ?_, ?_⟩, ?_, ?_, ?_⟩ <;> simp

theorem stateA_any (B : Nat) (a b c : Int) (w : World) (h0 : w.cell? ⟨B, 0, none⟩ = some (.int .u64 a)) (h1 : w.cell? ⟨B, 1, none⟩ = some (.int .u64 b)) (h2 : w.cell? ⟨B, 2, none⟩ = some (.int .u64 c)) :
    Calls Try.prog 11 #[.pointer (some ⟨B, 0, none⟩)] w fun e w' => e = .returned (.tuple #[.int .u64 a, .int .u64 b, .int .u64 c]) ∧ ∃ k, w' = w.drewN k := by
  go_enter Try.func11, Try.ntmps11
  go_wp2
  go_quiet (fail)
  go_wp2
  go_ret3
  exact ⟨rfl, _, rfl⟩

def ToldA (B : Nat) (w : World) (r : Bool) (a b c : Int) (e : Ending) (w' : World) : Prop := e = .returned (.bool r) ∧ Below B w w' ∧ Row3 w' B a b c

set_option maxHeartbeats 400000 in
theorem first_old (B : Nat) (a b c i s : Int) (w : World) (h : Own3 w B a b c) (hi : i < a) :
    Calls Try.prog 10 #[.pointer (some ⟨B, 0, none⟩), .int .u64 i, .int .u64 s] w (ToldA B w false a b c) := by
  have H : Hid (Row3 w B a b c) := h.1
  obtain ⟨⟨h0, h1, h2⟩, f0, f1, f2⟩ := h
  go_enter Try.func10, Try.ntmps10
  go_wp2
  go_ret
  exact ⟨rfl, Below.refl _ _, H.out⟩

set_option maxHeartbeats 400000 in
theorem first_new (B : Nat) (a b c i s : Int) (w : World) (h : Own3 w B a b c) (hi : a < i) :
    Calls Try.prog 10 #[.pointer (some ⟨B, 0, none⟩), .int .u64 i, .int .u64 s] w (ToldA B w true i s 1) := by
  have H : Hid (Row3 w B a b c) := h.1
  obtain ⟨⟨h0, h1, h2⟩, f0, f1, f2⟩ := h
  go_enter Try.func10, Try.ntmps10
  go_wp2
  go_ret
  exact ⟨rfl, ((below_set _ _).trans (below_set _ _)).trans (below_set _ _), set2 (set1 (set0 H.out _) _) _⟩

theorem row_drew {w : World} {B : Nat} {a b c : Int} (h : Row3 w B a b c) : Row3 w.drew B a b c := h

theorem shl_far (c y : Int) (yk : IntKind) (hc : 0 ≤ c) (hy : 64 ≤ y) : Op.shift .shl .u64 c yk y = pure (.int .u64 0) := by
  have hn : min y.toNat IntKind.u64.bits = 64 := by
    have : IntKind.u64.bits = 64 := rfl
    rw [this]; omega
  have hneg : ¬ y < 0 := by omega
  simp only [Op.shift, if_neg hneg, hn]
  have : IntKind.u64.wrap (c * 2 ^ 64) = 0 := by
    rw [IntKind.wrap_u64]; omega
  rw [this]

theorem upN_far (c d : Nat) (h : 64 ≤ d) : upN c d = 1 := by
  unfold upN
  have : c * 2 ^ d % 18446744073709551616 = 0 := by
    have e : (2 : Nat) ^ d = 18446744073709551616 * 2 ^ (d - 64) := by
      rw [show (18446744073709551616 : Nat) = 2 ^ 64 by decide, ← Nat.pow_add]
      congr 1; omega
    rw [e, Nat.mul_left_comm]
    exact Nat.mul_mod_right _ _
  rw [this]; rfl

theorem or_zero_one : bits .or .u64 0 1 = 1 := by decide

set_option maxHeartbeats 400000 in
theorem first_up (B : Nat) (a b c s : Int) (w : World) (h : Own3 w B a b c) (hc : 0 ≤ c) (hb0 : 0 ≤ b) (hb : b < s) (hs : s ≤ 18446744073709551615) :
    Calls Try.prog 10 #[.pointer (some ⟨B, 0, none⟩), .int .u64 a, .int .u64 s] w (ToldA B w true a s ((upN c.toNat (s - b).toNat : Nat) : Int)) := by
  have H : Hid (Row3 w B a b c) := h.1
  obtain ⟨⟨h0, h1, h2⟩, f0, f1, f2⟩ := h
  by_cases hd : s - b ≤ 64
  · rw [← up_is c (s - b) hc]
    go_enter Try.func10, Try.ntmps10
    go_wp2
    go_region
    go_wp2
    go_ret
    exact ⟨rfl, ((below_set _ _).trans (below_set _ _)).drew, row_drew (set1 (set2 H.out _) _)⟩
  · rw [upN_far _ _ (by omega)]
    have hsh := shl_far c (s - b) .u64 hc (by omega)
    have ho := or_zero_one
    go_enter Try.func10, Try.ntmps10
    go_wp2
    go_region
    go_wp2
    go_ret
    exact ⟨rfl, ((below_set _ _).trans (below_set _ _)).drew, row_drew (set1 (set2 H.out _) _)⟩

set_option maxHeartbeats 400000 in
theorem first_far (B : Nat) (a b c s : Int) (w : World) (h : Own3 w B a b c) (hb : b ≤ 18446744073709551615) (hs0 : 0 ≤ s) (hs : 64 ≤ b - s) :
    Calls Try.prog 10 #[.pointer (some ⟨B, 0, none⟩), .int .u64 a, .int .u64 s] w (ToldA B w false a b c) := by
  have H : Hid (Row3 w B a b c) := h.1
  obtain ⟨⟨h0, h1, h2⟩, f0, f1, f2⟩ := h
  go_enter Try.func10, Try.ntmps10
  go_wp2
  go_ret
  exact ⟨rfl, Below.refl _ _, H.out⟩

set_option maxHeartbeats 400000 in
theorem first_seen (B : Nat) (a b c s : Int) (w : World) (h : Own3 w B a b c) (hc0 : 0 ≤ c) (hc1 : c ≤ 18446744073709551615) (hb : b ≤ 18446744073709551615) (hs0 : 0 ≤ s) (hs : b - s < 64) (hs1 : s ≤ b) (ht : tb c (b - s) = true) :
    Calls Try.prog 10 #[.pointer (some ⟨B, 0, none⟩), .int .u64 a, .int .u64 s] w (ToldA B w false a b c) := by
  have H : Hid (Row3 w B a b c) := h.1
  obtain ⟨⟨h0, h1, h2⟩, f0, f1, f2⟩ := h
  have hab := (and_bit c (b - s) hc0 hc1 (by omega) hs).trans ht
  have d1 : decide ((64 : Int) ≤ b - s) = false := by simp; omega
  clear ht
  go_enter Try.func10, Try.ntmps10
  go_wp2
  go_ret
  exact ⟨rfl, Below.refl _ _, H.out⟩

set_option maxHeartbeats 400000 in
theorem first_fresh (B : Nat) (a b c s : Int) (w : World) (h : Own3 w B a b c) (hc0 : 0 ≤ c) (hc1 : c ≤ 18446744073709551615) (hb : b ≤ 18446744073709551615) (hs0 : 0 ≤ s) (hs : b - s < 64) (hs1 : s ≤ b) (ht : tb c (b - s) = false) :
    Calls Try.prog 10 #[.pointer (some ⟨B, 0, none⟩), .int .u64 a, .int .u64 s] w (ToldA B w true a b ((c.toNat ||| 2 ^ (b - s).toNat : Nat) : Int)) := by
  have H : Hid (Row3 w B a b c) := h.1
  obtain ⟨⟨h0, h1, h2⟩, f0, f1, f2⟩ := h
  rw [← or_is c (b - s) hc0 hc1 (by omega) hs]
  have hab := (and_bit c (b - s) hc0 hc1 (by omega) hs).trans ht
  have d1 : decide ((64 : Int) ≤ b - s) = false := by simp; omega
  clear ht
  go_enter Try.func10, Try.ntmps10
  go_wp2
  go_ret
  exact ⟨rfl, below_set _ _, set2 H.out _⟩
end Go.Proofs.Qxb6602746a.arrivekit
