import Derived.Test.Qxb6601003aKit
namespace Go.Proofs.Qxb6601003a
open Go.ChangeShapes Go.WideShapes Go.ChangeAt Go.RowKit
open byteskit bskit
set_option linter.unusedVariables false

structure BB where
  a : Option Addr
  n : Nat
  c : Nat
  K : Nat → BS

def BB.val (b : BB) : Value := .slice b.a b.n b.c
def BB.ok (w : World) (b : BB) : Prop :=
  (b.a = none → b.n = 0 ∧ b.c = 0) ∧ b.n ≤ b.c ∧ ∀ x, b.a = some x → ∀ i, i < b.n → w.cell? (x.add i) = some (b.K i).val ∧ (b.K i).ok w

namespace guardkit

theorem bb_cell {w : World} {b : BB} (h : b.ok w) {k : Nat} (hk : k < b.n) : ∃ x, b.a = some x ∧ w.cell? (x.add k) = some (.slice (b.K k).a (b.K k).zs.length (b.K k).c) := by
  cases ha : b.a with
  | none => have := (h.1 ha).1; omega
  | some x => exact ⟨x, rfl, (h.2.2 x ha k hk).1⟩

theorem dec_no {a b : Int} (h : ¬ a < b) : decide (a < b) = false := by simp; omega

def Ans (p : Prop) (e : Ending) : Prop := ∃ b : Bool, e = .returned (.bool b) ∧ (b = false → p)
theorem ans_any (b : Bool) : Ans True (.returned (.bool b)) := ⟨b, rfl, fun _ => trivial⟩
theorem ans_yes (p : Prop) : Ans p (.returned (.bool true)) := ⟨true, rfl, fun h => by cases h⟩
theorem ans_no {p : Prop} (h : p) : Ans p (.returned (.bool false)) := ⟨false, rfl, fun _ => h⟩

set_option maxHeartbeats 1000000 in
theorem guard16 (k1 k2 : BB) (A : Option Addr) (n c : Nat) (w : World) (h1 : k1.ok w) (h2 : k2.ok w) :
    Calls Try.prog 16 #[.slice k1.a k1.n k1.c, .slice k2.a k2.n k2.c, .slice A n c] w fun e w' => Ans True e ∧ w' = w := by
  have H1 : Hid (k1.ok w) := h1
  have H2 : Hid (k2.ok w) := h2
  clear h1 h2
  by_cases hn1 : (1048576 : Int) < (k1.n : Int)
  · go_enter Try.func16, Try.ntmps16
    go_wp2
    go_ret
    exact ⟨ans_any _, rfl⟩
  have d1 := dec_no hn1
  go_enter Try.func16, Try.ntmps16
  go_wp2
  clear d1
  go_loop [7, 8] (fun s i => ∃ (s' : Int) (k : Nat), s = .int .i64 s' ∧ 0 ≤ s' ∧ s' ≤ 1048576 ∧ i = .int .i64 k ∧ k ≤ k1.n) (fun _ i => k1.n - (intOf i).toNat)
  case atStart => exact ⟨k1.n, 0, rfl, by omega, by omega, rfl, by omega⟩
  case round =>
    obtain ⟨s, k, rfl, hs0, hs1, rfl, hk⟩ := hrel
    by_cases hlt : k < k1.n
    · obtain ⟨x, hx, hc⟩ := bb_cell H1.out hlt
      go_wp2
      · go_ret
        exact ⟨ans_any _, rfl⟩
      · go_ret
        exact ⟨ans_any _, rfl⟩
      · go_round
        case rel => exact ⟨_, k + 1, rfl, by omega, by omega, by go_num, by omega⟩
        case measure => simp [intOf]; omega
    · clear H1
      by_cases hn2 : (1048576 : Int) < (k2.n : Int)
      · go_wp2
        go_ret
        exact ⟨ans_any _, rfl⟩
      by_cases hn3 : (1048576 : Int) < s + (k2.n : Int)
      · go_wp2
        go_ret
        exact ⟨ans_any _, rfl⟩
      have d1 : decide ((1048576 : Int) < (k1.n : Int)) = false := dec_no (by omega)
      have d2 := dec_no hn2
      have d3 := dec_no hn3
      have d4 : decide ((k : Int) < (k1.n : Int)) = false := by simp; omega
      have d5 : decide (k < k1.n) = false := by simp; omega
      go_wp2
      clear d1 d2 d3 d4 d5
      go_loop [7, 9] (fun s i => ∃ (s' : Int) (k : Nat), s = .int .i64 s' ∧ 0 ≤ s' ∧ s' ≤ 1048576 ∧ i = .int .i64 k ∧ k ≤ k2.n) (fun _ i => k2.n - (intOf i).toNat)
      case atStart => exact ⟨s + k2.n, 0, rfl, by omega, by omega, rfl, by omega⟩
      case round =>
        obtain ⟨s2, k', rfl, hs20, hs21, rfl, hk'⟩ := hrel
        by_cases hlt2 : k' < k2.n
        · obtain ⟨x, hx, hc⟩ := bb_cell H2.out hlt2
          go_wp2
          · go_ret
            exact ⟨ans_any _, rfl⟩
          · go_ret
            exact ⟨ans_any _, rfl⟩
          · go_round
            case rel => exact ⟨_, k' + 1, rfl, by omega, by omega, by go_num, by omega⟩
            case measure => simp [intOf]; omega
        · go_wp2
          all_goals
            go_ret
            exact ⟨ans_any _, rfl⟩

def Small (k1 k2 : BB) (n3 n4 n5 : Nat) : Prop :=
  k1.n ≤ 65536 ∧ k2.n ≤ 65536 ∧ n3 ≤ 1048576 ∧ n4 ≤ 1048576 ∧ n5 ≤ 1048576 ∧ (∀ i, i < k1.n → (k1.K i).zs.length ≤ 1048576) ∧ (∀ i, i < k2.n → (k2.K i).zs.length ≤ 1048576)

theorem upto {k : BB} {j : Nat} (hp : ∀ i, i < j → (k.K i).zs.length ≤ 1048576) (h : ((k.K j).zs.length : Int) ≤ 1048576) : ∀ i, i < j + 1 → (k.K i).zs.length ≤ 1048576 := by
  intro i hi
  by_cases e : i < j
  · exact hp i e
  · obtain rfl : i = j := by omega
    omega

set_option maxHeartbeats 1000000 in
theorem guard17 (k1 k2 : BB) (a3 a4 a5 : Option Addr) (n3 n4 n5 c3 c4 c5 : Nat) (w : World) (h1 : k1.ok w) (h2 : k2.ok w) :
    Calls Try.prog 17 #[.slice k1.a k1.n k1.c, .slice k2.a k2.n k2.c, .slice a3 n3 c3, .slice a4 n4 c4, .slice a5 n5 c5] w fun e w' => Ans (Small k1 k2 n3 n4 n5) e ∧ w' = w := by
  have H1 : Hid (k1.ok w) := h1
  have H2 : Hid (k2.ok w) := h2
  clear h1 h2
  by_cases q1 : (65536 : Int) < (k1.n : Int)
  · go_enter Try.func17, Try.ntmps17
    go_wp2
    go_ret
    exact ⟨ans_yes _, rfl⟩
  have d1 := dec_no q1
  by_cases q2 : (65536 : Int) < (k2.n : Int)
  · go_enter Try.func17, Try.ntmps17
    go_wp2
    go_ret
    exact ⟨ans_yes _, rfl⟩
  have d2 := dec_no q2
  by_cases q3 : (1048576 : Int) < (n3 : Int)
  · go_enter Try.func17, Try.ntmps17
    go_wp2
    go_ret
    exact ⟨ans_yes _, rfl⟩
  have d3 := dec_no q3
  by_cases q4 : (1048576 : Int) < (n4 : Int)
  · go_enter Try.func17, Try.ntmps17
    go_wp2
    go_ret
    exact ⟨ans_yes _, rfl⟩
  have d4 := dec_no q4
  by_cases q5 : (1048576 : Int) < (n5 : Int)
  · go_enter Try.func17, Try.ntmps17
    go_wp2
    go_ret
    exact ⟨ans_yes _, rfl⟩
  have d5 := dec_no q5
  by_cases q6 : (1048576 : Int) < (n3 : Int) + (n4 : Int) + (n5 : Int) + 24 * (k1.n : Int) + 24 * (k2.n : Int)
  · go_enter Try.func17, Try.ntmps17
    go_wp2
    go_ret
    exact ⟨ans_yes _, rfl⟩
  have d6 := dec_no q6
  go_enter Try.func17, Try.ntmps17
  go_wp2
  clear d1 d2 d3 d4 d5 d6
  go_loop [11, 12] (fun s i => ∃ (s' : Int) (k : Nat), s = .int .i64 s' ∧ 0 ≤ s' ∧ s' ≤ 1048576 ∧ i = .int .i64 k ∧ k ≤ k1.n ∧ ∀ i, i < k → (k1.K i).zs.length ≤ 1048576) (fun _ i => k1.n - (intOf i).toNat)
  case atStart => exact ⟨_, 0, rfl, by omega, by omega, rfl, by omega, fun i hi => by omega⟩
  case round =>
    obtain ⟨s, k, rfl, hs0, hs1, rfl, hk, hp⟩ := hrel
    have HP : Hid (∀ i, i < k → (k1.K i).zs.length ≤ 1048576) := hp
    clear hp
    by_cases hlt : k < k1.n
    · obtain ⟨x, hx, hc⟩ := bb_cell H1.out hlt
      go_wp2
      · go_ret
        exact ⟨ans_yes _, rfl⟩
      · go_ret
        exact ⟨ans_yes _, rfl⟩
      · go_round
        case rel => exact ⟨_, k + 1, rfl, by omega, by omega, by go_num, by omega, upto HP.out (by assumption)⟩
        case measure => simp [intOf]; omega
    · clear H1
      have HP1 : Hid (∀ i, i < k1.n → (k1.K i).zs.length ≤ 1048576) := fun i hi => HP.out i (by omega)
      clear HP
      have d4 : decide ((k : Int) < (k1.n : Int)) = false := by simp; omega
      have d5 : decide (k < k1.n) = false := by simp; omega
      go_wp2
      clear d4 d5
      go_loop [11, 13] (fun s i => ∃ (s' : Int) (k : Nat), s = .int .i64 s' ∧ 0 ≤ s' ∧ s' ≤ 1048576 ∧ i = .int .i64 k ∧ k ≤ k2.n ∧ ∀ i, i < k → (k2.K i).zs.length ≤ 1048576) (fun _ i => k2.n - (intOf i).toNat)
      case atStart => exact ⟨s, 0, rfl, by omega, by omega, rfl, by omega, fun i hi => by omega⟩
      case round =>
        obtain ⟨s2, k', rfl, hs20, hs21, rfl, hk', hp'⟩ := hrel
        have HP : Hid (∀ i, i < k' → (k2.K i).zs.length ≤ 1048576) := hp'
        clear hp'
        by_cases hlt2 : k' < k2.n
        · obtain ⟨x, hx, hc⟩ := bb_cell H2.out hlt2
          go_wp2
          · go_ret
            exact ⟨ans_yes _, rfl⟩
          · go_ret
            exact ⟨ans_yes _, rfl⟩
          · go_round
            case rel => exact ⟨_, k' + 1, rfl, by omega, by omega, by go_num, by omega, upto HP.out (by assumption)⟩
            case measure => simp [intOf]; omega
        · go_wp2
          go_ret
          exact ⟨ans_no ⟨by omega, by omega, by omega, by omega, by omega, HP1.out, fun i hi => HP.out i (by omega)⟩, rfl⟩
end guardkit
end Go.Proofs.Qxb6601003a
