import Derived.Test.Qxb6602746aRows
import Derived.WalkKit
import Derived.ProofKit
import Derived.OpenShut
import Derived.Below
import Derived.Deep.QuietTactic
import Derived.BigQuiet
import Derived.WalkSmall
namespace Go.Proofs.Qxb6602746a.directkit
open Go.ChangeShapes Go.WideShapes Go.ChangeAt Go.RowKit
set_option linter.unusedVariables false

theorem make_any (a b c : Int) (w : World) :
    Calls Try.prog 15 #[.int .u64 a, .int .u64 b, .int .u64 c] w fun e w' => e = .returned (.pointer (some ⟨w.heap.size, 0, none⟩)) ∧ w' = w.alloc (.cells #[.int .u64 a, .int .u64 b, .int .u64 c] 43) := by
  go_enter Try.func15, Try.ntmps15
  go_wp2
  go_ret
  exact ⟨rfl, rfl⟩

theorem state_any (B : Nat) (a b c : Int) (w : World) (h0 : w.cell? ⟨B, 0, none⟩ = some (.int .u64 a)) (h1 : w.cell? ⟨B, 1, none⟩ = some (.int .u64 b)) (h2 : w.cell? ⟨B, 2, none⟩ = some (.int .u64 c)) :
    Calls Try.prog 17 #[.pointer (some ⟨B, 0, none⟩)] w fun e w' => e = .returned (.tuple #[.int .u64 a, .int .u64 b, .int .u64 c]) ∧ ∃ k, w' = w.drewN k := by
  go_enter Try.func17, Try.ntmps17
  go_wp2
  go_quiet (fail)
  go_wp2
  go_ret3
  exact ⟨rfl, _, rfl⟩

def Row3 (w : World) (B : Nat) (a b c : Int) : Prop :=
  w.cell? ⟨B, 0, none⟩ = some (.int .u64 a) ∧ w.cell? ⟨B, 1, none⟩ = some (.int .u64 b) ∧ w.cell? ⟨B, 2, none⟩ = some (.int .u64 c)

def Own3 (w : World) (B : Nat) (a b c : Int) : Prop :=
  Row3 w B a b c ∧ w.frozen? ⟨B, 0, none⟩ = false ∧ w.frozen? ⟨B, 1, none⟩ = false ∧ w.frozen? ⟨B, 2, none⟩ = false

def Took (B : Nat) (w : World) (a b c : Int) (e : Ending) (w' : World) : Prop := e = .returned (.tuple #[]) ∧ Below B w w' ∧ Row3 w' B a b c

theorem set0 {w : World} {B : Nat} {a b c : Int} (h : Row3 w B a b c) (v : Int) : Row3 (w.setCell ⟨B, 0, none⟩ (.int .u64 v)) B v b c := by
  obtain ⟨h0, h1, h2⟩ := h
  refine ⟨World.cell?_setCell_same _ _ _ h0, ?_, ?_⟩
  · rw [World.cell?_setCell_other _ _ _ _ (by simp)]; exact h1
  · rw [World.cell?_setCell_other _ _ _ _ (by simp)]; exact h2
theorem set1 {w : World} {B : Nat} {a b c : Int} (h : Row3 w B a b c) (v : Int) : Row3 (w.setCell ⟨B, 1, none⟩ (.int .u64 v)) B a v c := by
  obtain ⟨h0, h1, h2⟩ := h
  refine ⟨?_, World.cell?_setCell_same _ _ _ h1, ?_⟩
  · rw [World.cell?_setCell_other _ _ _ _ (by simp)]; exact h0
  · rw [World.cell?_setCell_other _ _ _ _ (by simp)]; exact h2
theorem set2 {w : World} {B : Nat} {a b c : Int} (h : Row3 w B a b c) (v : Int) : Row3 (w.setCell ⟨B, 2, none⟩ (.int .u64 v)) B a b v := by
  obtain ⟨h0, h1, h2⟩ := h
  refine ⟨?_, ?_, World.cell?_setCell_same _ _ _ h2⟩
  · rw [World.cell?_setCell_other _ _ _ _ (by simp)]; exact h0
  · rw [World.cell?_setCell_other _ _ _ _ (by simp)]; exact h1

theorem below_set {w : World} {B : Nat} (k : Nat) (v : Value) : Below B w (w.setCell ⟨B, k, none⟩ v) := (Below.refl B w).setCell (p := ⟨B, k, none⟩) (Nat.le_refl B) v

set_option maxHeartbeats 400000 in
theorem take_old (B : Nat) (a b c i s : Int) (w : World) (h : Own3 w B a b c) (hi : i < a) :
    Calls Try.prog 16 #[.pointer (some ⟨B, 0, none⟩), .int .u64 i, .int .u64 s] w (Took B w a b c) := by
  have H : Hid (Row3 w B a b c) := h.1
  obtain ⟨⟨h0, h1, h2⟩, f0, f1, f2⟩ := h
  go_enter Try.func16, Try.ntmps16
  go_wp2
  go_end0
  go_wp2
  go_end0
  exact ⟨rfl, Below.refl _ _, H.out⟩

set_option maxHeartbeats 400000 in
theorem take_new (B : Nat) (a b c i s : Int) (w : World) (h : Own3 w B a b c) (hi : a < i) :
    Calls Try.prog 16 #[.pointer (some ⟨B, 0, none⟩), .int .u64 i, .int .u64 s] w (Took B w i s 1) := by
  have H : Hid (Row3 w B a b c) := h.1
  obtain ⟨⟨h0, h1, h2⟩, f0, f1, f2⟩ := h
  go_enter Try.func16, Try.ntmps16
  go_wp2
  go_end0
  go_wp2
  go_end0
  exact ⟨rfl, ((below_set _ _).trans (below_set _ _)).trans (below_set _ _), set2 (set1 (set0 H.out _) _) _⟩

set_option maxHeartbeats 400000 in
theorem take_next (B : Nat) (a b c : Int) (w : World) (h : Own3 w B a b c) (hb0 : 0 ≤ b) (hb : b < 18446744073709551615) :
    Calls Try.prog 16 #[.pointer (some ⟨B, 0, none⟩), .int .u64 a, .int .u64 (b + 1)] w (Took B w a (b + 1) (IntKind.u64.wrap (c + 1))) := by
  have H : Hid (Row3 w B a b c) := h.1
  obtain ⟨⟨h0, h1, h2⟩, f0, f1, f2⟩ := h
  go_enter Try.func16, Try.ntmps16
  go_wp2
  go_end0
  go_wp2
  go_end0
  exact ⟨rfl, (below_set _ _).trans (below_set _ _), set2 (set1 H.out _) _⟩

theorem wrap_max {b : Int} (h1 : b ≤ 18446744073709551615) (h2 : 18446744073709551615 ≤ b) : IntKind.u64.wrap (b + 1) = 0 := by
  obtain rfl : b = 18446744073709551615 := by omega
  decide

set_option maxHeartbeats 400000 in
theorem take_over (B : Nat) (a b c : Int) (w : World) (h : Own3 w B a b c) (hb : b ≤ 18446744073709551615) (hb2 : 18446744073709551615 ≤ b) :
    Calls Try.prog 16 #[.pointer (some ⟨B, 0, none⟩), .int .u64 a, .int .u64 0] w (Took B w a 0 (IntKind.u64.wrap (c + 1))) := by
  have H : Hid (Row3 w B a b c) := h.1
  have hw := wrap_max hb hb2
  obtain ⟨⟨h0, h1, h2⟩, f0, f1, f2⟩ := h
  go_enter Try.func16, Try.ntmps16
  go_wp2
  go_end0
  go_wp2
  go_end0
  exact ⟨rfl, (below_set _ _).trans (below_set _ _), set2 (set1 H.out _) _⟩

set_option maxHeartbeats 400000 in
theorem take_jump (B : Nat) (a b c s : Int) (w : World) (h : Own3 w B a b c) (hb0 : 0 ≤ b) (hb : b + 1 < s) (hs : s ≤ 18446744073709551615) :
    Calls Try.prog 16 #[.pointer (some ⟨B, 0, none⟩), .int .u64 a, .int .u64 s] w (Took B w a s 1) := by
  have H : Hid (Row3 w B a b c) := h.1
  obtain ⟨⟨h0, h1, h2⟩, f0, f1, f2⟩ := h
  go_enter Try.func16, Try.ntmps16
  go_wp2
  go_end0
  go_wp2
  go_end0
  exact ⟨rfl, ((below_set _ _).trans (below_set _ _)).trans (below_set _ _), set2 (set1 (set0 H.out _) _) _⟩

set_option maxHeartbeats 400000 in
theorem take_low (B : Nat) (a b c s : Int) (w : World) (h : Own3 w B a b c) (hb0 : 0 ≤ b) (hb : s ≤ b) (hs : b < 18446744073709551615) :
    Calls Try.prog 16 #[.pointer (some ⟨B, 0, none⟩), .int .u64 a, .int .u64 s] w (Took B w a b c) := by
  have H : Hid (Row3 w B a b c) := h.1
  obtain ⟨⟨h0, h1, h2⟩, f0, f1, f2⟩ := h
  go_enter Try.func16, Try.ntmps16
  go_wp2
  go_end0
  go_wp2
  go_end0
  exact ⟨rfl, Below.refl _ _, H.out⟩

set_option maxHeartbeats 400000 in
theorem take_top (B : Nat) (a b c s : Int) (w : World) (h : Own3 w B a b c) (hb : b ≤ 18446744073709551615) (hb2 : 18446744073709551615 ≤ b) (hs0 : 0 < s) (hs : s ≤ 18446744073709551615) :
    Calls Try.prog 16 #[.pointer (some ⟨B, 0, none⟩), .int .u64 a, .int .u64 s] w (Took B w a b c) := by
  have H : Hid (Row3 w B a b c) := h.1
  have hw := wrap_max hb hb2
  obtain ⟨⟨h0, h1, h2⟩, f0, f1, f2⟩ := h
  go_enter Try.func16, Try.ntmps16
  go_wp2
  go_end0
  go_wp2
  go_end0
  exact ⟨rfl, Below.refl _ _, H.out⟩
theorem own_new (w : World) (a b c : Int) : Own3 (w.alloc (.cells #[.int .u64 a, .int .u64 b, .int .u64 c] 43)) w.heap.size a b c := by
  refine ⟨⟨?_, ?_, ?_⟩, ?_, ?_, ?_⟩ <;> simp

set_option maxHeartbeats 1000000 in
theorem law_old (a b c i s : Int) (w : World) (ha0 : 0 ≤ a) (ha1 : a ≤ 18446744073709551615) (hb0 : 0 ≤ b) (hb1 : b ≤ 18446744073709551615) (hc0 : 0 ≤ c) (hc1 : c ≤ 18446744073709551615) (hi0 : 0 ≤ i) (hi1 : i ≤ 18446744073709551615) (hs0 : 0 ≤ s) (hs1 : s ≤ 18446744073709551615) (h : i < a) :
    Calls Try.prog 6 #[.int .u64 a, .int .u64 b, .int .u64 c, .int .u64 i, .int .u64 s] w fun e w' => e = .returned (.bool true) ∧ Below w.heap.size w w' := by
  have e1 : (i == a) = false := beq_eq_false_iff_ne.2 (by omega)
  go_enter Try.func6, Try.ntmps6
  go_wp2_with fail
  refine (make_any _ _ _ _).mono ?_
  rintro e w' ⟨rfl, rfl⟩
  go_wp2_with fail
  refine (take_old _ a b c i s _ (own_new w a b c) h).mono ?_
  rintro e w1 ⟨rfl, hb, hr0, hr1, hr2⟩
  have HB : Hid (Below w.heap.size w w1) := ((Below.refl _ _).alloc (Nat.le_refl _) _).trans hb
  clear hb
  go_wp2_with fail
  refine (state_any _ _ _ _ _ hr0 hr1 hr2).mono ?_
  rintro e w2 ⟨rfl, k, rfl⟩
  clear hr0 hr1 hr2
  go_wp2
  go_ret
  exact ⟨rfl, below_drewN HB.out _⟩

set_option maxHeartbeats 1000000 in
theorem law_new (a b c i s : Int) (w : World) (ha0 : 0 ≤ a) (ha1 : a ≤ 18446744073709551615) (hb0 : 0 ≤ b) (hb1 : b ≤ 18446744073709551615) (hc0 : 0 ≤ c) (hc1 : c ≤ 18446744073709551615) (hi0 : 0 ≤ i) (hi1 : i ≤ 18446744073709551615) (hs0 : 0 ≤ s) (hs1 : s ≤ 18446744073709551615) (h : a < i) :
    Calls Try.prog 6 #[.int .u64 a, .int .u64 b, .int .u64 c, .int .u64 i, .int .u64 s] w fun e w' => e = .returned (.bool true) ∧ Below w.heap.size w w' := by
  have e1 : (i == a) = false := beq_eq_false_iff_ne.2 (by omega)
  go_enter Try.func6, Try.ntmps6
  go_wp2_with fail
  refine (make_any _ _ _ _).mono ?_
  rintro e w' ⟨rfl, rfl⟩
  go_wp2_with fail
  refine (take_new _ a b c i s _ (own_new w a b c) h).mono ?_
  rintro e w1 ⟨rfl, hb, hr0, hr1, hr2⟩
  have HB : Hid (Below w.heap.size w w1) := ((Below.refl _ _).alloc (Nat.le_refl _) _).trans hb
  clear hb
  go_wp2_with fail
  refine (state_any _ _ _ _ _ hr0 hr1 hr2).mono ?_
  rintro e w2 ⟨rfl, k, rfl⟩
  clear hr0 hr1 hr2
  go_wp2
  go_ret
  exact ⟨rfl, below_drewN HB.out _⟩

set_option maxHeartbeats 1000000 in
theorem law_next (a b c i s : Int) (w : World) (ha0 : 0 ≤ a) (ha1 : a ≤ 18446744073709551615) (hb0 : 0 ≤ b) (hb1 : b ≤ 18446744073709551615) (hc0 : 0 ≤ c) (hc1 : c ≤ 18446744073709551615) (h : b < 18446744073709551615) :
    Calls Try.prog 6 #[.int .u64 a, .int .u64 b, .int .u64 c, .int .u64 a, .int .u64 (b + 1)] w fun e w' => e = .returned (.bool true) ∧ Below w.heap.size w w' := by
  go_enter Try.func6, Try.ntmps6
  go_wp2_with fail
  refine (make_any _ _ _ _).mono ?_
  rintro e w' ⟨rfl, rfl⟩
  go_wp2_with fail
  refine (take_next _ a b c _ (own_new w a b c) hb0 h).mono ?_
  rintro e w1 ⟨rfl, hb, hr0, hr1, hr2⟩
  have HB : Hid (Below w.heap.size w w1) := ((Below.refl _ _).alloc (Nat.le_refl _) _).trans hb
  clear hb
  go_wp2_with fail
  refine (state_any _ _ _ _ _ hr0 hr1 hr2).mono ?_
  rintro e w2 ⟨rfl, k, rfl⟩
  clear hr0 hr1 hr2
  go_wp2
  go_ret
  exact ⟨rfl, below_drewN HB.out _⟩

set_option maxHeartbeats 1000000 in
theorem law_over (a b c i s : Int) (w : World) (ha0 : 0 ≤ a) (ha1 : a ≤ 18446744073709551615) (hc0 : 0 ≤ c) (hc1 : c ≤ 18446744073709551615) :
    Calls Try.prog 6 #[.int .u64 a, .int .u64 18446744073709551615, .int .u64 c, .int .u64 a, .int .u64 0] w fun e w' => e = .returned (.bool true) ∧ Below w.heap.size w w' := by
  have hw := wrap_max (b := 18446744073709551615) (by omega) (by omega)
  go_enter Try.func6, Try.ntmps6
  go_wp2_with fail
  refine (make_any _ _ _ _).mono ?_
  rintro e w' ⟨rfl, rfl⟩
  go_wp2_with fail
  refine (take_over _ a 18446744073709551615 c _ (own_new w a 18446744073709551615 c) (by omega) (by omega)).mono ?_
  rintro e w1 ⟨rfl, hb, hr0, hr1, hr2⟩
  have HB : Hid (Below w.heap.size w w1) := ((Below.refl _ _).alloc (Nat.le_refl _) _).trans hb
  clear hb
  go_wp2_with fail
  refine (state_any _ _ _ _ _ hr0 hr1 hr2).mono ?_
  rintro e w2 ⟨rfl, k, rfl⟩
  clear hr0 hr1 hr2
  go_wp2
  go_ret
  exact ⟨rfl, below_drewN HB.out _⟩

set_option maxHeartbeats 1000000 in
theorem law_jump (a b c i s : Int) (w : World) (ha0 : 0 ≤ a) (ha1 : a ≤ 18446744073709551615) (hb0 : 0 ≤ b) (hb1 : b ≤ 18446744073709551615) (hc0 : 0 ≤ c) (hc1 : c ≤ 18446744073709551615) (hs0 : 0 ≤ s) (hs1 : s ≤ 18446744073709551615) (h : b + 1 < s) :
    Calls Try.prog 6 #[.int .u64 a, .int .u64 b, .int .u64 c, .int .u64 a, .int .u64 s] w fun e w' => e = .returned (.bool true) ∧ Below w.heap.size w w' := by
  go_enter Try.func6, Try.ntmps6
  go_wp2_with fail
  refine (make_any _ _ _ _).mono ?_
  rintro e w' ⟨rfl, rfl⟩
  go_wp2_with fail
  refine (take_jump _ a b c s _ (own_new w a b c) hb0 h hs1).mono ?_
  rintro e w1 ⟨rfl, hb, hr0, hr1, hr2⟩
  have HB : Hid (Below w.heap.size w w1) := ((Below.refl _ _).alloc (Nat.le_refl _) _).trans hb
  clear hb
  go_wp2_with fail
  refine (state_any _ _ _ _ _ hr0 hr1 hr2).mono ?_
  rintro e w2 ⟨rfl, k, rfl⟩
  clear hr0 hr1 hr2
  go_wp2
  go_ret
  exact ⟨rfl, below_drewN HB.out _⟩

set_option maxHeartbeats 1000000 in
theorem law_low (a b c i s : Int) (w : World) (ha0 : 0 ≤ a) (ha1 : a ≤ 18446744073709551615) (hb0 : 0 ≤ b) (hb1 : b ≤ 18446744073709551615) (hc0 : 0 ≤ c) (hc1 : c ≤ 18446744073709551615) (hs0 : 0 ≤ s) (hs1 : s ≤ 18446744073709551615) (h : s ≤ b) (h2 : b < 18446744073709551615) :
    Calls Try.prog 6 #[.int .u64 a, .int .u64 b, .int .u64 c, .int .u64 a, .int .u64 s] w fun e w' => e = .returned (.bool true) ∧ Below w.heap.size w w' := by
  go_enter Try.func6, Try.ntmps6
  go_wp2_with fail
  refine (make_any _ _ _ _).mono ?_
  rintro e w' ⟨rfl, rfl⟩
  go_wp2_with fail
  refine (take_low _ a b c s _ (own_new w a b c) hb0 h h2).mono ?_
  rintro e w1 ⟨rfl, hb, hr0, hr1, hr2⟩
  have HB : Hid (Below w.heap.size w w1) := ((Below.refl _ _).alloc (Nat.le_refl _) _).trans hb
  clear hb
  go_wp2_with fail
  refine (state_any _ _ _ _ _ hr0 hr1 hr2).mono ?_
  rintro e w2 ⟨rfl, k, rfl⟩
  clear hr0 hr1 hr2
  go_wp2
  go_ret
  exact ⟨rfl, below_drewN HB.out _⟩

set_option maxHeartbeats 1000000 in
theorem law_top (a b c i s : Int) (w : World) (ha0 : 0 ≤ a) (ha1 : a ≤ 18446744073709551615) (hc0 : 0 ≤ c) (hc1 : c ≤ 18446744073709551615) (hs0 : 0 ≤ s) (hs1 : s ≤ 18446744073709551615) (h2 : 0 < s) :
    Calls Try.prog 6 #[.int .u64 a, .int .u64 18446744073709551615, .int .u64 c, .int .u64 a, .int .u64 s] w fun e w' => e = .returned (.bool true) ∧ Below w.heap.size w w' := by
  have hw := wrap_max (b := 18446744073709551615) (by omega) (by omega)
  go_enter Try.func6, Try.ntmps6
  go_wp2_with fail
  refine (make_any _ _ _ _).mono ?_
  rintro e w' ⟨rfl, rfl⟩
  go_wp2_with fail
  refine (take_top _ a 18446744073709551615 c s _ (own_new w a 18446744073709551615 c) (by omega) (by omega) h2 hs1).mono ?_
  rintro e w1 ⟨rfl, hb, hr0, hr1, hr2⟩
  have HB : Hid (Below w.heap.size w w1) := ((Below.refl _ _).alloc (Nat.le_refl _) _).trans hb
  clear hb
  go_wp2_with fail
  refine (state_any _ _ _ _ _ hr0 hr1 hr2).mono ?_
  rintro e w2 ⟨rfl, k, rfl⟩
  clear hr0 hr1 hr2
  go_wp2
  go_ret
  exact ⟨rfl, below_drewN HB.out _⟩

theorem law (a b c i s : Int) (w : World) (ha0 : 0 ≤ a) (ha1 : a ≤ 18446744073709551615) (hb0 : 0 ≤ b) (hb1 : b ≤ 18446744073709551615) (hc0 : 0 ≤ c) (hc1 : c ≤ 18446744073709551615) (hi0 : 0 ≤ i) (hi1 : i ≤ 18446744073709551615) (hs0 : 0 ≤ s) (hs1 : s ≤ 18446744073709551615) :
    Calls Try.prog 6 #[.int .u64 a, .int .u64 b, .int .u64 c, .int .u64 i, .int .u64 s] w fun e w' => e = .returned (.bool true) ∧ Below w.heap.size w w' := by
  rcases Int.lt_trichotomy i a with h | rfl | h
  · exact law_old a b c i s w ha0 ha1 hb0 hb1 hc0 hc1 hi0 hi1 hs0 hs1 h
  · by_cases hm : b < 18446744073709551615
    · rcases Int.lt_trichotomy s (b + 1) with h | rfl | h
      · exact law_low i b c i s w ha0 ha1 hb0 hb1 hc0 hc1 hs0 hs1 (by omega) hm
      · exact law_next i b c i b w ha0 ha1 hb0 hb1 hc0 hc1 hm
      · exact law_jump i b c i s w ha0 ha1 hb0 hb1 hc0 hc1 hs0 hs1 h
    · obtain rfl : b = 18446744073709551615 := by omega
      by_cases hz : s = 0
      · rw [hz]
        exact law_over i 0 c i s w ha0 ha1 hc0 hc1
      · exact law_top i 0 c i s w ha0 ha1 hc0 hc1 hs0 hs1 (by omega)
  · exact law_new a b c i s w ha0 ha1 hb0 hb1 hc0 hc1 hi0 hi1 hs0 hs1 h

end Go.Proofs.Qxb6602746a.directkit
