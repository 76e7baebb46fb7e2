import Derived.Test.Qxb6003347aTime
import Derived.Deep.RegionWith
import Derived.Deep.DeepCutAuto
namespace Go.Proofs.Qxb6003347a.timekit
open Go.ChangeShapes Go.WideShapes Go.ChangeAt Go.RowKit
set_option linter.unusedVariables false

theorem mono2_no (n m : Int) (h0 : 0 ≤ n) (h1 : n < 1000000000) (k0 : 0 ≤ m) (k1 : m < 1000000000) : (bits .and .u64 (bits .and .u64 n m) 9223372036854775808 != 0) = false := by
  obtain ⟨a, rfl⟩ := Int.eq_ofNat_of_zero_le h0
  obtain ⟨b, rfl⟩ := Int.eq_ofNat_of_zero_le k0
  rw [u64_and_nat a b (by omega) (by omega)]
  have : a &&& b ≤ a := Nat.and_le_left
  exact mono_no _ (by omega) (by omega)

theorem below2 (w : World) (o1 o2 : Obj) : Below w.heap.size w ((w.alloc o1).alloc o2) := ((Below.refl _ _).alloc (Nat.le_refl _) _).alloc (by simp) _

set_option maxHeartbeats 400000 in
theorem equal_det (n x m y : Int) (h0 : 0 ≤ n) (h1 : n < 1000000000) (k0 : 0 ≤ m) (k1 : m < 1000000000) : ∃ b : Bool, ∀ w,
    Calls Try.prog 45 #[.agg #[.int .u64 n, .int .i64 x, .pointer none], .agg #[.int .u64 m, .int .i64 y, .pointer none]] w fun e' w' => e' = .returned (.bool b) ∧ Below w.heap.size w w' := by
  have hm := mono2_no n m h0 h1 k0 k1
  by_cases q : (x == y) = true
  · refine ⟨n == m, fun w => ?_⟩
    go_enter Try.func45, Try.ntmps45
    go_wp2_with fail
    refine (sec_any w.heap.size n x _ (by simp) (by simp) h0 h1).mono ?_
    rintro e w1 ⟨rfl, rfl⟩
    go_wp2_with fail
    refine (sec_any (w.heap.size + 1) m y _ (by simp) (by simp) k0 k1).mono ?_
    rintro e w1 ⟨rfl, rfl⟩
    go_wp2_with fail
    refine (nsec_any w.heap.size n _ (by simp) h0 h1).mono ?_
    rintro e w1 ⟨rfl, rfl⟩
    go_wp2_with fail
    refine (nsec_any (w.heap.size + 1) m _ (by simp) k0 k1).mono ?_
    rintro e w1 ⟨rfl, rfl⟩
    go_wp2
    go_ret
    exact ⟨rfl, below2 w _ _⟩
  · have q' : (x == y) = false := by simpa using q
    clear q
    refine ⟨false, fun w => ?_⟩
    go_enter Try.func45, Try.ntmps45
    go_wp2_with fail
    refine (sec_any w.heap.size n x _ (by simp) (by simp) h0 h1).mono ?_
    rintro e w1 ⟨rfl, rfl⟩
    go_wp2_with fail
    refine (sec_any (w.heap.size + 1) m y _ (by simp) (by simp) k0 k1).mono ?_
    rintro e w1 ⟨rfl, rfl⟩
    go_wp2
    go_ret
    exact ⟨rfl, below2 w _ _⟩

set_option maxHeartbeats 400000 in
theorem before_det (n x m y : Int) (h0 : 0 ≤ n) (h1 : n < 1000000000) (k0 : 0 ≤ m) (k1 : m < 1000000000) : ∃ b : Bool, ∀ w,
    Calls Try.prog 46 #[.agg #[.int .u64 n, .int .i64 x, .pointer none], .agg #[.int .u64 m, .int .i64 y, .pointer none]] w fun e' w' => e' = .returned (.bool b) ∧ Below w.heap.size w w' := by
  have hm := mono2_no n m h0 h1 k0 k1
  by_cases q1 : x < y
  · refine ⟨true, fun w => ?_⟩
    go_enter Try.func46, Try.ntmps46
    go_wp2_with fail
    refine (sec_any w.heap.size n x _ (by simp) (by simp) h0 h1).mono ?_
    rintro e w1 ⟨rfl, rfl⟩
    go_wp2_with fail
    refine (sec_any (w.heap.size + 1) m y _ (by simp) (by simp) k0 k1).mono ?_
    rintro e w1 ⟨rfl, rfl⟩
    go_wp2
    go_ret
    exact ⟨rfl, below2 w _ _⟩
  have d1 : decide (x < y) = false := by simpa using q1
  by_cases q : (x == y) = true
  · refine ⟨decide (n < m), fun w => ?_⟩
    go_enter Try.func46, Try.ntmps46
    go_wp2_with fail
    refine (sec_any w.heap.size n x _ (by simp) (by simp) h0 h1).mono ?_
    rintro e w1 ⟨rfl, rfl⟩
    go_wp2_with fail
    refine (sec_any (w.heap.size + 1) m y _ (by simp) (by simp) k0 k1).mono ?_
    rintro e w1 ⟨rfl, rfl⟩
    go_wp2_with fail
    refine (nsec_any w.heap.size n _ (by simp) h0 h1).mono ?_
    rintro e w1 ⟨rfl, rfl⟩
    go_wp2_with fail
    refine (nsec_any (w.heap.size + 1) m _ (by simp) k0 k1).mono ?_
    rintro e w1 ⟨rfl, rfl⟩
    go_wp2
    go_ret
    exact ⟨rfl, below2 w _ _⟩
  · have q' : (x == y) = false := by simpa using q
    clear q
    refine ⟨false, fun w => ?_⟩
    go_enter Try.func46, Try.ntmps46
    go_wp2_with fail
    refine (sec_any w.heap.size n x _ (by simp) (by simp) h0 h1).mono ?_
    rintro e w1 ⟨rfl, rfl⟩
    go_wp2_with fail
    refine (sec_any (w.heap.size + 1) m y _ (by simp) (by simp) k0 k1).mono ?_
    rintro e w1 ⟨rfl, rfl⟩
    go_wp2
    go_ret
    exact ⟨rfl, below2 w _ _⟩

theorem later {W W' : World} {p : Addr} {v : Value} (hb : Below W.heap.size W W') (h : W.cell? p = some v) : W'.cell? p = some v := (hb.cell (World.block_lt_of_cell? _ _ h)).trans h

set_option maxHeartbeats 1000000 in
theorem sub_det (n x m y : Int) (h0 : 0 ≤ n) (h1 : n < 1000000000) (k0 : 0 ≤ m) (k1 : m < 1000000000) : ∃ v : Int, ∀ w,
    Calls Try.prog 34 #[.agg #[.int .u64 n, .int .i64 x, .pointer none], .agg #[.int .u64 m, .int .i64 y, .pointer none]] w fun e' w' => e' = .returned (.int .i64 v) ∧ Below w.heap.size w w' := by
  have hm := mono2_no n m h0 h1 k0 k1
  obtain ⟨n2, x2, a0, a1, ha⟩ := add_det m y (wrap64 (wrap64 (wrap64 (x - y) * 1000000000) + (n - m))) k0 k1
  obtain ⟨b3, he⟩ := equal_det n2 x2 n x a0 a1 h0 h1
  obtain ⟨b4, hf⟩ := before_det n x m y h0 h1 k0 k1
  have HA : Hid (∀ w, Calls Try.prog 23 #[.agg #[.int .u64 m, .int .i64 y, .pointer none], .int .i64 (wrap64 (wrap64 (wrap64 (x - y) * 1000000000) + (n - m)))] w fun e' w' => e' = .returned (.agg #[.int .u64 n2, .int .i64 x2, .pointer none]) ∧ Below w.heap.size w w') := ha
  clear ha
  cases b3 with
  | true =>
    have HE : Hid (∀ w, Calls Try.prog 45 #[.agg #[.int .u64 n2, .int .i64 x2, .pointer none], .agg #[.int .u64 n, .int .i64 x, .pointer none]] w fun e' w' => e' = .returned (.bool true) ∧ Below w.heap.size w w') := he
    clear he hf
    refine ⟨wrap64 (wrap64 (wrap64 (x - y) * 1000000000) + (n - m)), fun w => ?_⟩
    go_enter Try.func34, Try.ntmps34
    go_wp2_with fail
    refine (sec_any w.heap.size n x _ (by simp) (by simp) h0 h1).mono ?_
    rintro e w1 ⟨rfl, rfl⟩
    go_wp2_with fail
    refine (sec_any (w.heap.size + 1) m y _ (by simp) (by simp) k0 k1).mono ?_
    rintro e w1 ⟨rfl, rfl⟩
    go_wp2_with fail
    refine (nsec_any w.heap.size n _ (by simp) h0 h1).mono ?_
    rintro e w1 ⟨rfl, rfl⟩
    go_wp2_with fail
    refine (nsec_any (w.heap.size + 1) m _ (by simp) k0 k1).mono ?_
    rintro e w1 ⟨rfl, rfl⟩
    clear hm
    go_wp2_with fail
    go_region_with (first
      | (go_at_call 23; refine (HA.out _).mono ?_; rintro e2 w2 ⟨rfl, hb2⟩; have c0 : w2.cell? ⟨w.heap.size, 0, none⟩ = some (.int .u64 n) := later hb2 (by simp); have c1 : w2.cell? ⟨w.heap.size, 1, none⟩ = some (.int .i64 x) := later hb2 (by simp); have c2 : w2.cell? ⟨w.heap.size, 2, none⟩ = some (.pointer none) := later hb2 (by simp); have c3 : w2.cell? ⟨w.heap.size + 1, 0, none⟩ = some (.int .u64 m) := later hb2 (by simp); have c4 : w2.cell? ⟨w.heap.size + 1, 1, none⟩ = some (.int .i64 y) := later hb2 (by simp); have c5 : w2.cell? ⟨w.heap.size + 1, 2, none⟩ = some (.pointer none) := later hb2 (by simp); have HB2 : Hid (Below w.heap.size w w2) := (below2 w _ _).drew.trans (hb2.mono (by simp; omega)))
      | (go_at_call 45; refine (HE.out _).mono ?_; rintro e3 w3 ⟨rfl, hb3⟩; have g0 : w3.cell? ⟨w.heap.size, 0, none⟩ = some (.int .u64 n) := later hb3 (by assumption); have g1 : w3.cell? ⟨w.heap.size, 1, none⟩ = some (.int .i64 x) := later hb3 (by assumption); have g2 : w3.cell? ⟨w.heap.size, 2, none⟩ = some (.pointer none) := later hb3 (by assumption); have g3 : w3.cell? ⟨w.heap.size + 1, 0, none⟩ = some (.int .u64 m) := later hb3 (by assumption); have g4 : w3.cell? ⟨w.heap.size + 1, 1, none⟩ = some (.int .i64 y) := later hb3 (by assumption); have g5 : w3.cell? ⟨w.heap.size + 1, 2, none⟩ = some (.pointer none) := later hb3 (by assumption); have HB3 : Hid (Below w.heap.size w w3) := HB2.out.trans (hb3.mono HB2.out.size); clear c0 c1 c2 c3 c4 c5))
    all_goals
      go_wp2
      go_ret
      exact ⟨rfl, HB3.out⟩
  | false =>
    have HE : Hid (∀ w, Calls Try.prog 45 #[.agg #[.int .u64 n2, .int .i64 x2, .pointer none], .agg #[.int .u64 n, .int .i64 x, .pointer none]] w fun e' w' => e' = .returned (.bool false) ∧ Below w.heap.size w w') := he
    clear he
    cases b4 with
    | true =>
      have HF : Hid (∀ w, Calls Try.prog 46 #[.agg #[.int .u64 n, .int .i64 x, .pointer none], .agg #[.int .u64 m, .int .i64 y, .pointer none]] w fun e' w' => e' = .returned (.bool true) ∧ Below w.heap.size w w') := hf
      clear hf
      refine ⟨-9223372036854775808, fun w => ?_⟩
      go_enter Try.func34, Try.ntmps34
      go_wp2_with fail
      refine (sec_any w.heap.size n x _ (by simp) (by simp) h0 h1).mono ?_
      rintro e w1 ⟨rfl, rfl⟩
      go_wp2_with fail
      refine (sec_any (w.heap.size + 1) m y _ (by simp) (by simp) k0 k1).mono ?_
      rintro e w1 ⟨rfl, rfl⟩
      go_wp2_with fail
      refine (nsec_any w.heap.size n _ (by simp) h0 h1).mono ?_
      rintro e w1 ⟨rfl, rfl⟩
      go_wp2_with fail
      refine (nsec_any (w.heap.size + 1) m _ (by simp) k0 k1).mono ?_
      rintro e w1 ⟨rfl, rfl⟩
      clear hm
      go_wp2_with fail
      go_region_with (first
        | (go_at_call 23; refine (HA.out _).mono ?_; rintro e2 w2 ⟨rfl, hb2⟩; have c0 : w2.cell? ⟨w.heap.size, 0, none⟩ = some (.int .u64 n) := later hb2 (by simp); have c1 : w2.cell? ⟨w.heap.size, 1, none⟩ = some (.int .i64 x) := later hb2 (by simp); have c2 : w2.cell? ⟨w.heap.size, 2, none⟩ = some (.pointer none) := later hb2 (by simp); have c3 : w2.cell? ⟨w.heap.size + 1, 0, none⟩ = some (.int .u64 m) := later hb2 (by simp); have c4 : w2.cell? ⟨w.heap.size + 1, 1, none⟩ = some (.int .i64 y) := later hb2 (by simp); have c5 : w2.cell? ⟨w.heap.size + 1, 2, none⟩ = some (.pointer none) := later hb2 (by simp); have HB2 : Hid (Below w.heap.size w w2) := (below2 w _ _).drew.trans (hb2.mono (by simp; omega)))
        | (go_at_call 45; refine (HE.out _).mono ?_; rintro e3 w3 ⟨rfl, hb3⟩; have g0 : w3.cell? ⟨w.heap.size, 0, none⟩ = some (.int .u64 n) := later hb3 (by assumption); have g1 : w3.cell? ⟨w.heap.size, 1, none⟩ = some (.int .i64 x) := later hb3 (by assumption); have g2 : w3.cell? ⟨w.heap.size, 2, none⟩ = some (.pointer none) := later hb3 (by assumption); have g3 : w3.cell? ⟨w.heap.size + 1, 0, none⟩ = some (.int .u64 m) := later hb3 (by assumption); have g4 : w3.cell? ⟨w.heap.size + 1, 1, none⟩ = some (.int .i64 y) := later hb3 (by assumption); have g5 : w3.cell? ⟨w.heap.size + 1, 2, none⟩ = some (.pointer none) := later hb3 (by assumption); have HB3 : Hid (Below w.heap.size w w3) := HB2.out.trans (hb3.mono HB2.out.size); clear c0 c1 c2 c3 c4 c5))
      all_goals
        go_wp2_with fail
        refine (HF.out _).mono ?_
        rintro e4 w4 ⟨rfl, hb4⟩
        have HB4 : Hid (Below w.heap.size w w4) := HB3.out.trans (hb4.mono HB3.out.size)
        go_wp2
        go_ret
        exact ⟨rfl, HB4.out⟩
    | false =>
      have HF : Hid (∀ w, Calls Try.prog 46 #[.agg #[.int .u64 n, .int .i64 x, .pointer none], .agg #[.int .u64 m, .int .i64 y, .pointer none]] w fun e' w' => e' = .returned (.bool false) ∧ Below w.heap.size w w') := hf
      clear hf
      refine ⟨9223372036854775807, fun w => ?_⟩
      go_enter Try.func34, Try.ntmps34
      go_wp2_with fail
      refine (sec_any w.heap.size n x _ (by simp) (by simp) h0 h1).mono ?_
      rintro e w1 ⟨rfl, rfl⟩
      go_wp2_with fail
      refine (sec_any (w.heap.size + 1) m y _ (by simp) (by simp) k0 k1).mono ?_
      rintro e w1 ⟨rfl, rfl⟩
      go_wp2_with fail
      refine (nsec_any w.heap.size n _ (by simp) h0 h1).mono ?_
      rintro e w1 ⟨rfl, rfl⟩
      go_wp2_with fail
      refine (nsec_any (w.heap.size + 1) m _ (by simp) k0 k1).mono ?_
      rintro e w1 ⟨rfl, rfl⟩
      clear hm
      go_wp2_with fail
      go_region_with (first
        | (go_at_call 23; refine (HA.out _).mono ?_; rintro e2 w2 ⟨rfl, hb2⟩; have c0 : w2.cell? ⟨w.heap.size, 0, none⟩ = some (.int .u64 n) := later hb2 (by simp); have c1 : w2.cell? ⟨w.heap.size, 1, none⟩ = some (.int .i64 x) := later hb2 (by simp); have c2 : w2.cell? ⟨w.heap.size, 2, none⟩ = some (.pointer none) := later hb2 (by simp); have c3 : w2.cell? ⟨w.heap.size + 1, 0, none⟩ = some (.int .u64 m) := later hb2 (by simp); have c4 : w2.cell? ⟨w.heap.size + 1, 1, none⟩ = some (.int .i64 y) := later hb2 (by simp); have c5 : w2.cell? ⟨w.heap.size + 1, 2, none⟩ = some (.pointer none) := later hb2 (by simp); have HB2 : Hid (Below w.heap.size w w2) := (below2 w _ _).drew.trans (hb2.mono (by simp; omega)))
        | (go_at_call 45; refine (HE.out _).mono ?_; rintro e3 w3 ⟨rfl, hb3⟩; have g0 : w3.cell? ⟨w.heap.size, 0, none⟩ = some (.int .u64 n) := later hb3 (by assumption); have g1 : w3.cell? ⟨w.heap.size, 1, none⟩ = some (.int .i64 x) := later hb3 (by assumption); have g2 : w3.cell? ⟨w.heap.size, 2, none⟩ = some (.pointer none) := later hb3 (by assumption); have g3 : w3.cell? ⟨w.heap.size + 1, 0, none⟩ = some (.int .u64 m) := later hb3 (by assumption); have g4 : w3.cell? ⟨w.heap.size + 1, 1, none⟩ = some (.int .i64 y) := later hb3 (by assumption); have g5 : w3.cell? ⟨w.heap.size + 1, 2, none⟩ = some (.pointer none) := later hb3 (by assumption); have HB3 : Hid (Below w.heap.size w w3) := HB2.out.trans (hb3.mono HB2.out.size); clear c0 c1 c2 c3 c4 c5))
      all_goals
        go_wp2_with fail
        refine (HF.out _).mono ?_
        rintro e4 w4 ⟨rfl, hb4⟩
        have HB4 : Hid (Below w.heap.size w w4) := HB3.out.trans (hb4.mono HB3.out.size)
        go_wp2
        go_ret
        exact ⟨rfl, HB4.out⟩
end Go.Proofs.Qxb6003347a.timekit
