import Derived.Test.Qxb6003347aReach
import Derived.Deep.DeepCutAuto
namespace Go.Proofs.Qxb6003347a.timekit
open Go.ChangeShapes Go.WideShapes Go.ChangeAt Go.RowKit
set_option linter.unusedVariables false

set_option maxHeartbeats 4000000 in
theorem reach_fast2 (t r n x k T m y : Int) (w : World) (k0 : 0 ≤ m) (k1 : m < 1000000000) (hT0 : 0 ≤ T) (hT1 : T ≤ 18446744073709551615) (h0 : 0 ≤ n) (h1 : n < 1000000000) (hk : 0 < wrap64 (16 * k)) (D2 : Int) (hE : IntKind.u64.wrap (2 * IntKind.u64.wrap (r - t)) = D2) (hD0 : 0 ≤ D2) (hD1 : D2 ≤ 18446744073709551615) (hD : D2 ≤ 1048576) :
    Calls Try.prog 24 #[.agg #[.int .u64 t, .int .u64 r, .int .u64 n, .int .i64 x, .pointer none, .int .i64 k], .int .u64 T, .agg #[.int .u64 m, .int .i64 y, .pointer none]] w fun e' w' => Within T m y e' ∧ Below w.heap.size w w' := by
  obtain ⟨v, hs⟩ := sub_det m y n x k0 k1 h0 h1
  have HS : Hid (∀ w, Calls Try.prog 34 #[.agg #[.int .u64 m, .int .i64 y, .pointer none], .agg #[.int .u64 n, .int .i64 x, .pointer none]] w fun e' w' => e' = .returned (.int .i64 v) ∧ Below w.heap.size w w') := hs
  clear hs
  go_enter Try.func24, Try.ntmps24
  have hDT := wrapu_bd (T - t)
  have hH := wrap64_hi (16 * k)
  obtain ⟨rr, hrr⟩ := mul_some (IntKind.u64.wrap (T - t)) (wrap64 (16 * k)) hDT.1 hDT.2 (by omega) (by omega)
  have hmul : ∀ W, (binOp .mul 55 (.float .f64 (floatOfInt .f64 (IntKind.u64.wrap (T - t)))) (.float .f64 (floatOfInt .f64 (wrap64 (16 * k))))).run Try.prog W = .ok (.float .f64 rr) W := fun W => run_float_arith (P := Try.prog) W .mul 55 .f64 _ _ _ hrr
  clear hrr
  go_wp2_with fail
  clear hE
  go_cut [10] (fun c wc => (∃ z, c = .float .f64 z) ∧ wc.cell? ⟨w.heap.size + 1, 0, none⟩ = some (.int .u64 m) ∧ wc.cell? ⟨w.heap.size + 1, 1, none⟩ = some (.int .i64 y) ∧ wc.cell? ⟨w.heap.size + 1, 2, none⟩ = some (.pointer none) ∧ Below w.heap.size w wc)
  case first =>
    rcases quo_any 55 rr (floatOfInt .f64 v) with ⟨z, hquo⟩ | ⟨F, hquo⟩
    · go_region_with (first
        | (go_at_call 34; refine (HS.out _).mono ?_; rintro e2 w2 ⟨rfl, hb2⟩; have c0 : w2.cell? ⟨w.heap.size + 1, 0, none⟩ = some (.int .u64 m) := later hb2 (by simp); have c1 : w2.cell? ⟨w.heap.size + 1, 1, none⟩ = some (.int .i64 y) := later hb2 (by simp); have c2 : w2.cell? ⟨w.heap.size + 1, 2, none⟩ = some (.pointer none) := later hb2 (by simp); have c3 : w2.cell? ⟨w.heap.size, 0, none⟩ = some (.int .u64 t) := later hb2 (by simp); have HB2 : Hid (Below w.heap.size w w2) := (below2 w _ _).drew.trans (hb2.mono (by simp; omega))))
      all_goals
        go_wp2_with fail
        go_meet
        exact ⟨⟨_, rfl⟩, c0, c1, c2, HB2.out⟩
    · go_region_with (first
        | (go_at_call 34; refine (HS.out _).mono ?_; rintro e2 w2 ⟨rfl, hb2⟩; have c0 : w2.cell? ⟨w.heap.size + 1, 0, none⟩ = some (.int .u64 m) := later hb2 (by simp); have c1 : w2.cell? ⟨w.heap.size + 1, 1, none⟩ = some (.int .i64 y) := later hb2 (by simp); have c2 : w2.cell? ⟨w.heap.size + 1, 2, none⟩ = some (.pointer none) := later hb2 (by simp); have c3 : w2.cell? ⟨w.heap.size, 0, none⟩ = some (.int .u64 t) := later hb2 (by simp); have HB2 : Hid (Below w.heap.size w w2) := (below2 w _ _).drew.trans (hb2.mono (by simp; omega))))
      all_goals
        go_wp2_with fail
        go_meet
        exact ⟨⟨_, rfl⟩, c0, c1, c2, HB2.out.drew⟩
  case rest =>
    obtain ⟨⟨z, rfl⟩, c0, c1, c2, hbc⟩ := hcut
    have HBC : Hid (Below w.heap.size w wc) := hbc
    clear hbc hmul HS hDT hH
    have ho1 : ∃ o, FloatKind.f64.format.order z (floatOfInt .f64 1048576) = o := ⟨_, rfl⟩
    obtain ⟨o1, ho1⟩ := ho1
    rcases o1 with _ | (_ | _ | _)
    · go_wp2_with fail
      refine (ceil_any m y _ k0 k1).mono ?_
      rintro e wz ⟨rfl, hb⟩
      have HB : Hid (Below w.heap.size w wz) := HBC.out.trans (hb.mono HBC.out.size)
      clear hb
      obtain ⟨C, hC⟩ : ∃ C, ceilF m y = C := ⟨_, rfl⟩
      have HC : Hid (ceilF m y = C) := hC
      have hc0 : 0 ≤ C := by rw [← hC]; exact (ceilU_bd _).1
      have hc1 : C ≤ 4611686018427387904 := by rw [← hC]; exact (ceilU_bd _).2
      rw [HC.out]
      clear hC
      by_cases q : T < C
      · go_wp2_with fail
        refine (cap_any T (1048576) _ hT0 hT1 (by omega) (by omega)).mono ?_
        rintro e w2 ⟨rfl, rfl⟩
        obtain ⟨P, hP⟩ : ∃ P, capF T (1048576) = P := ⟨_, rfl⟩
        have HP : Hid (capF T (1048576) = P) := hP
        have hP0 := cap_bd (T := T) (b := 1048576) hT0 hT1 (by omega)
        rw [hP] at hP0
        clear hP
        rw [HP.out]
        go_wp2_with fail
        refine (cap_any C 1048576 _ (by omega) (by omega) (by omega) (by omega)).mono ?_
        rintro e w3 ⟨rfl, rfl⟩
        obtain ⟨Q, hQ⟩ : ∃ Q, capF C 1048576 = Q := ⟨_, rfl⟩
        have HQ : Hid (capF C 1048576 = Q) := hQ
        clear hQ
        rw [HQ.out]
        have HL : Hid (capF T 1048576 ≤ P ∧ capF T 1048576 ≤ Q) := ⟨by rw [← HP.out]; exact cap_le2 (by omega), by rw [← HQ.out]; exact cap_le1 (by omega) (by omega)⟩
        by_cases hPQ : P ≤ Q
        · go_wp2
          go_ret
          exact ⟨within_of HC.out (show max T C = C by omega) HL.out.1 HQ.out HL.out.2 (Or.inl ⟨rfl, by omega⟩), HB.out⟩
        · go_wp2
          go_ret
          exact ⟨within_of HC.out (show max T C = C by omega) HL.out.1 HQ.out HL.out.2 (Or.inr ⟨rfl, by omega⟩), HB.out⟩
      · go_wp2_with fail
        refine (cap_any T (1048576) _ hT0 hT1 (by omega) (by omega)).mono ?_
        rintro e w2 ⟨rfl, rfl⟩
        obtain ⟨P, hP⟩ : ∃ P, capF T (1048576) = P := ⟨_, rfl⟩
        have HP : Hid (capF T (1048576) = P) := hP
        have hP0 := cap_bd (T := T) (b := 1048576) hT0 hT1 (by omega)
        rw [hP] at hP0
        clear hP
        rw [HP.out]
        go_wp2_with fail
        refine (cap_any T 1048576 _ (by omega) (by omega) (by omega) (by omega)).mono ?_
        rintro e w3 ⟨rfl, rfl⟩
        obtain ⟨Q, hQ⟩ : ∃ Q, capF T 1048576 = Q := ⟨_, rfl⟩
        have HQ : Hid (capF T 1048576 = Q) := hQ
        clear hQ
        rw [HQ.out]
        have HL : Hid (capF T 1048576 ≤ P ∧ capF T 1048576 ≤ Q) := ⟨by rw [← HP.out]; exact cap_le2 (by omega), by rw [← HQ.out]; exact cap_le1 (by omega) (by omega)⟩
        by_cases hPQ : P ≤ Q
        · go_wp2
          go_ret
          exact ⟨within_of HC.out (show max T C = T by omega) HL.out.1 HQ.out HL.out.2 (Or.inl ⟨rfl, by omega⟩), HB.out⟩
        · go_wp2
          go_ret
          exact ⟨within_of HC.out (show max T C = T by omega) HL.out.1 HQ.out HL.out.2 (Or.inr ⟨rfl, by omega⟩), HB.out⟩
    · go_wp2_with fail
      refine (ceil_any m y _ k0 k1).mono ?_
      rintro e wz ⟨rfl, hb⟩
      have HB : Hid (Below w.heap.size w wz) := HBC.out.trans (hb.mono HBC.out.size)
      clear hb
      obtain ⟨C, hC⟩ : ∃ C, ceilF m y = C := ⟨_, rfl⟩
      have HC : Hid (ceilF m y = C) := hC
      have hc0 : 0 ≤ C := by rw [← hC]; exact (ceilU_bd _).1
      have hc1 : C ≤ 4611686018427387904 := by rw [← hC]; exact (ceilU_bd _).2
      rw [HC.out]
      clear hC
      by_cases q : T < C
      · go_wp2_with fail
        refine (cap_any T (1048576) _ hT0 hT1 (by omega) (by omega)).mono ?_
        rintro e w2 ⟨rfl, rfl⟩
        obtain ⟨P, hP⟩ : ∃ P, capF T (1048576) = P := ⟨_, rfl⟩
        have HP : Hid (capF T (1048576) = P) := hP
        have hP0 := cap_bd (T := T) (b := 1048576) hT0 hT1 (by omega)
        rw [hP] at hP0
        clear hP
        rw [HP.out]
        go_wp2_with fail
        refine (cap_any C 1048576 _ (by omega) (by omega) (by omega) (by omega)).mono ?_
        rintro e w3 ⟨rfl, rfl⟩
        obtain ⟨Q, hQ⟩ : ∃ Q, capF C 1048576 = Q := ⟨_, rfl⟩
        have HQ : Hid (capF C 1048576 = Q) := hQ
        clear hQ
        rw [HQ.out]
        have HL : Hid (capF T 1048576 ≤ P ∧ capF T 1048576 ≤ Q) := ⟨by rw [← HP.out]; exact cap_le2 (by omega), by rw [← HQ.out]; exact cap_le1 (by omega) (by omega)⟩
        by_cases hPQ : P ≤ Q
        · go_wp2
          go_ret
          exact ⟨within_of HC.out (show max T C = C by omega) HL.out.1 HQ.out HL.out.2 (Or.inl ⟨rfl, by omega⟩), HB.out⟩
        · go_wp2
          go_ret
          exact ⟨within_of HC.out (show max T C = C by omega) HL.out.1 HQ.out HL.out.2 (Or.inr ⟨rfl, by omega⟩), HB.out⟩
      · go_wp2_with fail
        refine (cap_any T (1048576) _ hT0 hT1 (by omega) (by omega)).mono ?_
        rintro e w2 ⟨rfl, rfl⟩
        obtain ⟨P, hP⟩ : ∃ P, capF T (1048576) = P := ⟨_, rfl⟩
        have HP : Hid (capF T (1048576) = P) := hP
        have hP0 := cap_bd (T := T) (b := 1048576) hT0 hT1 (by omega)
        rw [hP] at hP0
        clear hP
        rw [HP.out]
        go_wp2_with fail
        refine (cap_any T 1048576 _ (by omega) (by omega) (by omega) (by omega)).mono ?_
        rintro e w3 ⟨rfl, rfl⟩
        obtain ⟨Q, hQ⟩ : ∃ Q, capF T 1048576 = Q := ⟨_, rfl⟩
        have HQ : Hid (capF T 1048576 = Q) := hQ
        clear hQ
        rw [HQ.out]
        have HL : Hid (capF T 1048576 ≤ P ∧ capF T 1048576 ≤ Q) := ⟨by rw [← HP.out]; exact cap_le2 (by omega), by rw [← HQ.out]; exact cap_le1 (by omega) (by omega)⟩
        by_cases hPQ : P ≤ Q
        · go_wp2
          go_ret
          exact ⟨within_of HC.out (show max T C = T by omega) HL.out.1 HQ.out HL.out.2 (Or.inl ⟨rfl, by omega⟩), HB.out⟩
        · go_wp2
          go_ret
          exact ⟨within_of HC.out (show max T C = T by omega) HL.out.1 HQ.out HL.out.2 (Or.inr ⟨rfl, by omega⟩), HB.out⟩
    · go_wp2_with fail
      refine (ceil_any m y _ k0 k1).mono ?_
      rintro e wz ⟨rfl, hb⟩
      have HB : Hid (Below w.heap.size w wz) := HBC.out.trans (hb.mono HBC.out.size)
      clear hb
      obtain ⟨C, hC⟩ : ∃ C, ceilF m y = C := ⟨_, rfl⟩
      have HC : Hid (ceilF m y = C) := hC
      have hc0 : 0 ≤ C := by rw [← hC]; exact (ceilU_bd _).1
      have hc1 : C ≤ 4611686018427387904 := by rw [← hC]; exact (ceilU_bd _).2
      rw [HC.out]
      clear hC
      by_cases q : T < C
      · go_wp2_with fail
        refine (cap_any T (1048576) _ hT0 hT1 (by omega) (by omega)).mono ?_
        rintro e w2 ⟨rfl, rfl⟩
        obtain ⟨P, hP⟩ : ∃ P, capF T (1048576) = P := ⟨_, rfl⟩
        have HP : Hid (capF T (1048576) = P) := hP
        have hP0 := cap_bd (T := T) (b := 1048576) hT0 hT1 (by omega)
        rw [hP] at hP0
        clear hP
        rw [HP.out]
        go_wp2_with fail
        refine (cap_any C 1048576 _ (by omega) (by omega) (by omega) (by omega)).mono ?_
        rintro e w3 ⟨rfl, rfl⟩
        obtain ⟨Q, hQ⟩ : ∃ Q, capF C 1048576 = Q := ⟨_, rfl⟩
        have HQ : Hid (capF C 1048576 = Q) := hQ
        clear hQ
        rw [HQ.out]
        have HL : Hid (capF T 1048576 ≤ P ∧ capF T 1048576 ≤ Q) := ⟨by rw [← HP.out]; exact cap_le2 (by omega), by rw [← HQ.out]; exact cap_le1 (by omega) (by omega)⟩
        by_cases hPQ : P ≤ Q
        · go_wp2
          go_ret
          exact ⟨within_of HC.out (show max T C = C by omega) HL.out.1 HQ.out HL.out.2 (Or.inl ⟨rfl, by omega⟩), HB.out⟩
        · go_wp2
          go_ret
          exact ⟨within_of HC.out (show max T C = C by omega) HL.out.1 HQ.out HL.out.2 (Or.inr ⟨rfl, by omega⟩), HB.out⟩
      · go_wp2_with fail
        refine (cap_any T (1048576) _ hT0 hT1 (by omega) (by omega)).mono ?_
        rintro e w2 ⟨rfl, rfl⟩
        obtain ⟨P, hP⟩ : ∃ P, capF T (1048576) = P := ⟨_, rfl⟩
        have HP : Hid (capF T (1048576) = P) := hP
        have hP0 := cap_bd (T := T) (b := 1048576) hT0 hT1 (by omega)
        rw [hP] at hP0
        clear hP
        rw [HP.out]
        go_wp2_with fail
        refine (cap_any T 1048576 _ (by omega) (by omega) (by omega) (by omega)).mono ?_
        rintro e w3 ⟨rfl, rfl⟩
        obtain ⟨Q, hQ⟩ : ∃ Q, capF T 1048576 = Q := ⟨_, rfl⟩
        have HQ : Hid (capF T 1048576 = Q) := hQ
        clear hQ
        rw [HQ.out]
        have HL : Hid (capF T 1048576 ≤ P ∧ capF T 1048576 ≤ Q) := ⟨by rw [← HP.out]; exact cap_le2 (by omega), by rw [← HQ.out]; exact cap_le1 (by omega) (by omega)⟩
        by_cases hPQ : P ≤ Q
        · go_wp2
          go_ret
          exact ⟨within_of HC.out (show max T C = T by omega) HL.out.1 HQ.out HL.out.2 (Or.inl ⟨rfl, by omega⟩), HB.out⟩
        · go_wp2
          go_ret
          exact ⟨within_of HC.out (show max T C = T by omega) HL.out.1 HQ.out HL.out.2 (Or.inr ⟨rfl, by omega⟩), HB.out⟩
    · go_wp2_with fail
      refine (ceil_any m y _ k0 k1).mono ?_
      rintro e wz ⟨rfl, hb⟩
      have HB : Hid (Below w.heap.size w wz) := HBC.out.trans (hb.mono HBC.out.size)
      clear hb
      obtain ⟨C, hC⟩ : ∃ C, ceilF m y = C := ⟨_, rfl⟩
      have HC : Hid (ceilF m y = C) := hC
      have hc0 : 0 ≤ C := by rw [← hC]; exact (ceilU_bd _).1
      have hc1 : C ≤ 4611686018427387904 := by rw [← hC]; exact (ceilU_bd _).2
      rw [HC.out]
      clear hC
      by_cases q : T < C
      · go_wp2_with fail
        refine (cap_any T (1048576) _ hT0 hT1 (by omega) (by omega)).mono ?_
        rintro e w2 ⟨rfl, rfl⟩
        obtain ⟨P, hP⟩ : ∃ P, capF T (1048576) = P := ⟨_, rfl⟩
        have HP : Hid (capF T (1048576) = P) := hP
        have hP0 := cap_bd (T := T) (b := 1048576) hT0 hT1 (by omega)
        rw [hP] at hP0
        clear hP
        rw [HP.out]
        go_wp2_with fail
        refine (cap_any C 1048576 _ (by omega) (by omega) (by omega) (by omega)).mono ?_
        rintro e w3 ⟨rfl, rfl⟩
        obtain ⟨Q, hQ⟩ : ∃ Q, capF C 1048576 = Q := ⟨_, rfl⟩
        have HQ : Hid (capF C 1048576 = Q) := hQ
        clear hQ
        rw [HQ.out]
        have HL : Hid (capF T 1048576 ≤ P ∧ capF T 1048576 ≤ Q) := ⟨by rw [← HP.out]; exact cap_le2 (by omega), by rw [← HQ.out]; exact cap_le1 (by omega) (by omega)⟩
        by_cases hPQ : P ≤ Q
        · go_wp2
          go_ret
          exact ⟨within_of HC.out (show max T C = C by omega) HL.out.1 HQ.out HL.out.2 (Or.inl ⟨rfl, by omega⟩), HB.out⟩
        · go_wp2
          go_ret
          exact ⟨within_of HC.out (show max T C = C by omega) HL.out.1 HQ.out HL.out.2 (Or.inr ⟨rfl, by omega⟩), HB.out⟩
      · go_wp2_with fail
        refine (cap_any T (1048576) _ hT0 hT1 (by omega) (by omega)).mono ?_
        rintro e w2 ⟨rfl, rfl⟩
        obtain ⟨P, hP⟩ : ∃ P, capF T (1048576) = P := ⟨_, rfl⟩
        have HP : Hid (capF T (1048576) = P) := hP
        have hP0 := cap_bd (T := T) (b := 1048576) hT0 hT1 (by omega)
        rw [hP] at hP0
        clear hP
        rw [HP.out]
        go_wp2_with fail
        refine (cap_any T 1048576 _ (by omega) (by omega) (by omega) (by omega)).mono ?_
        rintro e w3 ⟨rfl, rfl⟩
        obtain ⟨Q, hQ⟩ : ∃ Q, capF T 1048576 = Q := ⟨_, rfl⟩
        have HQ : Hid (capF T 1048576 = Q) := hQ
        clear hQ
        rw [HQ.out]
        have HL : Hid (capF T 1048576 ≤ P ∧ capF T 1048576 ≤ Q) := ⟨by rw [← HP.out]; exact cap_le2 (by omega), by rw [← HQ.out]; exact cap_le1 (by omega) (by omega)⟩
        by_cases hPQ : P ≤ Q
        · go_wp2
          go_ret
          exact ⟨within_of HC.out (show max T C = T by omega) HL.out.1 HQ.out HL.out.2 (Or.inl ⟨rfl, by omega⟩), HB.out⟩
        · go_wp2
          go_ret
          exact ⟨within_of HC.out (show max T C = T by omega) HL.out.1 HQ.out HL.out.2 (Or.inr ⟨rfl, by omega⟩), HB.out⟩
end Go.Proofs.Qxb6003347a.timekit
