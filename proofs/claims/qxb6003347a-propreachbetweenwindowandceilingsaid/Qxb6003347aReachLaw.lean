import Derived.Test.Qxb6003347aReachAll
namespace Go.Proofs.Qxb6003347a.reachlaw
open Go.ChangeShapes Go.WideShapes Go.ChangeAt Go.RowKit
open timekit
set_option linter.unusedVariables false

set_option maxHeartbeats 2000000 in
theorem inside (a r ds dn k T ns nn : Int) (w : World) (hT0 : 0 ≤ T) (hT1 : T ≤ 18446744073709551615) (d1 : -1099511627776 ≤ ds) (d2 : ds ≤ 1099511627776) (d3 : 0 ≤ dn) (d4 : dn < 1000000000) (n1 : -1099511627776 ≤ ns) (n2 : ns ≤ 1099511627776) (n3 : 0 ≤ nn) (n4 : nn < 1000000000) :
    Calls Try.prog 3 #[.int .u64 a, .int .u64 r, .int .i64 ds, .int .i64 dn, .int .i64 k, .int .u64 T, .int .i64 ns, .int .i64 nn] w fun e w' => e = .returned (.bool true) ∧ Below w.heap.size w w' := by
  have e1 : decide (ds < -1099511627776) = false := by simp; omega
  have e2 : decide (1099511627776 < ds) = false := by simp; omega
  have e3 : decide (dn < 0) = false := by simp; omega
  have e4 : decide (1000000000 ≤ dn) = false := by simp; omega
  have e5 : decide (ns < -1099511627776) = false := by simp; omega
  have e6 : decide (1099511627776 < ns) = false := by simp; omega
  have e7 : decide (nn < 0) = false := by simp; omega
  have e8 : decide (1000000000 ≤ nn) = false := by simp; omega
  go_enter Try.func3, Try.ntmps3
  go_wp2_with fail
  refine (instant_any ds dn _ d1 d2).mono ?_
  rintro e w1 ⟨n, x, rfl, hn0, hn1, hb1⟩
  clear e1 e2 e3 e4 e5 e6 e7 e8
  go_wp2_with fail
  refine (newState a r n x k _).mono ?_
  rintro e w2 ⟨rfl, hb2⟩
  have B2 : Hid (Below w.heap.size w w2) := hb1.trans (hb2.mono hb1.size)
  clear hb1 hb2
  go_wp2_with fail
  refine (instant_any ns nn _ n1 n2).mono ?_
  rintro e w3 ⟨m, y, rfl, hm0, hm1, hb3⟩
  have s0 : w3.cell? ⟨w2.heap.size, 0, none⟩ = some (.int .u64 a) := later hb3 (by simp)
  have s1 : w3.cell? ⟨w2.heap.size, 1, none⟩ = some (.int .u64 r) := later hb3 (by simp)
  have s2 : w3.cell? ⟨w2.heap.size, 2, none⟩ = some (.int .u64 n) := later hb3 (by simp)
  have s3 : w3.cell? ⟨w2.heap.size, 3, none⟩ = some (.int .i64 x) := later hb3 (by simp)
  have s4 : w3.cell? ⟨w2.heap.size, 4, none⟩ = some (.pointer none) := later hb3 (by simp)
  have s5 : w3.cell? ⟨w2.heap.size, 5, none⟩ = some (.int .i64 k) := later hb3 (by simp)
  have hz : w2.heap.size < w3.heap.size := World.block_lt_of_cell? w3 ⟨w2.heap.size, 0, none⟩ s0
  have B3 : Hid (Below w.heap.size w w3) := (B2.out.alloc B2.out.size _).trans (hb3.mono (by have := B2.out.size; simp; omega))
  clear hb3 B2
  go_wp2_with fail
  refine (zreach_any a r n x k T m y _ hm0 hm1 hT0 hT1 hn0 hn1).mono ?_
  rintro e w4 ⟨⟨v, rfl, hv0, hv1⟩, hb4⟩
  have b0 : w4.cell? ⟨w3.heap.size, 0, none⟩ = some (.int .u64 m) := later hb4 (by simp)
  have b1 : w4.cell? ⟨w3.heap.size, 1, none⟩ = some (.int .i64 y) := later hb4 (by simp)
  have b2 : w4.cell? ⟨w3.heap.size, 2, none⟩ = some (.pointer none) := later hb4 (by simp)
  have B4 : Hid (Below w.heap.size w w4) := (B3.out.alloc B3.out.size _).trans (hb4.mono (by have := B3.out.size; simp; omega))
  have HL : Hid (capF T 1048576 ≤ v) := hv0
  have HV : Hid (v ≤ capF (max T (ceilF m y)) 1048576) := hv1
  clear hv0 hv1 hb4 B3 s0 s1 s2 s3 s4 s5
  go_wp2_with fail
  refine (zcap_any T 1048576 _ hT0 hT1 (by omega) (by omega)).mono ?_
  rintro e w5 ⟨rfl, rfl⟩
  have hl := HL.out
  generalize capF T 1048576 = L at hl ⊢
  clear HL
  go_wp2_with fail
  refine (zceil_any m y _ hm0 hm1).mono ?_
  rintro e w6 ⟨rfl, hb6⟩
  have HB : Hid (Below w.heap.size w w6) := B4.out.trans (hb6.mono B4.out.size)
  clear hb6 b0 b1 b2 B4
  obtain ⟨C, hC⟩ : ∃ C, ceilF m y = C := ⟨_, rfl⟩
  have HC : Hid (ceilF m y = C) := hC
  have hc0 : 0 ≤ C := by rw [← hC]; exact (ceilU_bd _).1
  have hc1 : C ≤ 4611686018427387904 := by rw [← hC]; exact (ceilU_bd _).2
  rw [HC.out]
  clear hC
  by_cases q : T < C
  · go_wp2_with fail
    refine (zcap_any C 1048576 _ (by omega) (by omega) (by omega) (by omega)).mono ?_
    rintro e w7 ⟨rfl, rfl⟩
    have hh : v ≤ capF C 1048576 := by rw [← (show max T C = C by omega), ← HC.out]; exact HV.out
    generalize capF C 1048576 = Q at hh ⊢
    go_wp2
    go_ret
    exact ⟨rfl, HB.out⟩
  · go_wp2_with fail
    refine (zcap_any T 1048576 _ (by omega) (by omega) (by omega) (by omega)).mono ?_
    rintro e w7 ⟨rfl, rfl⟩
    have hh : v ≤ capF T 1048576 := by rw [← (show max T C = T by omega), ← HC.out]; exact HV.out
    generalize capF T 1048576 = Q at hh ⊢
    go_wp2
    go_ret
    exact ⟨rfl, HB.out⟩

set_option maxHeartbeats 2000000 in
theorem law (a r ds dn k T ns nn : Int) (w : World) (hT0 : 0 ≤ T) (hT1 : T ≤ 18446744073709551615) :
    Calls Try.prog 3 #[.int .u64 a, .int .u64 r, .int .i64 ds, .int .i64 dn, .int .i64 k, .int .u64 T, .int .i64 ns, .int .i64 nn] w fun e w' => e = .returned (.bool true) ∧ Below w.heap.size w w' := by
  by_cases t0 : ds < -1099511627776
  · go_enter Try.func3, Try.ntmps3
    go_wp2
    go_ret
    exact ⟨rfl, Below.refl _ _⟩
  have f0 : decide (ds < -1099511627776) = false := by simp; omega
  by_cases t1 : 1099511627776 < ds
  · go_enter Try.func3, Try.ntmps3
    go_wp2
    go_ret
    exact ⟨rfl, Below.refl _ _⟩
  have f1 : decide (1099511627776 < ds) = false := by simp; omega
  by_cases t2 : dn < 0
  · go_enter Try.func3, Try.ntmps3
    go_wp2
    go_ret
    exact ⟨rfl, Below.refl _ _⟩
  have f2 : decide (dn < 0) = false := by simp; omega
  by_cases t3 : 1000000000 ≤ dn
  · go_enter Try.func3, Try.ntmps3
    go_wp2
    go_ret
    exact ⟨rfl, Below.refl _ _⟩
  have f3 : decide (1000000000 ≤ dn) = false := by simp; omega
  by_cases t4 : ns < -1099511627776
  · go_enter Try.func3, Try.ntmps3
    go_wp2
    go_ret
    exact ⟨rfl, Below.refl _ _⟩
  have f4 : decide (ns < -1099511627776) = false := by simp; omega
  by_cases t5 : 1099511627776 < ns
  · go_enter Try.func3, Try.ntmps3
    go_wp2
    go_ret
    exact ⟨rfl, Below.refl _ _⟩
  have f5 : decide (1099511627776 < ns) = false := by simp; omega
  by_cases t6 : nn < 0
  · go_enter Try.func3, Try.ntmps3
    go_wp2
    go_ret
    exact ⟨rfl, Below.refl _ _⟩
  have f6 : decide (nn < 0) = false := by simp; omega
  by_cases t7 : 1000000000 ≤ nn
  · go_enter Try.func3, Try.ntmps3
    go_wp2
    go_ret
    exact ⟨rfl, Below.refl _ _⟩
  have f7 : decide (1000000000 ≤ nn) = false := by simp; omega
  exact inside a r ds dn k T ns nn w hT0 hT1 (by omega) (by omega) (by omega) (by omega) (by omega) (by omega) (by omega) (by omega)
end Go.Proofs.Qxb6003347a.reachlaw
