import Derived.Test.Qxb6003347aFastOne
import Derived.Test.Qxb6003347aFastTwo
import Derived.Test.Qxb6003347aInstant
namespace Go.Proofs.Qxb6003347a.timekit
open Go.ChangeShapes Go.WideShapes Go.ChangeAt Go.RowKit
set_option linter.unusedVariables false

theorem reach_any (t r n x k T m y : Int) (w : World) (k0 : 0 ≤ m) (k1 : m < 1000000000) (hT0 : 0 ≤ T) (hT1 : T ≤ 18446744073709551615) (h0 : 0 ≤ n) (h1 : n < 1000000000) :
    Calls Try.prog 24 #[.agg #[.int .u64 t, .int .u64 r, .int .u64 n, .int .i64 x, .pointer none, .int .i64 k], .int .u64 T, .agg #[.int .u64 m, .int .i64 y, .pointer none]] w fun e' w' => Within T m y e' ∧ Below w.heap.size w w' := by
  by_cases hk : 0 < wrap64 (16 * k)
  · have hb := wrapu_bd (2 * IntKind.u64.wrap (r - t))
    by_cases hD : 1048576 < IntKind.u64.wrap (2 * IntKind.u64.wrap (r - t))
    · exact reach_fast1 t r n x k T m y w k0 k1 hT0 hT1 h0 h1 hk _ rfl hb.1 hb.2 hD
    · exact reach_fast2 t r n x k T m y w k0 k1 hT0 hT1 h0 h1 hk _ rfl hb.1 hb.2 (by omega)
  · exact reach_slow t r n x k T m y w k0 k1 hT0 hT1 hk

set_option maxHeartbeats 1000000 in
theorem zreach_any (t r n x k T m y : Int) (w : World) (k0 : 0 ≤ m) (k1 : m < 1000000000) (hT0 : 0 ≤ T) (hT1 : T ≤ 18446744073709551615) (h0 : 0 ≤ n) (h1 : n < 1000000000) :
    Calls Try.prog 8 #[.agg #[.int .u64 t, .int .u64 r, .int .u64 n, .int .i64 x, .pointer none, .int .i64 k], .int .u64 T, .agg #[.int .u64 m, .int .i64 y, .pointer none]] w fun e' w' => Within T m y e' ∧ Below w.heap.size w w' := by
  go_enter Try.func8, Try.ntmps8
  go_wp2_with fail
  refine (reach_any t r n x k T m y _ k0 k1 hT0 hT1 h0 h1).mono ?_
  rintro e w1 ⟨⟨v, rfl, hv0, hv1⟩, hb⟩
  have HV : Hid (capF T 1048576 ≤ v ∧ v ≤ capF (max T (ceilF m y)) 1048576) := ⟨hv0, hv1⟩
  have HB : Hid (Below w.heap.size w w1) := (below2 w _ _).trans (hb.mono (by simp; omega))
  clear hv0 hv1 hb
  go_wp2
  go_ret
  exact ⟨⟨v, rfl, HV.out.1, HV.out.2⟩, HB.out⟩
end Go.Proofs.Qxb6003347a.timekit
