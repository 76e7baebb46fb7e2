import Derived.Test.Qxb6601003aRows
import Derived.WalkKit
import Derived.ProofKit
import Derived.OpenShut
import Derived.Below
import Derived.Lib.SliceRun
namespace Go.Proofs.Qxb6601003a.byteskit
open Go.ChangeShapes Go.WideShapes Go.ChangeAt Go.RowKit
set_option linter.unusedVariables false

theorem info5 : (Try.prog.info? 5).map (fun i => (i.zero, i.size, i.bytes)) = some (some (.int .u8 0), 1, 1) := by kernel_rfl

theorem q24 : ∀ (w : World) (a : Option Addr) (n c n' c' : Nat), (binOp .eql 24 (.slice a n c) (.slice none n' c')).run Try.prog w = .ok (.bool a.isNone) w :=
  fun w a n c n' c' => Lib.run_eql_slice_nil w _ _ a n c n' c' Try.underlying24

def vals (zs : List Int) : List Value := zs.map (Value.int .u8)

def mix (zs : List Int) (k : Nat) : List Value := vals (zs.take k) ++ List.replicate (zs.length - k) (.int .u8 0)

theorem add_block (x : Addr) (k : Nat) : (x.add k).block = x.block := by
  unfold Addr.add; split <;> rfl

theorem getD_at (zs : List Int) (k : Nat) (h : k < zs.length) : zs.getD k 0 = zs[k] := by
  simp [List.getD_eq_getElem?_getD, List.getElem?_eq_getElem h]

theorem mix_zero (zs : List Int) : (madeCells #[Value.int .u8 0] zs.length).toList = mix zs 0 := by
  rw [toList_madeCells_one]
  simp [mix, vals]

theorem mix_end (zs : List Int) : mix zs zs.length = vals zs := by
  simp [mix, vals]

theorem mix_len (zs : List Int) (k : Nat) (h : k ≤ zs.length) : (mix zs k).length = zs.length := by
  simp [mix, vals]; omega

theorem mix_step (zs : List Int) (k : Nat) (h : k < zs.length) : (mix zs k).set k (.int .u8 zs[k]) = mix zs (k + 1) := by
  unfold mix vals
  rw [List.set_append_right _ _ (by simp; omega)]
  rw [List.take_succ_eq_append_getElem h]
  have e : zs.length - k = (zs.length - (k + 1)) + 1 := by omega
  have e2 : k - (List.map (Value.int IntKind.u8) (List.take k zs)).length = 0 := by simp; omega
  rw [e, e2, List.replicate_succ, List.set_cons_zero]
  simp only [List.map_append, List.map_cons, List.map_nil, List.append_assoc, List.cons_append, List.nil_append]

theorem clone_nil (w : World) : Calls Try.prog 12 #[.slice none 0 0] w fun e w' => e = .returned (.slice none 0 0) ∧ w' = w := by
  have q := q24
  go_enter Try.func12, Try.ntmps12
  go_wp2
  go_ret
  exact ⟨rfl, rfl⟩

set_option maxHeartbeats 400000 in
theorem clone_some (x : Addr) (zs : List Int) (cap : Nat) (w : World) (hn : zs.length ≤ 1048576)
    (hc : ∀ i, i < zs.length → w.cell? (x.add i) = some (.int .u8 (zs.getD i 0))) :
    Calls Try.prog 12 #[.slice (some x) zs.length cap] w fun e w' => e = .returned (.slice (some ⟨w.heap.size, 0, none⟩) zs.length zs.length) ∧
      w'.ownsRow w.heap.size 5 1 (.slice (some ⟨w.heap.size, 0, none⟩) zs.length zs.length) zs.length (vals zs) ∧ Below w.heap.size w w' := by
  obtain ⟨i0, hi, hz0, hz1, hz2⟩ := info_parts info5
  have q := q24
  go_enter Try.func12, Try.ntmps12
  go_wp2_with (first
    | (at_make; refine wpList_make_full _ rfl _ _ 24 rfl w.heap.size 5 i0 (.int .u8 0) 1 Try.underlying24 hi hz0 hz1 .i64 .i64 zs.length zs.length zs.length rfl rfl rfl rfl ?c1 ?c2 ?c3 ?_))
  case c1 => rw [hz2]; omega
  case c2 => unfold maxLen; omega
  case c3 => exact Nat.le_refl _
  intro w1 hown hgrow
  go_wp2
  go_loopw [4] (fun i wr => ∃ k : Nat, k ≤ zs.length ∧ i = .int .i64 k ∧ wr.ownsRow w.heap.size 5 1 (.slice (some ⟨w.heap.size, 0, none⟩) zs.length zs.length) zs.length (mix zs k) ∧ Below w.heap.size w wr)
    (fun i _ => zs.length - (intOf i).toNat)
  case atStart => exact ⟨0, Nat.zero_le _, rfl, by rw [← mix_zero]; exact hown, (Below.refl _ _).grown hgrow (Nat.le_refl _) (fun k hk => by cases hk)⟩
  case round =>
    obtain ⟨k, hk, rfl, hownr, hb⟩ := hrel
    by_cases hlt : k < zs.length
    · have hcx : wr.cell? (x.add k) = some (.int .u8 zs[k]) := by
        rw [← getD_at zs k hlt]; exact (hb.cell (p := x.add k) (World.block_lt_of_cell? _ _ (hc k hlt))).trans (hc k hlt)
      have hfr := hownr.frozenAt k
      obtain ⟨u, hu⟩ : ∃ u, wr.cell? ⟨w.heap.size, k, none⟩ = some u := ⟨(mix zs k)[k]'(by rw [mix_len _ _ hk]; exact hlt), by
        rw [hownr.cellAt k (by omega), List.getElem?_eq_getElem]⟩
      have hst := hownr.stored k (.int .u8 zs[k])
      rw [mix_step zs k hlt] at hst
      obtain ⟨HS, HG⟩ := hst
      have HB := hb.grown HG (by have := hb.size; omega) (fun j hj => by cases hj; exact Nat.le_refl _)
      go_wp2
      go_roundw
      case rel => exact ⟨k + 1, by omega, by go_num, HS, HB⟩
      case measure => simp [intOf]; omega
    · go_wp2
      go_ret
      have e : k = zs.length := by omega
      rw [e, mix_end] at hownr
      exact ⟨rfl, hownr, hb⟩
end Go.Proofs.Qxb6601003a.byteskit
