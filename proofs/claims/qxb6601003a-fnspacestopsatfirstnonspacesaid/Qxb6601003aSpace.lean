import Derived.Test.Qxb6601003aBytes
import Derived.Deep.QuietTactic
import Derived.BigQuiet
import Derived.WalkSmall
namespace Go.Proofs.Qxb6601003a.spacekit
open Go.ChangeShapes Go.WideShapes Go.ChangeAt Go.RowKit
open byteskit
set_option linter.unusedVariables false

def spB (c : Int) : Bool := decide (c = 32 ∨ c = 9 ∨ c = 10 ∨ c = 13)

set_option maxHeartbeats 400000 in
theorem isspace_any (c : Int) (w : World) :
    Calls Try.prog 14 #[.int .u8 c] w fun e w' => e = .returned (.bool (spB c)) ∧ w = w' := by
  have H : ∀ b, b = spB c → Ending.returned (.bool b) = Ending.returned (.bool (spB c)) := fun b h => by rw [h]
  go_enter Try.func14, Try.ntmps14
  go_wp2
  all_goals
    go_ret
    refine ⟨H _ ?_, rfl⟩
    unfold spB
    rw [Bool.eq_iff_iff]
    simp
    try omega

set_option maxHeartbeats 400000 in
theorem space_past (B : Nat) (a : Option Addr) (n c : Nat) (i : Int) (w : World) (h0 : w.cell? ⟨B, 0, none⟩ = some (.slice a n c)) (h1 : w.cell? ⟨B, 1, none⟩ = some (.int .i64 i)) (hi : (n : Int) ≤ i) :
    Calls Try.prog 23 #[.pointer (some ⟨B, 0, none⟩)] w fun e w' => e = .returned (.tuple #[]) ∧ ∃ k, w' = w.drewN k := by
  go_enter Try.func23, Try.ntmps23
  go_wp2
  refine wp_loop_rounds 1 ?_
  rw [rounds_succ]
  go_wp2
  go_quiet (fail)
  go_wp2
  go_end0
  exact ⟨rfl, _, rfl⟩

theorem step_world (B m : Nat) (w wr : World) (u v s : Value) (hb : Below B w wr) (hc0 : wr.cell? ⟨B, 0, none⟩ = some s) (hc1 : wr.cell? ⟨B, 1, none⟩ = some u) (hf : wr.frozen? ⟨B, 1, none⟩ = false) :
    Below B w ((wr.drewN m).setCell ⟨B, 1, none⟩ v) ∧ ((wr.drewN m).setCell ⟨B, 1, none⟩ v).cell? ⟨B, 0, none⟩ = some s ∧
      ((wr.drewN m).setCell ⟨B, 1, none⟩ v).frozen? ⟨B, 1, none⟩ = false ∧ ((wr.drewN m).setCell ⟨B, 1, none⟩ v).cell? ⟨B, 1, none⟩ = some v := by
  have d0 : (wr.drewN m).cell? ⟨B, 0, none⟩ = some s := by simpa using hc0
  have d1 : (wr.drewN m).cell? ⟨B, 1, none⟩ = some u := by simpa using hc1
  refine ⟨(below_drewN hb m).setCell (Nat.le_refl _) _, ?_, ?_, World.cell?_setCell_same _ _ _ d1⟩
  · rw [World.cell?_setCell_other _ _ _ _ (by simp)]; exact d0
  · rw [World.frozen?_setCell]; simpa using hf

theorem sp_yes (zs : List Int) (i r : Nat) (h : r < zs.length) (hs : spB zs[r] = true) (hp : ∀ j, i ≤ j → j < r → spB (zs.getD j 0) = true) : ∀ j, i ≤ j → j < r + 1 → spB (zs.getD j 0) = true := by
  intro j h1 h2
  by_cases e : j < r
  · exact hp j h1 e
  · obtain rfl : j = r := by omega
    rw [getD_at zs j h]; exact hs

theorem round_rel (B m : Nat) (zs : List Int) (i r : Nat) (w wr : World) (u s : Value) (hlt : r < zs.length) (hs : spB zs[r] = true) (hir : i ≤ r) (hp : ∀ j, i ≤ j → j < r → spB (zs.getD j 0) = true)
    (hb : Below B w wr) (hc0 : wr.cell? ⟨B, 0, none⟩ = some s) (hc1 : wr.cell? ⟨B, 1, none⟩ = some (.int .i64 r)) (hf : wr.frozen? ⟨B, 1, none⟩ = false) :
    (Below B w ((wr.drewN m).setCell ⟨B, 1, none⟩ (.int .i64 ((r : Int) + 1))) ∧ ((wr.drewN m).setCell ⟨B, 1, none⟩ (.int .i64 ((r : Int) + 1))).cell? ⟨B, 0, none⟩ = some s ∧
      ((wr.drewN m).setCell ⟨B, 1, none⟩ (.int .i64 ((r : Int) + 1))).frozen? ⟨B, 1, none⟩ = false ∧ ∃ r' : Nat, i ≤ r' ∧ r' ≤ zs.length ∧ ((wr.drewN m).setCell ⟨B, 1, none⟩ (.int .i64 ((r : Int) + 1))).cell? ⟨B, 1, none⟩ = some (.int .i64 (r' : Int)) ∧
      (∀ j, i ≤ j → j < r' → spB (zs.getD j 0) = true)) ∧
    zs.length - (intOf ((((wr.drewN m).setCell ⟨B, 1, none⟩ (.int .i64 ((r : Int) + 1))).cell? ⟨B, 1, none⟩).getD (.int .i64 0))).toNat < zs.length - (intOf ((wr.cell? ⟨B, 1, none⟩).getD (.int .i64 0))).toNat := by
  obtain ⟨x1, x2, x3, x4⟩ := step_world B m w wr _ (.int .i64 ((r : Int) + 1)) s hb hc0 hc1 hf
  refine ⟨⟨x1, x2, x3, r + 1, by omega, by omega, by rw [x4]; rfl, sp_yes zs i r hlt hs hp⟩, ?_⟩
  rw [x4, hc1]
  simp [intOf]
  omega

theorem spB_of (c : Int) (h : (c == 32) = true ∨ (c == 9) = true ∨ (c == 10) = true ∨ (c == 13) = true) : spB c = true := by
  simp only [beq_iff_eq] at h
  simp only [spB, decide_eq_true_eq]
  omega
theorem spB_not (c : Int) (h1 : (c == 32) = false) (h2 : (c == 9) = false) (h3 : (c == 10) = false) (h4 : (c == 13) = false) : spB c = false := by
  simp only [beq_eq_false_iff_ne] at *
  simp only [spB, decide_eq_false_iff_not]
  omega

set_option maxHeartbeats 400000 in
theorem space_from (B g : Nat) (zs : List Int) (c : Nat) (i : Nat) (w : World) (hn : zs.length ≤ 1048576) (hgB : g < B)
    (h0 : w.cell? ⟨B, 0, none⟩ = some (.slice (some ⟨g, 0, none⟩) zs.length c)) (h1 : w.cell? ⟨B, 1, none⟩ = some (.int .i64 i)) (hf : w.frozen? ⟨B, 1, none⟩ = false)
    (hz : ∀ j, j < zs.length → w.cell? ⟨g, j, none⟩ = some (.int .u8 (zs.getD j 0))) (hi : i ≤ zs.length) :
    Calls Try.prog 23 #[.pointer (some ⟨B, 0, none⟩)] w fun e w' => e = .returned (.tuple #[]) ∧ Below B w w' ∧
      ∃ r : Nat, i ≤ r ∧ r ≤ zs.length ∧ w'.cell? ⟨B, 1, none⟩ = some (.int .i64 r) ∧ (∀ j, i ≤ j → j < r → spB (zs.getD j 0) = true) ∧ (r < zs.length → spB (zs.getD r 0) = false) := by
  go_enter Try.func23, Try.ntmps23
  go_wp2
  go_loopw [] (fun wr => Below B w wr ∧ wr.cell? ⟨B, 0, none⟩ = some (.slice (some ⟨g, 0, none⟩) zs.length c) ∧ wr.frozen? ⟨B, 1, none⟩ = false ∧
      ∃ r : Nat, i ≤ r ∧ r ≤ zs.length ∧ wr.cell? ⟨B, 1, none⟩ = some (.int .i64 r) ∧ (∀ j, i ≤ j → j < r → spB (zs.getD j 0) = true))
    (fun wr => zs.length - (intOf ((wr.cell? ⟨B, 1, none⟩).getD (.int .i64 0))).toNat)
  case atStart => exact ⟨Below.refl _ _, h0, hf, i, Nat.le_refl _, hi, h1, fun j a b => by omega⟩
  case round =>
    obtain ⟨hb, hc0, hfr, r, hir, hr, hc1, hsp⟩ := hrel
    have HSP : Hid (∀ j, i ≤ j → j < r → spB (zs.getD j 0) = true) := hsp
    clear hsp
    by_cases hlt : r < zs.length
    · have hcz : wr.cell? ⟨g, r, none⟩ = some (.int .u8 zs[r]) := by
        rw [← getD_at zs r hlt]; exact (hb.cell (p := ⟨g, r, none⟩) hgB).trans (hz r hlt)
      clear h0 h1 hf hz
      go_wp2
      go_quiet (fail)
      go_wp2
      go_quiet (fail)
      go_wp2
      · exact round_rel B _ zs i r w wr (.int .i64 r) _ hlt (spB_of _ (Or.inl ‹_›)) hir HSP.out hb hc0 hc1 hfr
      · exact round_rel B _ zs i r w wr (.int .i64 r) _ hlt (spB_of _ (Or.inr (Or.inl ‹_›))) hir HSP.out hb hc0 hc1 hfr
      · exact round_rel B _ zs i r w wr (.int .i64 r) _ hlt (spB_of _ (Or.inr (Or.inr (Or.inl ‹_›)))) hir HSP.out hb hc0 hc1 hfr
      · exact round_rel B _ zs i r w wr (.int .i64 r) _ hlt (spB_of _ (Or.inr (Or.inr (Or.inr ‹_›)))) hir HSP.out hb hc0 hc1 hfr
      · refine bodyPost_ret (results_none rfl _ _ _) rfl ?_
        exact ⟨rfl, below_drewN hb _, r, hir, hr, by simpa using hc1, HSP.out, fun h => by rw [getD_at zs r hlt]; exact spB_not _ ‹_› ‹_› ‹_› ‹_›⟩
    · clear h0 h1 hf hz
      go_wp2
      go_quiet (fail)
      go_wp2
      go_end0
      exact ⟨rfl, below_drewN hb _, r, hir, hr, by simpa using hc1, HSP.out, fun h => absurd h hlt⟩

set_option maxHeartbeats 400000 in
theorem zspace_past (a : Option Addr) (n c : Nat) (i : Int) (w : World) (hi : (n : Int) ≤ i) :
    Calls Try.prog 13 #[.slice a n c, .int .i64 i] w fun e w' => e = .returned (.int .i64 i) ∧ Below w.heap.size w w' := by
  go_enter Try.func13, Try.ntmps13
  go_wp2_with fail
  refine (space_past w.heap.size a n c i _ ?_ ?_ hi).mono ?_
  · simp
  · simp
  rintro e w' ⟨rfl, k, rfl⟩
  go_wp2
  go_ret
  refine ⟨rfl, ?_⟩
  exact below_drewN ((Below.refl _ _).alloc (Nat.le_refl _) _) _

set_option maxHeartbeats 400000 in
theorem zspace_from (g : Nat) (zs : List Int) (c : Nat) (i : Nat) (w : World) (hn : zs.length ≤ 1048576) (hg : g < w.heap.size)
    (hz : ∀ j, j < zs.length → w.cell? ⟨g, j, none⟩ = some (.int .u8 (zs.getD j 0))) (hi : i ≤ zs.length) :
    Calls Try.prog 13 #[.slice (some ⟨g, 0, none⟩) zs.length c, .int .i64 i] w fun e w' => ∃ r : Nat, e = .returned (.int .i64 r) ∧ Below w.heap.size w w' ∧
      i ≤ r ∧ r ≤ zs.length ∧ (∀ j, i ≤ j → j < r → spB (zs.getD j 0) = true) ∧ (r < zs.length → spB (zs.getD r 0) = false) := by
  go_enter Try.func13, Try.ntmps13
  go_wp2_with fail
  refine (space_from w.heap.size g zs c i _ hn hg ?_ ?_ ?_ ?_ hi).mono ?_
  · simp
  · simp
  · simp
  · intro j hj
    rw [← hz j hj]
    exact Below.cell ((Below.refl _ _).alloc (Nat.le_refl _) _) hg
  rintro e w' ⟨rfl, hb, r, h1, h2, h3, h4, h5⟩
  have H4 : Hid (∀ j, i ≤ j → j < r → spB (zs.getD j 0) = true) := h4
  have H5 : Hid (r < zs.length → spB (zs.getD r 0) = false) := h5
  clear h4 h5 hz
  go_wp2
  go_ret
  refine ⟨r, rfl, ?_, h1, h2, H4.out, H5.out⟩
  exact ((Below.refl _ _).alloc (Nat.le_refl _) _).trans hb
end Go.Proofs.Qxb6601003a.spacekit
