import Derived.Test.Qxb6601003aGuard
import Derived.Deep.OwnRows
namespace Go.Proofs.Qxb6601003a
open Go.ChangeShapes Go.WideShapes Go.ChangeAt Go.RowKit
open byteskit bskit guardkit
set_option linter.unusedVariables false
namespace clonetwo

theorem info24 : (Try.prog.info? 24).map (fun i => (i.zero, i.size, i.bytes)) = some (some (.slice none 0 0), 1, 24) := by kernel_rfl

theorem q29 : ∀ (w : World) (a : Option Addr) (n c n' c' : Nat), (binOp .eql 29 (.slice a n c) (.slice none n' c')).run Try.prog w = .ok (.bool a.isNone) w :=
  fun w a n c n' c' => Lib.run_eql_slice_nil w _ _ a n c n' c' Try.underlying29

def upd (D : Nat → BS) (k : Nat) (d : BS) (i : Nat) : BS := if i = k then d else D i

def Cells (D : Nat → BS) (k i : Nat) : Value := if i < k then (D i).val else .slice none 0 0

theorem cells_is (D : Nat → BS) (k i : Nat) : ∃ a n c, Cells D k i = .slice a n c := by
  unfold Cells; split
  · exact ⟨_, _, _, rfl⟩
  · exact ⟨_, _, _, rfl⟩

theorem step (g n k : Nat) (D : Nat → BS) (d : BS) (wr w1 : World) (hk : k < n) (hrow : wr.rowIs g 24 n (Cells D k)) (hb : Below wr.heap.size wr w1) (hd : d.ok w1) (hok : ∀ i, i < k → (D i).ok wr) :
    (w1.setCell ⟨g, k, none⟩ d.val).rowIs g 24 n (Cells (upd D k d) (k + 1)) ∧ (∀ i, i < k + 1 → (upd D k d i).ok (w1.setCell ⟨g, k, none⟩ d.val)) := by
  have r1 : w1.rowIs g 24 n (Cells D k) := hrow.of_block (hb.block g hrow.lt)
  obtain ⟨a, m, c, hc⟩ := cells_is D k k
  have hcell : w1.cell? ⟨g, k, none⟩ = some (.slice a m c) := by rw [r1.cell hk, hc]
  refine ⟨(r1.set k d.val).congr fun i hi => ?_, fun i hi => ?_⟩
  · unfold Cells upd
    by_cases e : i = k
    · subst e; simp
    · by_cases h : i < k
      · simp [e, h, show i < k + 1 by omega]
      · simp [e, h, show ¬ i < k + 1 by omega]
  · unfold upd
    by_cases e : i = k
    · rw [if_pos e]; exact ok_set hd hcell _
    · rw [if_neg e]; exact ok_set (ok_below (hok i (by omega)) hb) hcell _

theorem upd_eq {D K : Nat → BS} {k : Nat} {d : BS} (h : ∀ i, i < k → (D i).zs = (K i).zs ∧ (D i).a.isNone = (K i).a.isNone) (hd : d.zs = (K k).zs ∧ d.a.isNone = (K k).a.isNone) :
    ∀ i, i < k + 1 → (upd D k d i).zs = (K i).zs ∧ (upd D k d i).a.isNone = (K i).a.isNone := by
  intro i hi
  unfold upd
  by_cases e : i = k
  · rw [if_pos e, e]; exact hd
  · rw [if_neg e]; exact h i (by omega)

theorem clone2_nil (w : World) : Calls Try.prog 18 #[.slice none 0 0] w fun e w' => e = .returned (.slice none 0 0) ∧ w = w' := by
  have q := q29
  go_enter Try.func18, Try.ntmps18
  go_wp2
  go_ret
  exact ⟨rfl, rfl⟩

set_option maxHeartbeats 1000000 in
theorem clone2_some (x : Addr) (n c : Nat) (K : Nat → BS) (w : World) (hn : n ≤ 65536) (hs : ∀ i, i < n → (K i).zs.length ≤ 1048576)
    (hK : ∀ i, i < n → w.cell? (x.add i) = some (K i).val ∧ (K i).ok w) :
    Calls Try.prog 18 #[.slice (some x) n c] w fun e w' => e = .returned (.slice (some ⟨w.heap.size, 0, none⟩) n n) ∧ Below w.heap.size w w' ∧ ∃ D : Nat → BS, w'.rowIs w.heap.size 24 n (Cells D n) ∧
      (∀ i, i < n → (D i).ok w') ∧ ∀ i, i < n → (D i).zs = (K i).zs ∧ (D i).a.isNone = (K i).a.isNone := by
  have q := q29
  have HS : Hid (∀ i, i < n → (K i).zs.length ≤ 1048576) := hs
  have HK : Hid (∀ i, i < n → w.cell? (x.add i) = some (K i).val ∧ (K i).ok w) := hK
  clear hs hK
  have hmk := run_make_row' (P := Try.prog) 29 24 (.slice none 0 0) 24 Try.underlying29 info24 rfl .i64 .i64 n (by omega) (by omega)
  go_enter Try.func18, Try.ntmps18
  go_wp2
  clear hmk q
  go_loopw [4] (fun i wr => ∃ (k : Nat) (D : Nat → BS), k ≤ n ∧ i = .int .i64 k ∧ wr.rowIs w.heap.size 24 n (Cells D k) ∧ Below w.heap.size w wr ∧ (∀ i, i < k → (D i).ok wr) ∧ ∀ i, i < k → (D i).zs = (K i).zs ∧ (D i).a.isNone = (K i).a.isNone)
    (fun i _ => n - (intOf i).toNat)
  case atStart => exact ⟨0, fun _ => BS.nul, Nat.zero_le _, rfl, (World.rowIs_made w _ n 24).congr (fun i hi => by simp [Cells]), (Below.refl _ _).alloc (Nat.le_refl _) _, fun i hi => by omega, fun i hi => by omega⟩
  case round =>
    obtain ⟨k, D, hk, rfl, hrow, hb, hok, heq⟩ := hrel
    have HOK : Hid (∀ i, i < k → (D i).ok wr) := hok
    have HEQ : Hid (∀ i, i < k → (D i).zs = (K i).zs ∧ (D i).a.isNone = (K i).a.isNone) := heq
    have HROW : Hid (wr.rowIs w.heap.size 24 n (Cells D k)) := hrow
    clear hok heq hrow
    by_cases hlt : k < n
    · have hKk := HK.out k hlt
      have hcx : wr.cell? (x.add k) = some (.slice (K k).a (K k).zs.length (K k).c) := (hb.cell (World.block_lt_of_cell? _ _ hKk.1)).trans hKk.1
      have HKK : Hid ((K k).ok wr) := ok_below hKk.2 hb
      clear hKk
      go_wp2_with fail
      refine (clone_any (K k) wr HKK.out (HS.out k hlt)).mono ?_
      rintro e w1 ⟨d, rfl, hd, hz, ha, hb1⟩
      have hst := step w.heap.size n k D d wr w1 hlt HROW.out hb1 hd HOK.out
      have HST : Hid ((w1.setCell ⟨w.heap.size, k, none⟩ d.val).rowIs w.heap.size 24 n (Cells (upd D k d) (k + 1)) ∧ (∀ i, i < k + 1 → (upd D k d i).ok (w1.setCell ⟨w.heap.size, k, none⟩ d.val))) := hst
      have HZ : Hid (d.zs = (K k).zs ∧ d.a.isNone = (K k).a.isNone) := ⟨hz, ha⟩
      have r1 : w1.rowIs w.heap.size 24 n (Cells D k) := HROW.out.of_block (hb1.block _ HROW.out.lt)
      have hfr := r1.frozen k
      obtain ⟨u, hu⟩ : ∃ u, w1.cell? ⟨w.heap.size, k, none⟩ = some u := ⟨_, r1.cell hlt⟩
      have HB : Hid (Below w.heap.size w (w1.setCell ⟨w.heap.size, k, none⟩ d.val)) := (hb.trans (hb1.mono (by have := hb.size; omega))).setCell (Nat.le_refl _) _
      clear hst hz ha hd hcx r1 hb1 hb
      go_wp2
      go_roundw
      case rel => exact ⟨k + 1, upd D k d, by omega, by go_num, HST.out.1, HB.out, HST.out.2, upd_eq HEQ.out HZ.out⟩
      case measure => simp [intOf]; omega
    · go_wp2
      go_ret
      obtain rfl : k = n := by omega
      exact ⟨rfl, hb, D, HROW.out, HOK.out, HEQ.out⟩

theorem addr_at (g i : Nat) : (Addr.add ⟨g, 0, none⟩ i) = ⟨g, i, none⟩ := by
  unfold Addr.add; split
  · subst_vars; rfl
  · simp

theorem clone2_any (b : BB) (w : World) (hb : b.ok w) (hn : b.n ≤ 65536) (hs : ∀ i, i < b.n → (b.K i).zs.length ≤ 1048576) :
    Calls Try.prog 18 #[.slice b.a b.n b.c] w fun e w' => ∃ (A : Option Addr) (D : Nat → BS), e = .returned (.slice A b.n b.n) ∧ BB.ok w' ⟨A, b.n, b.n, D⟩ ∧ A = b.a.map (fun _ => ⟨w.heap.size, 0, none⟩) ∧
      (∀ i, i < b.n → (D i).zs = (b.K i).zs ∧ (D i).a.isNone = (b.K i).a.isNone) ∧ Below w.heap.size w w' := by
  obtain ⟨A, n, c, K⟩ := b
  cases A with
  | none =>
    obtain ⟨rfl, rfl⟩ : n = 0 ∧ c = 0 := hb.1 rfl
    refine (clone2_nil w).mono ?_
    rintro e w' ⟨rfl, rfl⟩
    exact ⟨none, K, rfl, ⟨fun _ => ⟨rfl, rfl⟩, Nat.le_refl _, fun x h => by simp at h⟩, rfl, fun i hi => ⟨rfl, rfl⟩, Below.refl _ _⟩
  | some x =>
    refine (clone2_some x n c K w hn hs (hb.2.2 x rfl)).mono ?_
    rintro e w' ⟨rfl, hbel, D, hrow, hok, heq⟩
    refine ⟨some ⟨w.heap.size, 0, none⟩, D, rfl, ⟨fun h => by simp at h, Nat.le_refl _, ?_⟩, rfl, heq, hbel⟩
    intro y hy i hi
    simp only [Option.some.injEq] at hy
    subst hy
    have hi' : i < n := hi
    rw [addr_at, hrow.cell hi']
    refine ⟨?_, hok i hi⟩
    simp only [Cells, if_pos hi']

theorem bb_below {w w' : World} {b : BB} (h : b.ok w) (hb : Below w.heap.size w w') : b.ok w' :=
  ⟨h.1, h.2.1, fun x hx i hi => by
    have := h.2.2 x hx i hi
    refine ⟨?_, ok_below this.2 hb⟩
    rw [← this.1]
    exact hb.cell (World.block_lt_of_cell? _ _ this.1)⟩

theorem bb_drewN {w : World} {b : BB} (h : b.ok w) (k : Nat) : b.ok (w.drewN k) :=
  ⟨h.1, h.2.1, fun x hx i hi => ⟨by rw [cell_drewN]; exact (h.2.2 x hx i hi).1, ok_drewN (h.2.2 x hx i hi).2 k⟩⟩
end clonetwo
end Go.Proofs.Qxb6601003a
