import Derived.Test.Qxb6601003aBytes
import Derived.Deep.QuietTactic
import Derived.BigQuiet
import Derived.WalkSmall
namespace Go.Proofs.Qxb6601003a
open Go.ChangeShapes Go.WideShapes Go.ChangeAt Go.RowKit
open byteskit
set_option linter.unusedVariables false

structure BS where
  a : Option Addr
  c : Nat
  zs : List Int

def BS.val (b : BS) : Value := .slice b.a b.zs.length b.c
def BS.nul : BS := ⟨Option.none, 0, []⟩
def BS.ok (w : World) (b : BS) : Prop :=
  (b.a = Option.none → b.zs = [] ∧ b.c = 0) ∧ (∀ z ∈ b.zs, 0 ≤ z ∧ z ≤ 255) ∧
    ∀ x, b.a = some x → ∀ i, i < b.zs.length → w.cell? (x.add i) = some (.int .u8 (b.zs.getD i 0))

namespace bskit

theorem nul_ok (w : World) : BS.nul.ok w := by
  refine ⟨fun _ => ⟨rfl, rfl⟩, ?_, ?_⟩
  · intro z h; simp [BS.nul] at h
  · intro x h; simp [BS.nul] at h

theorem ok_below {w w' : World} {b : BS} (h : b.ok w) (hb : Below w.heap.size w w') : b.ok w' :=
  ⟨h.1, h.2.1, fun x hx i hi => by
    have := h.2.2 x hx i hi
    rw [← this]
    exact hb.cell (World.block_lt_of_cell? _ _ this)⟩

theorem cell_drewN (w : World) (k : Nat) (p : Addr) : (w.drewN k).cell? p = w.cell? p := by simp

theorem ok_drewN {w : World} {b : BS} (h : b.ok w) (k : Nat) : b.ok (w.drewN k) :=
  ⟨h.1, h.2.1, fun x hx i hi => by rw [cell_drewN]; exact h.2.2 x hx i hi⟩

theorem ok_set {w : World} {b : BS} {p : Addr} {a : Option Addr} {n c : Nat} (h : b.ok w) (hp : w.cell? p = some (.slice a n c)) (v : Value) : b.ok (w.setCell p v) :=
  ⟨h.1, h.2.1, fun x hx i hi => by
    have h1 := h.2.2 x hx i hi
    rw [World.cell?_setCell_other _ _ _ _ (by rintro rfl; rw [h1] at hp; simp at hp)]
    exact h1⟩

theorem ret_bool {a b : Bool} (h : a = b) : Ending.returned (.bool a) = .returned (.bool b) := by rw [h]

def eqB (a b : List Int) : Bool := decide (a = b)

theorem eqB_len {a b : List Int} (h : ¬ a.length = b.length) : eqB a b = false := by
  simp only [eqB, decide_eq_false_iff_not]
  rintro rfl; exact h rfl

theorem eqB_at {a b : List Int} {k : Nat} (h : ¬ a.getD k 0 = b.getD k 0) : eqB a b = false := by
  simp only [eqB, decide_eq_false_iff_not]
  rintro rfl; exact h rfl

theorem eqB_all {a b : List Int} (hl : a.length = b.length) (h : ∀ j, j < a.length → a.getD j 0 = b.getD j 0) : eqB a b = true := by
  simp only [eqB, decide_eq_true_eq]
  refine List.ext_getElem hl fun i h1 h2 => ?_
  have := h i h1
  rw [getD_at a i h1, getD_at b i h2] at this
  exact this

theorem drewN_add (w : World) (a b : Nat) : (w.drewN a).drewN b = w.drewN (a + b) := by simp

theorem eq_at_ne {a b : List Int} {k : Nat} (h1 : k < a.length) (h2 : k < b.length) (h : (a[k] != b[k]) = true) : eqB a b = false := by
  refine eqB_at (k := k) ?_
  rw [getD_at a k h1, getD_at b k h2]
  simpa using h

theorem eq_at_eq {a b : List Int} {k : Nat} (h1 : k < a.length) (h2 : k < b.length) (h : (a[k] != b[k]) = false) (hp : ∀ j, j < k → a.getD j 0 = b.getD j 0) : ∀ j, j < k + 1 → a.getD j 0 = b.getD j 0 := by
  intro j hj
  by_cases e : j < k
  · exact hp j e
  · obtain rfl : j = k := by omega
    rw [getD_at a j h1, getD_at b j h2]
    simpa using h

set_option maxHeartbeats 400000 in
theorem eq_some (xa xb : Addr) (ca cb : Nat) (a b : List Int) (w : World) (hl : a.length = b.length) (hn : a.length ≤ 1048576)
    (hca : ∀ i, i < a.length → w.cell? (xa.add i) = some (.int .u8 (a.getD i 0))) (hcb : ∀ i, i < b.length → w.cell? (xb.add i) = some (.int .u8 (b.getD i 0))) :
    Calls Try.prog 20 #[.slice (some xa) a.length ca, .slice (some xb) a.length cb] w fun e w' => e = .returned (.bool (eqB a b)) ∧ ∃ k, w' = w.drewN k := by
  have HA : Hid (∀ i, i < a.length → w.cell? (xa.add i) = some (.int .u8 (a.getD i 0))) := hca
  have HB : Hid (∀ i, i < b.length → w.cell? (xb.add i) = some (.int .u8 (b.getD i 0))) := hcb
  have HL : Hid (a.length = b.length) := hl
  clear hca hcb hl
  go_enter Try.func20, Try.ntmps20
  go_wp2
  go_loopw [5] (fun i wr => ∃ k : Nat, k ≤ a.length ∧ i = .int .i64 k ∧ (∃ m, wr = w.drewN m) ∧ ∀ j, j < k → a.getD j 0 = b.getD j 0)
    (fun i _ => a.length - (intOf i).toNat)
  case atStart => exact ⟨0, Nat.zero_le _, rfl, ⟨0, rfl⟩, fun j h => by omega⟩
  case round =>
    obtain ⟨k, hk, rfl, ⟨m, rfl⟩, he⟩ := hrel
    have HE : Hid (∀ j, j < k → a.getD j 0 = b.getD j 0) := he
    clear he
    by_cases hlt : k < a.length
    · have hc1 : w.cell? (xa.add k) = some (.int .u8 a[k]) := by rw [← getD_at a k hlt]; exact HA.out k hlt
      have hkb : k < b.length := by rw [← HL.out]; exact hlt
      have hc2 : w.cell? (xb.add k) = some (.int .u8 b[k]) := by rw [← getD_at b k hkb]; exact HB.out k hkb
      go_wp2
      go_quiet (fail)
      go_wp2
      · go_ret
        rename_i h
        exact ⟨ret_bool (eq_at_ne hlt hkb h).symm, _, drewN_add w m _⟩
      · rename_i h
        go_roundw
        case rel => exact ⟨k + 1, by omega, by go_num, ⟨_, rfl⟩, eq_at_eq hlt hkb h HE.out⟩
        case measure => simp [intOf]; omega
    · go_wp2
      go_ret
      refine ⟨ret_bool ?_, m, rfl⟩
      exact (eqB_all HL.out (fun j hj => HE.out j (by omega))).symm

set_option maxHeartbeats 400000 in
theorem eq_diff (A B : Option Addr) (n m ca cb : Nat) (w : World) (hl : ((n : Int) == (m : Int)) = false) :
    Calls Try.prog 20 #[.slice A n ca, .slice B m cb] w fun e w' => e = .returned (.bool false) ∧ ∃ k, w' = w.drewN k := by
  have hl' : ((n : Int) != (m : Int)) = true := by rw [bne, hl]; rfl
  go_enter Try.func20, Try.ntmps20
  go_wp2
  go_ret
  exact ⟨rfl, 0, rfl⟩

set_option maxHeartbeats 400000 in
theorem eq_zero (A B : Option Addr) (ca cb : Nat) (w : World) :
    Calls Try.prog 20 #[.slice A 0 ca, .slice B 0 cb] w fun e w' => e = .returned (.bool true) ∧ ∃ k, w' = w.drewN k := by
  go_enter Try.func20, Try.ntmps20
  go_wp2
  refine wp_loop_rounds 1 ?_
  rw [rounds_succ]
  go_wp2
  go_ret
  exact ⟨rfl, 0, rfl⟩

theorem eq_any (a b : BS) (w : World) (ha : a.ok w) (hb : b.ok w) (hn : a.zs.length ≤ 1048576) :
    Calls Try.prog 20 #[a.val, b.val] w fun e w' => e = .returned (.bool (eqB a.zs b.zs)) ∧ ∃ k, w' = w.drewN k := by
  obtain ⟨A, ca, as1⟩ := a
  obtain ⟨B, cb, bs1⟩ := b
  simp only [BS.val] at *
  by_cases hl : as1.length = bs1.length
  · by_cases h0 : as1.length = 0
    · obtain rfl := List.eq_nil_of_length_eq_zero h0
      obtain rfl := List.eq_nil_of_length_eq_zero (hl.symm.trans h0)
      exact eq_zero A B ca cb w
    · cases A with
      | none =>
        have e : as1 = [] := (ha.1 rfl).1
        exact absurd (by rw [e]; rfl) h0
      | some xa =>
        cases B with
        | none =>
          have e : bs1 = [] := (hb.1 rfl).1
          exact absurd (by rw [hl, e]; rfl) h0
        | some xb =>
          rw [← hl]
          exact eq_some xa xb ca cb as1 bs1 w hl hn (ha.2.2 xa rfl) (hb.2.2 xb rfl)
  · rw [eqB_len hl]
    exact eq_diff A B _ _ ca cb w (by simp; omega)

/-! zzCloneBytes -/
theorem clone_any (b : BS) (w : World) (hb : b.ok w) (hn : b.zs.length ≤ 1048576) :
    Calls Try.prog 12 #[b.val] w fun e w' => ∃ d : BS, e = .returned (.slice d.a d.zs.length d.c) ∧ d.ok w' ∧ d.zs = b.zs ∧ d.a.isNone = b.a.isNone ∧ Below w.heap.size w w' := by
  obtain ⟨A, c, zs⟩ := b
  simp only [BS.val] at *
  cases A with
  | none =>
    obtain ⟨rfl, rfl⟩ : zs = [] ∧ c = 0 := hb.1 rfl
    refine (clone_nil w).mono ?_
    rintro e w' ⟨rfl, rfl⟩
    exact ⟨BS.nul, rfl, nul_ok _, rfl, rfl, Below.refl _ _⟩
  | some x =>
    refine (clone_some x zs c w hn (hb.2.2 x rfl)).mono ?_
    rintro e w' ⟨rfl, hown, hbel⟩
    refine ⟨⟨some ⟨w.heap.size, 0, none⟩, zs.length, zs⟩, rfl, ⟨fun h => by simp at h, hb.2.1, ?_⟩, rfl, rfl, hbel⟩
    intro y hy i hi
    simp only [Option.some.injEq] at hy
    subst hy
    have e : (Addr.add ⟨w.heap.size, 0, none⟩ i) = ⟨w.heap.size, i, none⟩ := by
      unfold Addr.add; split
      · subst_vars; rfl
      · simp
    have hi' : i < zs.length := hi
    rw [e, hown.cellAt i (by omega)]
    show (vals zs)[i]? = some (.int .u8 (zs.getD i 0))
    rw [getD_at zs i hi']
    simp [vals, hi']

end bskit
end Go.Proofs.Qxb6601003a
