import Derived.Test.Qxb6601003aFind
import Derived.RegionTactic
import Derived.BigRegion
namespace Go.Proofs.Qxb6601003a
open Go.ChangeShapes Go.WideShapes Go.ChangeAt Go.RowKit
open byteskit bskit guardkit clonetwo findkit
set_option linter.unusedVariables false
namespace zfind

theorem info40 : (Try.prog.info? 40).map (fun i => (i.zero, i.size, i.bytes)) = some (some (.agg #[.slice none 0 0, .slice none 0 0]), 2, 48) := by kernel_rfl

theorem make_members (n : Nat) (hn : n ≤ 65537) (w : World) :
    (Instr.makeSlice 38 (.int .i64 (n : Int)) (.int .i64 (n : Int))).run Try.prog w = .ok (.slice (some ⟨w.heap.size, 0, none⟩) n n) (w.alloc (.cells (madeCells #[.slice none 0 0, .slice none 0 0] (n * 2)) 40)) := by
  obtain ⟨i0, hi, hz0, hz1, hz2⟩ := info_parts info40
  have h := run_make (P := Try.prog) w 38 40 i0 _ Try.underlying38 hi hz0 .i64 .i64 n n (by omega) (Int.le_refl _) (by rw [hz2]; omega) (by omega)
  rw [hz1] at h
  simpa [Value.cells] using h

def Row2 (K V : Nat → BS) (k i : Nat) : Value := if i / 2 < k then (if i % 2 = 0 then (K (i / 2)).val else (V (i / 2)).val) else .slice none 0 0

theorem row2_made (w : World) (K V : Nat → BS) (n : Nat) : (w.alloc (.cells (madeCells #[.slice none 0 0, .slice none 0 0] (n * 2)) 40)).rowIs w.heap.size 40 (n * 2) (Row2 K V 0) := by
  have h := World.rowIs_alloc w (madeCells #[.slice none 0 0, .slice none 0 0] (n * 2)) 40 (Row2 K V 0) (fun i hi => by
    rw [size_madeCells] at hi
    simp only [madeCells, Row2]
    have hm : i % 2 = 0 ∨ i % 2 = 1 := by omega
    rcases hm with hm | hm <;> simp [hi, hm])
  rw [size_madeCells] at h
  exact h

theorem row2_step (g n k : Nat) (K V : Nat → BS) (wr : World) (hrow : wr.rowIs g 40 (n * 2) (Row2 K V k)) :
    (((wr.setCell ⟨g, k * 2, none⟩ (K k).val).setCell ⟨g, k * 2 + 1, none⟩ (V k).val).drew).rowIs g 40 (n * 2) (Row2 K V (k + 1)) := by
  refine (((hrow.set (k * 2) (K k).val).set (k * 2 + 1) (V k).val).congr fun i hi => ?_).drew
  unfold Row2
  by_cases h1 : i = k * 2 + 1
  · subst h1
    have e1 : (k * 2 + 1) / 2 = k := by omega
    simp [e1]
  · rw [if_neg h1]
    by_cases h2 : i = k * 2
    · subst h2
      have e1 : (k * 2) / 2 = k := by omega
      have e2 : (k * 2) % 2 = 0 := by omega
      simp [e1, e2]
    · rw [if_neg h2]
      by_cases h3 : i / 2 < k
      · rw [if_pos h3, if_pos (show i / 2 < k + 1 by omega)]
      · rw [if_neg h3, if_neg (show ¬ i / 2 < k + 1 by omega)]

theorem row2_cells (g n : Nat) (K V : Nat → BS) (wr : World) (hrow : wr.rowIs g 40 (n * 2) (Row2 K V n)) : ∀ i, i < n → wr.cell? ⟨g, i * 2, none⟩ = some (K i).val ∧ wr.cell? ⟨g, i * 2 + 1, none⟩ = some (V i).val := by
  intro i hi
  rw [hrow.cell (show i * 2 < n * 2 by omega), hrow.cell (show i * 2 + 1 < n * 2 by omega)]
  have e1 : (i * 2 + 1) / 2 = i := by omega
  have e3 : (i * 2) / 2 = i := by omega
  have e4 : (i * 2) % 2 = 0 := by omega
  simp [Row2, e1, e3, e4, hi]

set_option maxHeartbeats 1000000 in
theorem zfind_any (k1 k2 : BB) (n : Nat) (c1 c2 : Nat) (key : BS) (w : World) (hn : n ≤ 65537) 
    (h1 : ∀ i, i < n → ∃ x, k1.a = some x ∧ w.cell? (x.add i) = some (k1.K i).val ∧ (k1.K i).ok w) (h2 : ∀ i, i < n → ∃ x, k2.a = some x ∧ w.cell? (x.add i) = some (k2.K i).val) (hkey : key.ok w) :
    Calls Try.prog 19 #[.slice k1.a n c1, .slice k2.a n c2, .slice key.a key.zs.length key.c] w fun e w' => ∃ b : BS, e = .returned (.slice b.a b.zs.length b.c) ∧ FoundB n k1.K k2.K key b ∧ Below w.heap.size w w' := by
  have hmk := make_members n hn
  have H1 : Hid (∀ i, i < n → ∃ x, k1.a = some x ∧ w.cell? (x.add i) = some (k1.K i).val ∧ (k1.K i).ok w) := h1
  have H2 : Hid (∀ i, i < n → ∃ x, k2.a = some x ∧ w.cell? (x.add i) = some (k2.K i).val) := h2
  have HKEY : Hid (key.ok w) := hkey
  clear h1 h2 hkey
  go_enter Try.func19, Try.ntmps19
  go_wp2
  clear hmk
  go_loopw [14] (fun i wr => ∃ (k : Nat), k ≤ n ∧ i = .int .i64 k ∧ Below w.heap.size w wr ∧ wr.rowIs w.heap.size 40 (n * 2) (Row2 k1.K k2.K k))
    (fun i _ => n - (intOf i).toNat)
  case atStart => exact ⟨0, Nat.zero_le _, rfl, (Below.refl _ _).alloc (Nat.le_refl _) _, row2_made w _ _ n⟩
  case round =>
    obtain ⟨k, hk, rfl, hb, hrow⟩ := hrel
    have HROW : Hid (wr.rowIs w.heap.size 40 (n * 2) (Row2 k1.K k2.K k)) := hrow
    clear hrow
    by_cases hlt : k < n
    · obtain ⟨x1, e1, hx1, ok1⟩ := H1.out k hlt
      obtain ⟨x2, e2, hx2⟩ := H2.out k hlt
      have hc1 : wr.cell? (x1.add k) = some (.slice (k1.K k).a (k1.K k).zs.length (k1.K k).c) := (hb.cell (World.block_lt_of_cell? _ _ hx1)).trans hx1
      have hc2 : wr.cell? (x2.add k) = some (.slice (k2.K k).a (k2.K k).zs.length (k2.K k).c) := (hb.cell (World.block_lt_of_cell? _ _ hx2)).trans hx2
      have hf0 := HROW.out.frozen (k * 2)
      have hf1 := HROW.out.frozen (k * 2 + 1)
      obtain ⟨u0, hu0⟩ : ∃ u, wr.cell? ⟨w.heap.size, k * 2, none⟩ = some u := ⟨_, HROW.out.cell (by omega)⟩
      obtain ⟨u1, hu1⟩ : ∃ u, wr.cell? ⟨w.heap.size, k * 2 + 1, none⟩ = some u := ⟨_, HROW.out.cell (by omega)⟩
      clear hx1 hx2 ok1
      go_wp2
      go_region
      have HST : Hid ((((wr.setCell ⟨w.heap.size, k * 2, none⟩ (k1.K k).val).setCell ⟨w.heap.size, k * 2 + 1, none⟩ (k2.K k).val).drew).rowIs w.heap.size 40 (n * 2) (Row2 k1.K k2.K (k + 1))) := row2_step _ n k _ _ wr HROW.out
      have HB : Hid (Below w.heap.size w ((wr.setCell ⟨w.heap.size, k * 2, none⟩ (k1.K k).val).setCell ⟨w.heap.size, k * 2 + 1, none⟩ (k2.K k).val).drew) := ((hb.setCell (Nat.le_refl _) _).setCell (Nat.le_refl _) _).drew
      go_wp2
      go_roundw
      case rel => exact ⟨k + 1, by omega, by go_num, HB.out, HST.out⟩
      case measure => simp [intOf]; omega
    · obtain rfl : k = n := by omega
      go_wp2_with fail
      refine (find_any w.heap.size k k k1.K k2.K key wr hn (fun _ => HROW.out.lt) (row2_cells _ _ _ _ _ HROW.out) (fun i hi => ?_) (ok_below HKEY.out hb)).mono ?_
      · obtain ⟨x, _, _, hok⟩ := H1.out i hi
        exact ok_below hok hb
      rintro e w1 ⟨b, rfl, hf, hb1⟩
      have HF : Hid (FoundB k k1.K k2.K key b) := hf
      have HB : Hid (Below w.heap.size w w1) := hb.trans (hb1.mono (by have := hb.size; omega))
      clear hf hb hb1
      go_wp2
      go_ret
      exact ⟨b, rfl, HF.out, HB.out⟩
end zfind
end Go.Proofs.Qxb6601003a
