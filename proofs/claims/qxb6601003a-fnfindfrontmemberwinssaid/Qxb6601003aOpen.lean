import Derived.Test.Qxb6601003aGuard
import Derived.Deep.Matrix
namespace Go.Proofs.Qxb6601003a
open Go.ChangeShapes Go.WideShapes Go.ChangeAt Go.RowKit Go.Deep
open byteskit bskit guardkit
set_option linter.unusedVariables false
namespace openkit

theorem bs_len {Z : List Int} {L C : Nat} (hZ : Z.length = C) (hL : L ≤ C) : (Z.take L).length = L := by rw [List.length_take]; omega

theorem bs_val (A : Option Addr) (L C : Nat) (Z : List Int) (hZ : Z.length = C) (hL : L ≤ C) : (BS.mk A C (Z.take L)).val = .slice A L C := by
  show Value.slice A (Z.take L).length C = _
  rw [bs_len hZ hL]

theorem bs_ok (w : World) (A : Option Addr) (L C : Nat) (Z : List Int) (hZ : Z.length = C) (hL : L ≤ C) (hw : ∀ n ∈ Z, (Lit.int .u8 n).wf = true) (hnil : A = none → C = 0)
    (hc : ∀ a', A = some a' → ∀ c, c < C → w.cell? (a'.add c) = some (.int .u8 (Z.getD c 0))) : BS.ok w ⟨A, C, Z.take L⟩ := by
  refine ⟨fun h => ?_, fun z hz => bounds_u8 (hw z (List.mem_of_mem_take hz)), fun x hx i hi => ?_⟩
  · have hC := hnil h
    have : L = 0 := by omega
    subst this
    exact ⟨by simp, hC⟩
  · have hi' : i < L := by rw [← bs_len hZ hL]; exact hi
    rw [hc x hx i (by omega)]
    show some (Value.int IntKind.u8 (Z.getD i 0)) = some (.int .u8 ((Z.take L).getD i 0))
    simp only [List.getD_eq_getElem?_getD]
    rw [List.getElem?_take, if_pos hi']

theorem bb_open {H : Type} {enc : TypeId × Value → H} {w : World} {base : Nat} {held : Bool} {a0 : Option Addr} {len0 cap0 : Nat} {d : DataW H} {p : List MemPlace}
    (h : DataW.Trod enc Try.prog w base (fun _ => true) held 29 (.slice a0 len0 cap0) d p) : ∃ K, BB.ok w ⟨a0, len0, cap0, K⟩ := by
  obtain ⟨fuel, hf⟩ := h
  rcases open_int_rows Try.underlying29 Try.underlying24 Try.underlying5 (by kernel_rfl) (by kernel_rfl) hf with ⟨hcs, _⟩ | ⟨a, len, cap, A, L, C, Z, hcs, _, hl, hm, _, hr⟩
  · simp [Value.cells] at hcs
    obtain ⟨rfl, rfl, rfl⟩ := hcs
    exact ⟨fun _ => BS.nul, fun _ => ⟨rfl, rfl⟩, Nat.le_refl _, fun x h => by simp at h⟩
  · simp [Value.cells] at hcs
    obtain ⟨rfl, rfl, rfl⟩ := hcs
    refine ⟨fun r => ⟨A r, C r, (Z r).take (L r)⟩, fun h => by simp at h, hl, fun x hx i hi => ?_⟩
    simp only [Option.some.injEq] at hx
    subst hx
    obtain ⟨h1, h2, h3, h4, h5, h6, h7⟩ := hr i (Nat.lt_of_lt_of_le hi hl)
    refine ⟨?_, bs_ok w (A i) (L i) (C i) (Z i) h4 h2 h5 h6 (fun a' e => (h7 a' e).2)⟩
    rw [h1]
    show _ = some (BS.mk (A i) (C i) ((Z i).take (L i))).val
    rw [bs_val _ _ _ _ h4 h2]

theorem bs_open {H : Type} {enc : TypeId × Value → H} {w : World} {base : Nat} {held : Bool} {a0 : Option Addr} {len0 cap0 : Nat} {d : DataW H} {p : List MemPlace}
    (h : DataW.Trod enc Try.prog w base (fun _ => true) held 24 (.slice a0 len0 cap0) d p) : ∃ b : BS, b.ok w ∧ b.a = a0 ∧ b.zs.length = len0 ∧ b.c = cap0 := by
  obtain ⟨fuel, hf⟩ := h
  rcases open_ints Try.underlying24 Try.underlying5 (by kernel_rfl) hf with ⟨hcs, _⟩ | ⟨x, l, c, zs, hcs, _, hl, hm, hz, _, hcell, hwz⟩
  · simp [Value.cells] at hcs
    obtain ⟨rfl, rfl, rfl⟩ := hcs
    exact ⟨BS.nul, nul_ok _, rfl, rfl, rfl⟩
  · simp [Value.cells] at hcs
    obtain ⟨rfl, rfl, rfl⟩ := hcs
    simp only [if_true] at hz
    refine ⟨⟨some x, cap0, zs.take len0⟩, bs_ok w _ _ _ zs hz hl hwz (fun h => by cases h) (fun a' e c hc => ?_), rfl, bs_len hz hl, rfl⟩
    cases e
    exact hcell c (by rw [hz]; exact hc)
end openkit
end Go.Proofs.Qxb6601003a
