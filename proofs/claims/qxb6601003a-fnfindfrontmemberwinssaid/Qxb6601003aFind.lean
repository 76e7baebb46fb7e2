import Derived.Test.Qxb6601003aCloneTwo
import Derived.Laws.BytesArg
namespace Go.Proofs.Qxb6601003a
open Go.ChangeShapes Go.WideShapes Go.ChangeAt Go.RowKit
open byteskit bskit guardkit clonetwo
set_option linter.unusedVariables false
namespace findkit

theorem conv (b : BS) (w : World) (h : b.ok w) : (convert 24 9 (.slice b.a b.zs.length b.c)).run Try.prog w = .ok (.string (strOfNums b.zs)) w := by
  obtain ⟨A, c, zs⟩ := b
  cases A with
  | none =>
    obtain ⟨rfl, rfl⟩ : zs = [] ∧ c = 0 := h.1 rfl
    exact run_convert_bytes_nil w 24 5 Try.underlying24 Try.underlying5 _ _ 9 Try.underlying9
  | some x =>
    have hl : (loadCells x zs.length).run Try.prog w = .ok (zs.map (Value.int .u8)).toArray w := by
      have := run_loadCells_list (P := Try.prog) w x (zs.map (Value.int .u8)) (fun j v hj => by
        have hjl : j < zs.length := by
          rcases Nat.lt_or_ge j zs.length with h | h
          · exact h
          · simp [List.getElem?_eq_none (show (zs.map (Value.int .u8)).length ≤ j by simpa using h)] at hj
        rw [h.2.2 x rfl j hjl]
        simp [List.getElem?_eq_getElem hjl] at hj
        subst hj
        show some (Value.int IntKind.u8 (zs.getD j 0)) = _
        rw [getD_at zs j hjl])
      simpa using this
    show (convert 24 9 (.slice (some x) zs.length c)).run Try.prog w = _
    rw [run_convert_bytes_string w 24 9 5 _ _ c Try.underlying24 Try.underlying5 Try.underlying9, run_bytesToString w _ _ c zs hl, foldl_push_bytes]
    simp [strOfNums, ByteArray.empty, ByteArray.emptyWithCapacity]
    rfl

theorem str_list (a : List Int) : (strOfNums a).toList = a.map fun n => UInt8.ofNat n.toNat := by
  rw [ByteArray.toList_eq, strOfNums_data]

theorem u8_inj {a b : Int} (ha : 0 ≤ a ∧ a ≤ 255) (hb : 0 ≤ b ∧ b ≤ 255) (h : UInt8.ofNat a.toNat = UInt8.ofNat b.toNat) : a = b := by
  have := congrArg UInt8.toNat h
  simp at this
  omega

theorem str_inj : ∀ (a b : List Int), (∀ z ∈ a, 0 ≤ z ∧ z ≤ 255) → (∀ z ∈ b, 0 ≤ z ∧ z ≤ 255) → (a.map fun n => UInt8.ofNat n.toNat) = (b.map fun n => UInt8.ofNat n.toNat) → a = b
  | [], [], _, _, _ => rfl
  | [], _ :: _, _, _, h => by simp at h
  | _ :: _, [], _, _, h => by simp at h
  | x :: xs, y :: ys, hx, hy, h => by
    simp only [List.map_cons, List.cons.injEq] at h
    rw [u8_inj (hx x (by simp)) (hy y (by simp)) h.1, str_inj xs ys (fun z hz => hx z (by simp [hz])) (fun z hz => hy z (by simp [hz])) h.2]

theorem str_yes {a b : BS} {w : World} (ha : a.ok w) (hb : b.ok w) (h : ((strOfNums a.zs).toList == (strOfNums b.zs).toList) = true) : a.zs = b.zs := by
  rw [beq_iff_eq, str_list, str_list] at h
  exact str_inj _ _ ha.2.1 hb.2.1 h

theorem str_no {a b : BS} (h : ((strOfNums a.zs).toList == (strOfNums b.zs).toList) = false) : ¬ a.zs = b.zs := by
  intro e
  rw [e] at h
  simp at h

def FoundB (n : Nat) (K V : Nat → BS) (key b : BS) : Prop :=
  (∃ i, i < n ∧ (K i).zs = key.zs ∧ (∀ j, j < i → ¬ (K j).zs = key.zs) ∧ b = V i) ∨ ((∀ j, j < n → ¬ (K j).zs = key.zs) ∧ b = BS.nul)

theorem none_upto {K : Nat → BS} {key : BS} {k : Nat} (h : ∀ j, j < k → ¬ (K j).zs = key.zs) (hk : ¬ (K k).zs = key.zs) : ∀ j, j < k + 1 → ¬ (K j).zs = key.zs := by
  intro j hj
  by_cases e : j < k
  · exact h j e
  · obtain rfl : j = k := by omega
    exact hk

set_option maxHeartbeats 1000000 in
theorem find_any (g n cap : Nat) (K V : Nat → BS) (key : BS) (w : World) (hn : n ≤ 65537) (hg : 0 < n → g < w.heap.size)
    (hrow : ∀ i, i < n → w.cell? ⟨g, i * 2, none⟩ = some (K i).val ∧ w.cell? ⟨g, i * 2 + 1, none⟩ = some (V i).val) (hK : ∀ i, i < n → (K i).ok w) (hkey : key.ok w) :
    Calls Try.prog 24 #[.agg #[.slice (some ⟨g, 0, none⟩) n cap], .slice key.a key.zs.length key.c] w fun e w' => ∃ b : BS, e = .returned (.slice b.a b.zs.length b.c) ∧ FoundB n K V key b ∧ Below w.heap.size w w' := by
  have HR : Hid (∀ i, i < n → w.cell? ⟨g, i * 2, none⟩ = some (K i).val ∧ w.cell? ⟨g, i * 2 + 1, none⟩ = some (V i).val) := hrow
  have HK : Hid (∀ i, i < n → (K i).ok w) := hK
  have HKEY : Hid (key.ok w) := hkey
  have HG : Hid (0 < n → g < w.heap.size) := hg
  clear hrow hK hkey hg
  go_enter Try.func24, Try.ntmps24
  go_wp2
  go_loopw [10] (fun i wr => ∃ (k : Nat), k ≤ n ∧ i = .int .i64 k ∧ Below w.heap.size w wr ∧ w.heap.size < wr.heap.size ∧ ∀ j, j < k → ¬ (K j).zs = key.zs)
    (fun i _ => n - (intOf i).toNat)
  case atStart => exact ⟨0, Nat.zero_le _, rfl, (Below.refl _ _).alloc (Nat.le_refl _) _, by simp, fun j h => by omega⟩
  case round =>
    obtain ⟨k, hk, rfl, hb, hsz, hno⟩ := hrel
    have HNO : Hid (∀ j, j < k → ¬ (K j).zs = key.zs) := hno
    clear hno
    by_cases hlt : k < n
    · have hg := HG.out (by omega)
      have hc0 : wr.cell? ⟨g, k * 2, none⟩ = some (.slice (K k).a (K k).zs.length (K k).c) := (hb.cell hg).trans (HR.out k hlt).1
      have hc1 : wr.cell? ⟨g, k * 2 + 1, none⟩ = some (.slice (V k).a (V k).zs.length (V k).c) := (hb.cell hg).trans (HR.out k hlt).2
      have cv1 : ∀ o, (convert 24 9 (.slice (K k).a (K k).zs.length (K k).c)).run Try.prog (wr.alloc o) = .ok (.string (strOfNums (K k).zs)) (wr.alloc o) := fun o => conv (K k) _ (ok_below (ok_below (HK.out k hlt) hb) ((Below.refl _ _).alloc (Nat.le_refl _) _))
      have cv2 : ∀ o, (convert 24 9 (.slice key.a key.zs.length key.c)).run Try.prog (wr.alloc o) = .ok (.string (strOfNums key.zs)) (wr.alloc o) := fun o => conv key _ (ok_below (ok_below HKEY.out hb) ((Below.refl _ _).alloc (Nat.le_refl _) _))
      go_wp2
      · go_ret
        rename_i h
        exact ⟨V k, rfl, Or.inl ⟨k, hlt, str_yes (HK.out k hlt) HKEY.out h, HNO.out, rfl⟩, hb.alloc (by omega) _⟩
      · rename_i h
        go_roundw
        case rel => exact ⟨k + 1, by omega, by go_num, hb.alloc (by omega) _, by simp; omega, none_upto HNO.out (str_no h)⟩
        case measure => simp [intOf]; omega
    · go_wp2
      go_ret
      exact ⟨BS.nul, rfl, Or.inr ⟨fun j hj => HNO.out j (by omega), rfl⟩, hb⟩
end findkit
end Go.Proofs.Qxb6601003a
