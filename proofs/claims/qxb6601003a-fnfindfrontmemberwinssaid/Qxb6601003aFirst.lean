import Derived.Test.Qxb6601003aZFind
namespace Go.Proofs.Qxb6601003a
open Go.ChangeShapes Go.WideShapes Go.ChangeAt Go.RowKit
open byteskit bskit guardkit clonetwo findkit zfind
set_option linter.unusedVariables false
namespace firstlaw

def Run (n : Nat) (K : Nat → BS) (key : BS) (k f : Int) : Prop :=
  (f = -1 ∧ ∀ j : Nat, k < j → j < n → ¬ (K j).zs = key.zs) ∨ (∃ i : Nat, f = i ∧ k < i ∧ i < n ∧ (K i).zs = key.zs ∧ ∀ j : Nat, k < j → j < i → ¬ (K j).zs = key.zs)

theorem run_start (n : Nat) (K : Nat → BS) (key : BS) : Run n K key ((n : Int) - 1) (-1) := Or.inl ⟨rfl, fun j h1 h2 => by omega⟩

theorem run_hit {n : Nat} {K : Nat → BS} {key : BS} {j : Nat} {f : Int} (hj : j < n) (h : eqB (K j).zs key.zs = true) : Run n K key ((j : Int) - 1) (j : Int) :=
  Or.inr ⟨j, rfl, by omega, hj, by simpa [eqB] using h, fun i h1 h2 => by omega⟩

theorem run_miss {n : Nat} {K : Nat → BS} {key : BS} {j : Nat} {f : Int} (hr : Run n K key j f) (h : eqB (K j).zs key.zs = false) : Run n K key ((j : Int) - 1) f := by
  have h' : ¬ (K j).zs = key.zs := by simpa [eqB] using h
  rcases hr with ⟨hf, hn⟩ | ⟨i, hf, h1, h2, h3, h4⟩
  · refine Or.inl ⟨hf, fun q h1 h2 => ?_⟩
    by_cases e : q = j
    · rw [e]; exact h'
    · exact hn q (by omega) h2
  · refine Or.inr ⟨i, hf, by omega, h2, h3, fun q h5 h6 => ?_⟩
    by_cases e : q = j
    · rw [e]; exact h'
    · exact h4 q (by omega) h6

theorem run_end {n : Nat} {K V : Nat → BS} {key b : BS} {q f : Int} (hq : q = -1) (hr : Run n K key q f) (hf : FoundB n K V key b) :
    (f = -1 ∧ b = BS.nul) ∨ ∃ i : Nat, f = i ∧ i < n ∧ b = V i := by
  subst hq
  rcases hr with ⟨h1, h2⟩ | ⟨i, h1, h2, h3, h4, h5⟩
  · left
    rcases hf with ⟨i, a1, a2, a3, a4⟩ | ⟨a1, a2⟩
    · exact absurd a2 (h2 i (by omega) a1)
    · exact ⟨h1, a2⟩
  · right
    refine ⟨i, h1, h3, ?_⟩
    rcases hf with ⟨j, a1, a2, a3, a4⟩ | ⟨a1, a2⟩
    · have : j = i := by
        rcases Nat.lt_trichotomy j i with h | h | h
        · exact absurd a2 (h5 j (by omega) h)
        · exact h
        · exact absurd h4 (a3 i h)
      rw [a4, this]
    · exact absurd h4 (a1 i h3)

theorem eqB_self (a : List Int) : eqB a a = true := by simp [eqB]

theorem zfind (A1 A2 : Option Addr) (n c1 c2 m1 m2 e1 e2 : Nat) (K V : Nat → BS) (key : BS) (w : World) (hn : n ≤ 65537) (l1 : n ≤ m1) (l2 : n ≤ m2)
    (h1 : BB.ok w ⟨A1, m1, e1, K⟩) (h2 : BB.ok w ⟨A2, m2, e2, V⟩) (hkey : key.ok w) :
    Calls Try.prog 19 #[.slice A1 n c1, .slice A2 n c2, .slice key.a key.zs.length key.c] w fun e w' => ∃ b : BS, e = .returned (.slice b.a b.zs.length b.c) ∧ FoundB n K V key b ∧ Below w.heap.size w w' := by
  refine zfind_any ⟨A1, m1, e1, K⟩ ⟨A2, m2, e2, V⟩ n c1 c2 key w hn (fun i hi => ?_) (fun i hi => ?_) hkey
  · obtain ⟨x, hx, _⟩ := bb_cell h1 (show i < m1 by omega)
    have := h1.2.2 x hx i (show i < m1 by omega)
    exact ⟨x, hx, this.1, this.2⟩
  · obtain ⟨x, hx, _⟩ := bb_cell h2 (show i < m2 by omega)
    exact ⟨x, hx, (h2.2.2 x hx i (show i < m2 by omega)).1⟩

set_option maxHeartbeats 2000000 in
theorem law (k1 k2 : BB) (key : BS) (w : World) (h1 : k1.ok w) (h2 : k2.ok w) (h3 : key.ok w) :
    Calls Try.prog 7 #[.slice k1.a k1.n k1.c, .slice k2.a k2.n k2.c, .slice key.a key.zs.length key.c] w fun e w' => e = .returned (.bool true) ∧ Below w.heap.size w w' := by
  have H1 : Hid (k1.ok w) := h1
  have H2 : Hid (k2.ok w) := h2
  have H3 : Hid (key.ok w) := h3
  clear h1 h2 h3
  go_enter Try.func7, Try.ntmps7
  go_wp2_with fail
  refine (guard16 k1 k2 key.a key.zs.length key.c w H1.out H2.out).mono ?_
  rintro e w' ⟨⟨b, rfl, -⟩, rfl⟩
  cases b with
  | false =>
    go_wp2
    go_ret
    exact ⟨rfl, Below.refl _ _⟩
  | true =>
  go_wp2_with fail
  refine (guard17 k1 k2 key.a none none key.zs.length 0 0 key.c 0 0 w' H1.out H2.out).mono ?_
  rintro e w'' ⟨⟨b, rfl, hsm⟩, rfl⟩
  cases b with
  | true =>
    go_wp2
    go_ret
    exact ⟨rfl, Below.refl _ _⟩
  | false =>
  obtain ⟨hn1, hn2, hn3, -, -, hs1, hs2⟩ := hsm rfl
  have HS1 : Hid (∀ i, i < k1.n → (k1.K i).zs.length ≤ 1048576) := hs1
  have HS2 : Hid (∀ i, i < k2.n → (k2.K i).zs.length ≤ 1048576) := hs2
  clear hs1 hs2 hsm
  go_wp2_with fail
  refine (clone2_any k1 w'' H1.out hn1 HS1.out).mono ?_
  rintro e w1 ⟨A1, D1, rfl, hok1, -, heq1, hb1⟩
  have HL1 : Hid (∀ i, i < k1.n → (D1 i).zs.length ≤ 1048576) := fun i hi => by rw [(heq1 i hi).1]; exact HS1.out i hi
  have OK1 : Hid (BB.ok w1 ⟨A1, k1.n, k1.n, D1⟩) := hok1
  clear hok1 heq1 HS1
  go_wp2_with fail
  refine (clone2_any k2 w1 (bb_below H2.out hb1) hn2 HS2.out).mono ?_
  rintro e w2 ⟨A2, D2, rfl, hok2, -, heq2, hb2⟩
  have HL2 : Hid (∀ i, i < k2.n → (D2 i).zs.length ≤ 1048576) := fun i hi => by rw [(heq2 i hi).1]; exact HS2.out i hi
  have OK2 : Hid (BB.ok w2 ⟨A2, k2.n, k2.n, D2⟩) := hok2
  clear hok2 heq2 HS2
  go_wp2_with fail
  have HB2 : Hid (Below w''.heap.size w'' w2) := hb1.trans (hb2.mono hb1.size)
  refine (clone_any key w2 (ok_below H3.out HB2.out) hn3).mono ?_
  rintro e w3 ⟨d, rfl, hd, hdz, -, hb3⟩
  have HB3 : Hid (Below w''.heap.size w'' w3) := HB2.out.trans (hb3.mono HB2.out.size)
  have OK1' : Hid (BB.ok w3 ⟨A1, k1.n, k1.n, D1⟩) := bb_below (bb_below OK1.out hb2) hb3
  have OK2' : Hid (BB.ok w3 ⟨A2, k2.n, k2.n, D2⟩) := bb_below OK2.out hb3
  have OK3 : Hid (d.ok w3) := hd
  have hdl : d.zs.length ≤ 1048576 := by rw [hdz]; exact hn3
  clear OK1 OK2 H1 H2 H3 hd hdz hb1 hb2 hb3 HB2
  by_cases hz : k1.n = 0 ∨ k2.n = 0
  · have q0 := q24
    have go : ∀ c1 c2, Calls Try.prog 19 #[.slice A1 0 c1, .slice A2 0 c2, .slice d.a d.zs.length d.c] w3 fun e w' => e = .returned (.slice none 0 0) ∧ Below w3.heap.size w3 w' := fun c1 c2 =>
      (zfind A1 A2 0 c1 c2 k1.n k2.n _ _ D1 D2 d w3 (by omega) (by omega) (by omega) OK1'.out OK2'.out OK3.out).mono (by
        rintro e w4 ⟨b, rfl, hf, hb4⟩
        rcases hf with ⟨i, a1, _⟩ | ⟨_, rfl⟩
        · omega
        · exact ⟨rfl, hb4⟩)
    have GO : Hid (∀ c1 c2, Calls Try.prog 19 #[.slice A1 0 c1, .slice A2 0 c2, .slice d.a d.zs.length d.c] w3 fun e w' => e = .returned (.slice none 0 0) ∧ Below w3.heap.size w3 w') := go
    clear go
    by_cases hk1 : k1.n = 0
    · cases A1 <;> cases A2
      all_goals
        go_wp2_with fail
        refine (GO.out _ _).mono ?_
        rintro e w4 ⟨rfl, hb4⟩
        go_wp2
        refine wp_loop_rounds 1 ?_
        rw [rounds_succ]
        go_wp2
        go_ret
        exact ⟨rfl, HB3.out.trans (hb4.mono HB3.out.size)⟩
    · have hk2 : k2.n = 0 := by omega
      clear hz
      cases A1 <;> cases A2
      all_goals
        go_wp2_with fail
        refine (GO.out _ _).mono ?_
        rintro e w4 ⟨rfl, hb4⟩
        go_wp2
        refine wp_loop_rounds 1 ?_
        rw [rounds_succ]
        go_wp2
        go_ret
        exact ⟨rfl, HB3.out.trans (hb4.mono HB3.out.size)⟩
  cases A1 with
  | none =>
    have : k1.n = 0 := (OK1'.out.1 rfl).1
    omega
  | some x1 =>
  cases A2 with
  | none =>
    have : k2.n = 0 := (OK2'.out.1 rfl).1
    omega
  | some x2 =>
  by_cases hlt : (k2.n : Int) < (k1.n : Int)
  · go_wp2_with fail
    refine (zfind (some x1) (some x2) k2.n _ _ k1.n k2.n _ _ D1 D2 d w3 (by omega) (by omega) (by omega) OK1'.out OK2'.out OK3.out).mono ?_
    rintro e w4 ⟨b, rfl, hf, hb4⟩
    have HF : Hid (FoundB k2.n D1 D2 d b) := hf
    have HB4 : Hid (Below w''.heap.size w'' w4) := HB3.out.trans (hb4.mono HB3.out.size)
    have O1 : Hid (BB.ok w4 ⟨some x1, k1.n, k1.n, D1⟩) := bb_below OK1'.out hb4
    have O2 : Hid (BB.ok w4 ⟨some x2, k2.n, k2.n, D2⟩) := bb_below OK2'.out hb4
    have O3 : Hid (d.ok w4) := ok_below OK3.out hb4
    clear hf hb4 OK1' OK2' OK3 HB3
    go_wp2
    go_loopw [9, 10] (fun f q wr => ∃ (f' q' : Int), f = .int .i64 f' ∧ q = .int .i64 q' ∧ -1 ≤ q' ∧ q' < k2.n ∧ Run k2.n D1 d q' f' ∧ ∃ m, wr = w4.drewN m) (fun _ q _ => (intOf q + 1).toNat)
    case atStart => exact ⟨-1, (k2.n : Int) - 1, rfl, rfl, by omega, by omega, run_start _ _ _, 0, rfl⟩
    case round =>
      obtain ⟨f, q, rfl, rfl, hq0, hq1, hrun, m, rfl⟩ := hrel
      have HR : Hid (Run k2.n D1 d q f) := hrun
      clear hrun
      by_cases hq : 0 ≤ q
      · obtain ⟨j, rfl⟩ := Int.eq_ofNat_of_zero_le hq
        have hj1 : j < k1.n := by omega
        have hcj : w4.cell? (x1.add j) = some (.slice (D1 j).a (D1 j).zs.length (D1 j).c) := (O1.out.2.2 x1 rfl j hj1).1
        go_wp2_with fail
        refine (eq_any (D1 j) d (w4.drewN m) (ok_drewN (O1.out.2.2 x1 rfl j hj1).2 m) (ok_drewN O3.out m) (HL1.out j hj1)).mono ?_
        rintro e w5 ⟨rfl, m', rfl⟩
        cases hE : eqB (D1 j).zs d.zs with
        | true =>
          have HE : Hid (eqB (D1 j).zs d.zs = true) := hE
          clear hE
          go_wp2
          go_roundw
          case rel => exact ⟨j, (j : Int) - 1, rfl, rfl, by omega, by omega, run_hit (f := f) (by omega) HE.out, _, rfl⟩
          case measure => simp [intOf]
        | false =>
          have HE : Hid (eqB (D1 j).zs d.zs = false) := hE
          clear hE
          go_wp2
          go_roundw
          case rel => exact ⟨f, (j : Int) - 1, rfl, rfl, by omega, by omega, run_miss HR.out HE.out, _, rfl⟩
          case measure => simp [intOf]
      · have q0 := q24
        rcases run_end (by omega) HR.out HF.out with ⟨rfl, rfl⟩ | ⟨i, rfl, hi, rfl⟩
        · have ea : BS.nul.a = none := rfl
          go_wp2
          go_ret
          exact ⟨rfl, below_drewN HB4.out _⟩
        · have hci : w4.cell? (x2.add i) = some (.slice (D2 i).a (D2 i).zs.length (D2 i).c) := (O2.out.2.2 x2 rfl i (show i < k2.n by omega)).1
          go_wp2_with fail
          have oki := ok_drewN (O2.out.2.2 x2 rfl i (show i < k2.n by omega)).2 m
          have hli := HL2.out i (show i < k2.n by omega)
          refine (eq_any (D2 i) (D2 i) (w4.drewN m) oki oki hli).mono ?_
          rintro e w5 ⟨rfl, m', rfl⟩
          rw [eqB_self]
          clear oki hli
          go_wp2
          go_ret
          exact ⟨rfl, below_drewN HB4.out _⟩
  · go_wp2_with fail
    refine (zfind (some x1) (some x2) k1.n _ _ k1.n k2.n _ _ D1 D2 d w3 (by omega) (by omega) (by omega) OK1'.out OK2'.out OK3.out).mono ?_
    rintro e w4 ⟨b, rfl, hf, hb4⟩
    have HF : Hid (FoundB k1.n D1 D2 d b) := hf
    have HB4 : Hid (Below w''.heap.size w'' w4) := HB3.out.trans (hb4.mono HB3.out.size)
    have O1 : Hid (BB.ok w4 ⟨some x1, k1.n, k1.n, D1⟩) := bb_below OK1'.out hb4
    have O2 : Hid (BB.ok w4 ⟨some x2, k2.n, k2.n, D2⟩) := bb_below OK2'.out hb4
    have O3 : Hid (d.ok w4) := ok_below OK3.out hb4
    clear hf hb4 OK1' OK2' OK3 HB3
    go_wp2
    go_loopw [9, 10] (fun f q wr => ∃ (f' q' : Int), f = .int .i64 f' ∧ q = .int .i64 q' ∧ -1 ≤ q' ∧ q' < k1.n ∧ Run k1.n D1 d q' f' ∧ ∃ m, wr = w4.drewN m) (fun _ q _ => (intOf q + 1).toNat)
    case atStart => exact ⟨-1, (k1.n : Int) - 1, rfl, rfl, by omega, by omega, run_start _ _ _, 0, rfl⟩
    case round =>
      obtain ⟨f, q, rfl, rfl, hq0, hq1, hrun, m, rfl⟩ := hrel
      have HR : Hid (Run k1.n D1 d q f) := hrun
      clear hrun
      by_cases hq : 0 ≤ q
      · obtain ⟨j, rfl⟩ := Int.eq_ofNat_of_zero_le hq
        have hj1 : j < k1.n := by omega
        have hcj : w4.cell? (x1.add j) = some (.slice (D1 j).a (D1 j).zs.length (D1 j).c) := (O1.out.2.2 x1 rfl j hj1).1
        go_wp2_with fail
        refine (eq_any (D1 j) d (w4.drewN m) (ok_drewN (O1.out.2.2 x1 rfl j hj1).2 m) (ok_drewN O3.out m) (HL1.out j hj1)).mono ?_
        rintro e w5 ⟨rfl, m', rfl⟩
        cases hE : eqB (D1 j).zs d.zs with
        | true =>
          have HE : Hid (eqB (D1 j).zs d.zs = true) := hE
          clear hE
          go_wp2
          go_roundw
          case rel => exact ⟨j, (j : Int) - 1, rfl, rfl, by omega, by omega, run_hit (f := f) (by omega) HE.out, _, rfl⟩
          case measure => simp [intOf]
        | false =>
          have HE : Hid (eqB (D1 j).zs d.zs = false) := hE
          clear hE
          go_wp2
          go_roundw
          case rel => exact ⟨f, (j : Int) - 1, rfl, rfl, by omega, by omega, run_miss HR.out HE.out, _, rfl⟩
          case measure => simp [intOf]
      · have q0 := q24
        rcases run_end (by omega) HR.out HF.out with ⟨rfl, rfl⟩ | ⟨i, rfl, hi, rfl⟩
        · have ea : BS.nul.a = none := rfl
          go_wp2
          go_ret
          exact ⟨rfl, below_drewN HB4.out _⟩
        · have hci : w4.cell? (x2.add i) = some (.slice (D2 i).a (D2 i).zs.length (D2 i).c) := (O2.out.2.2 x2 rfl i (show i < k2.n by omega)).1
          go_wp2_with fail
          have oki := ok_drewN (O2.out.2.2 x2 rfl i (show i < k2.n by omega)).2 m
          have hli := HL2.out i (show i < k2.n by omega)
          refine (eq_any (D2 i) (D2 i) (w4.drewN m) oki oki hli).mono ?_
          rintro e w5 ⟨rfl, m', rfl⟩
          rw [eqB_self]
          clear oki hli
          go_wp2
          go_ret
          exact ⟨rfl, below_drewN HB4.out _⟩
end firstlaw
end Go.Proofs.Qxb6601003a
