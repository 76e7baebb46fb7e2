import Derived.Test.Qxb6601003aFirst
import Derived.OwnWalk
namespace Go.Proofs.Qxb6601003a
open Go.ChangeShapes Go.WideShapes Go.ChangeAt Go.RowKit
open byteskit bskit guardkit clonetwo findkit zfind firstlaw
set_option linter.unusedVariables false
namespace frontlaw

set_option maxHeartbeats 1000000 in
theorem guard21 (k1 k2 : BB) (a3 a4 a5 : Option Addr) (n3 n4 n5 c3 c4 c5 : Nat) (w : World) (h1 : k1.ok w) (h2 : k2.ok w) :
    Calls Try.prog 21 #[.slice k1.a k1.n k1.c, .slice k2.a k2.n k2.c, .slice a3 n3 c3, .slice a4 n4 c4, .slice a5 n5 c5] w fun e w' => Ans True e ∧ w' = w := by
  have H1 : Hid (k1.ok w) := h1
  have H2 : Hid (k2.ok w) := h2
  clear h1 h2
  by_cases hn1 : (1048576 : Int) < (k1.n : Int)
  · go_enter Try.func21, Try.ntmps21
    go_wp2
    go_ret
    exact ⟨ans_any _, rfl⟩
  have d1 := dec_no hn1
  go_enter Try.func21, Try.ntmps21
  go_wp2
  clear d1
  go_loop [11, 12] (fun s i => ∃ (s' : Int) (k : Nat), s = .int .i64 s' ∧ 0 ≤ s' ∧ s' ≤ 1048576 ∧ i = .int .i64 k ∧ k ≤ k1.n) (fun _ i => k1.n - (intOf i).toNat)
  case atStart => exact ⟨k1.n, 0, rfl, by omega, by omega, rfl, by omega⟩
  case round =>
    obtain ⟨s, k, rfl, hs0, hs1, rfl, hk⟩ := hrel
    by_cases hlt : k < k1.n
    · obtain ⟨x, hx, hc⟩ := bb_cell H1.out hlt
      go_wp2
      · go_ret
        exact ⟨ans_any _, rfl⟩
      · go_ret
        exact ⟨ans_any _, rfl⟩
      · go_round
        case rel => exact ⟨_, k + 1, rfl, by omega, by omega, by go_num, by omega⟩
        case measure => simp [intOf]; omega
    · clear H1
      by_cases hn2 : (1048576 : Int) < (k2.n : Int)
      · go_wp2
        go_ret
        exact ⟨ans_any _, rfl⟩
      by_cases hn3 : (1048576 : Int) < s + (k2.n : Int)
      · go_wp2
        go_ret
        exact ⟨ans_any _, rfl⟩
      have d1 : decide ((1048576 : Int) < (k1.n : Int)) = false := dec_no (by omega)
      have d2 := dec_no hn2
      have d3 := dec_no hn3
      have d4 : decide ((k : Int) < (k1.n : Int)) = false := by simp; omega
      have d5 : decide (k < k1.n) = false := by simp; omega
      go_wp2
      clear d1 d2 d3 d4 d5
      go_loop [11, 13] (fun s i => ∃ (s' : Int) (k : Nat), s = .int .i64 s' ∧ 0 ≤ s' ∧ s' ≤ 1048576 ∧ i = .int .i64 k ∧ k ≤ k2.n) (fun _ i => k2.n - (intOf i).toNat)
      case atStart => exact ⟨s + k2.n, 0, rfl, by omega, by omega, rfl, by omega⟩
      case round =>
        obtain ⟨s2, k', rfl, hs20, hs21, rfl, hk'⟩ := hrel
        by_cases hlt2 : k' < k2.n
        · obtain ⟨x, hx, hc⟩ := bb_cell H2.out hlt2
          go_wp2
          · go_ret
            exact ⟨ans_any _, rfl⟩
          · go_ret
            exact ⟨ans_any _, rfl⟩
          · go_round
            case rel => exact ⟨_, k' + 1, rfl, by omega, by omega, by go_num, by omega⟩
            case measure => simp [intOf]; omega
        · go_wp2
          all_goals
            go_ret
            exact ⟨ans_any _, rfl⟩

theorem own_lt {w : World} {base : Nat} {e : TypeId} {s g n cap : Nat} {xs : List Value} (h : w.ownsRow base e s (.slice (some ⟨g, 0, none⟩) n cap) n xs) : g < w.heap.size := by
  rcases h.2 with ⟨h', _⟩ | ⟨g', cap', cur, h', _, hg, _⟩
  · simp at h'
  · simp only [Value.slice.injEq, Option.some.injEq, Addr.mk.injEq, and_true, true_and] at h'
    obtain ⟨rfl, rfl⟩ := h'
    exact (Array.getElem?_eq_some_iff.1 hg).1

theorem one_cell (w : World) (v : Value) : ∀ j u, [v][j]? = some u → (w.alloc (.cells #[v] 24)).cell? (Addr.add ⟨w.heap.size, 0, none⟩ j) = some u := by
  intro j u hj
  match j, hj with
  | 0, hj => simp at hj; subst hj; simp [Addr.add]

def front (x : BS) (K : Nat → BS) : Nat → BS
  | 0 => x
  | i + 1 => K i

def news (K : Nat → BS) (n : Nat) : List Value := (List.range n).map fun i => (K i).val

theorem news_len (K : Nat → BS) (n : Nat) : (news K n).length = n * 1 := by simp [news]

theorem news_at (K : Nat → BS) (n j : Nat) (h : j < n) : (news K n)[j]? = some (K j).val := by
  simp [news, h]

theorem news_cells {w : World} {A : Option Addr} {m c n : Nat} {D : Nat → BS} (h : BB.ok w ⟨A, m, c, D⟩) (hn : n ≤ m) : ∀ ad, A = some ad → ∀ j u, (news D n)[j]? = some u → w.cell? (ad.add j) = some u := by
  intro ad hA j u hu
  have hj : j < n := by
    rcases Nat.lt_or_ge j n with h' | h'
    · exact h'
    · rw [List.getElem?_eq_none (by rw [news_len]; omega)] at hu
      cases hu
  rw [news_at D n j hj] at hu
  cases hu
  exact (h.2.2 ad hA j (show j < m by omega)).1

theorem news_one (K : Nat → BS) (n : Nat) : ∀ u ∈ news K n, u.oneCell' = true := by
  intro u hu
  simp only [news, List.mem_map] at hu
  obtain ⟨i, _, rfl⟩ := hu
  rfl

theorem front_bb {w : World} {g n : Nat} {x : BS} {K : Nat → BS} {base : Nat} (h : w.ownsRow base 24 1 (.slice (some ⟨g, 0, none⟩) (1 + n) (n + 1)) (1 + n) ([x.val] ++ news K n)) (hx : x.ok w) (hK : ∀ i, i < n → (K i).ok w) :
    BB.ok w ⟨some ⟨g, 0, none⟩, 1 + n, n + 1, front x K⟩ := by
  refine ⟨fun h => by simp at h, show 1 + n ≤ n + 1 by omega, fun y hy i hi => ?_⟩
  simp only [Option.some.injEq] at hy
  subst hy
  have hi' : i < 1 + n := hi
  rw [addr_at, h.cellAt i (by omega)]
  cases i with
  | zero => exact ⟨rfl, hx⟩
  | succ i =>
    refine ⟨?_, hK i (by omega)⟩
    show (x.val :: news K n)[i + 1]? = some (K i).val
    rw [List.getElem?_cons_succ, news_at K n i (by omega)]

theorem found_hit {n : Nat} {K V : Nat → BS} {x y key b : BS} (h : FoundB (1 + n) (front x K) (front y V) key b) (e : x.zs = key.zs) : b = y := by
  rcases h with ⟨i, h1, h2, h3, h4⟩ | ⟨h1, h2⟩
  · cases i with
    | zero => exact h4
    | succ i => exact absurd e (h3 0 (by omega))
  · exact absurd e (h1 0 (by omega))

theorem found_miss {n : Nat} {K V : Nat → BS} {x y key b : BS} (h : FoundB (1 + n) (front x K) (front y V) key b) (e : ¬ x.zs = key.zs) : FoundB n K V key b := by
  rcases h with ⟨i, h1, h2, h3, h4⟩ | ⟨h1, h2⟩
  · cases i with
    | zero => exact absurd h2 e
    | succ i => exact Or.inl ⟨i, by omega, h2, fun j hj => h3 (j + 1) (by omega), h4⟩
  · exact Or.inr ⟨fun j hj => h1 (j + 1) (by omega), h2⟩

theorem found_one {n : Nat} {K V : Nat → BS} {key b c : BS} (h : FoundB n K V key b) (k : FoundB n K V key c) : b = c := by
  rcases h with ⟨i, h1, h2, h3, h4⟩ | ⟨h1, h2⟩
  · rcases k with ⟨j, k1, k2, k3, k4⟩ | ⟨k1, k2⟩
    · have : i = j := by
        rcases Nat.lt_trichotomy i j with h | h | h
        · exact absurd h2 (k3 i h)
        · exact h
        · exact absurd k2 (h3 j h)
      rw [h4, k4, this]
    · exact absurd h2 (k1 i h1)
  · rcases k with ⟨j, k1, k2, k3, k4⟩ | ⟨k1, k2⟩
    · exact absurd k2 (h1 j k1)
    · rw [h2, k2]

theorem found_ok {n : Nat} {K V : Nat → BS} {key b : BS} {w : World} (h : FoundB n K V key b) (hV : ∀ i, i < n → (V i).ok w ∧ (V i).zs.length ≤ 1048576) : b.ok w ∧ b.zs.length ≤ 1048576 := by
  rcases h with ⟨i, h1, _, _, rfl⟩ | ⟨_, rfl⟩
  · exact hV i h1
  · exact ⟨nul_ok w, by simp [BS.nul]⟩

theorem bb_oks {w : World} {A : Option Addr} {m c n : Nat} {D : Nat → BS} (h : BB.ok w ⟨A, m, c, D⟩) (hn : n ≤ m) : ∀ i, i < n → (D i).ok w := by
  intro i hi
  obtain ⟨x, hx, _⟩ := bb_cell h (show i < m by omega)
  exact (h.2.2 x hx i (show i < m by omega)).2

set_option maxHeartbeats 4000000 in
theorem law (k1 k2 : BB) (key nk nv : BS) (w : World) (h1 : k1.ok w) (h2 : k2.ok w) (h3 : key.ok w) (h4 : nk.ok w) (h5 : nv.ok w) :
    Calls Try.prog 8 #[.slice k1.a k1.n k1.c, .slice k2.a k2.n k2.c, .slice key.a key.zs.length key.c, .slice nk.a nk.zs.length nk.c, .slice nv.a nv.zs.length nv.c] w fun e w' => e = .returned (.bool true) ∧ Below w.heap.size w w' := by
  have H1 : Hid (k1.ok w) := h1
  have H2 : Hid (k2.ok w) := h2
  have H3 : Hid (key.ok w) := h3
  have H4 : Hid (nk.ok w) := h4
  have H5 : Hid (nv.ok w) := h5
  clear h1 h2 h3 h4 h5
  go_enter Try.func8, Try.ntmps8
  go_wp2_with fail
  refine (guard21 k1 k2 _ _ _ _ _ _ _ _ _ w H1.out H2.out).mono ?_
  rintro e w' ⟨⟨b, rfl, -⟩, rfl⟩
  cases b with
  | false =>
    go_wp2
    go_ret
    exact ⟨rfl, Below.refl _ _⟩
  | true =>
  go_wp2_with fail
  refine (guard17 k1 k2 _ _ _ _ _ _ _ _ _ w' H1.out H2.out).mono ?_
  rintro e w'' ⟨⟨b, rfl, hsm⟩, rfl⟩
  cases b with
  | true =>
    go_wp2
    go_ret
    exact ⟨rfl, Below.refl _ _⟩
  | false =>
  obtain ⟨hn1, hn2, hn3, hn4, hn5, hs1, hs2⟩ := hsm rfl
  have HS1 : Hid (∀ i, i < k1.n → (k1.K i).zs.length ≤ 1048576) := hs1
  have HS2 : Hid (∀ i, i < k2.n → (k2.K i).zs.length ≤ 1048576) := hs2
  clear hs1 hs2 hsm
  go_wp2_with fail
  refine (clone2_any k1 w'' H1.out hn1 HS1.out).mono ?_
  rintro e w1 ⟨A1, D1, rfl, hok1, -, heq1, hb1⟩
  have OK1 : Hid (BB.ok w1 ⟨A1, k1.n, k1.n, D1⟩) := hok1
  clear hok1 heq1 HS1
  go_wp2_with fail
  refine (clone2_any k2 w1 (bb_below H2.out hb1) hn2 HS2.out).mono ?_
  rintro e w2 ⟨A2, D2, rfl, hok2, -, heq2, hb2⟩
  have HL2 : Hid (∀ i, i < k2.n → (D2 i).zs.length ≤ 1048576) := fun i hi => by rw [(heq2 i hi).1]; exact HS2.out i hi
  have OK2 : Hid (BB.ok w2 ⟨A2, k2.n, k2.n, D2⟩) := hok2
  clear hok2 heq2 HS2
  go_wp2_with fail
  have HB2 : Hid (Below w''.heap.size w'' w2) := hb1.trans (hb2.mono hb1.size)
  refine (clone_any key w2 (ok_below H3.out HB2.out) hn3).mono ?_
  rintro e w3 ⟨d, rfl, hd, hdz, -, hb3⟩
  have HB3 : Hid (Below w''.heap.size w'' w3) := HB2.out.trans (hb3.mono HB2.out.size)
  have OK1' : Hid (BB.ok w3 ⟨A1, k1.n, k1.n, D1⟩) := bb_below (bb_below OK1.out hb2) hb3
  have OK2' : Hid (BB.ok w3 ⟨A2, k2.n, k2.n, D2⟩) := bb_below OK2.out hb3
  have OK3 : Hid (d.ok w3) := hd
  have hdl : d.zs.length ≤ 1048576 := by rw [hdz]; exact hn3
  clear OK1 OK2 H1 H2 H3 hd hdz hb1 hb2 hb3 HB2
  go_wp2_with fail
  refine (clone_any nk w3 (ok_below H4.out HB3.out) hn4).mono ?_
  rintro e w4 ⟨x, rfl, hx, hxz, -, hb4⟩
  have HB4 : Hid (Below w''.heap.size w'' w4) := HB3.out.trans (hb4.mono HB3.out.size)
  have OK1 : Hid (BB.ok w4 ⟨A1, k1.n, k1.n, D1⟩) := bb_below OK1'.out hb4
  have OK2 : Hid (BB.ok w4 ⟨A2, k2.n, k2.n, D2⟩) := bb_below OK2'.out hb4
  have OK3' : Hid (d.ok w4) := ok_below OK3.out hb4
  have OKx : Hid (x.ok w4) := hx
  have hxl : x.zs.length ≤ 1048576 := by rw [hxz]; exact hn4
  clear OK1' OK2' OK3 H4 hx hxz hb4 HB3
  go_wp2_with fail
  refine (clone_any nv w4 (ok_below H5.out HB4.out) hn5).mono ?_
  rintro e w5 ⟨y, rfl, hy, hyz, -, hb5⟩
  have HB5 : Hid (Below w''.heap.size w'' w5) := HB4.out.trans (hb5.mono HB4.out.size)
  have O1 : Hid (BB.ok w5 ⟨A1, k1.n, k1.n, D1⟩) := bb_below OK1.out hb5
  have O2 : Hid (BB.ok w5 ⟨A2, k2.n, k2.n, D2⟩) := bb_below OK2.out hb5
  have Od : Hid (d.ok w5) := ok_below OK3'.out hb5
  have Ox : Hid (x.ok w5) := ok_below OKx.out hb5
  have Oy : Hid (y.ok w5) := hy
  have hyl : y.zs.length ≤ 1048576 := by rw [hyz]; exact hn5
  clear OK1 OK2 OK3' OKx H5 hy hyz hb5 HB4
  obtain ⟨i0, hi, hz0, hz1, hz2⟩ := info_parts info24
  by_cases hz : k1.n = 0 ∨ k2.n = 0
  · by_cases hk1 : k1.n = 0
    · clear hz
      cases A1 with
      | none =>
        cases A2 with
        | none =>
          have hk2 : k2.n = 0 := (O2.out.1 rfl).1
          go_wp2_with (at_make; refine wpList_make_own _ rfl _ _ 29 rfl 0 24 i0 (.slice none 0 0) 1 Try.underlying29 hi hz0 hz1 .i64 .i64 _ (0 + 1) rfl rfl ?e0p0 ?e1p0 ?e2p0 ?e3p0 ?_)
          case e0p0 => first | rfl | omega
          case e1p0 => rw [hz2]; omega
          case e2p0 => unfold maxLen; omega
          case e3p0 => omega
          intro wap hownp hgrp
          have hbap : Below w5.heap.size w5 wap := (Below.refl _ _).grown hgrp (Nat.le_refl _) (fun k hk => by cases hk)
          have hszp : w5.heap.size < wap.heap.size := own_lt hownp
          clear hgrp
          go_wp2_with (at_builtin; refine wpList_append_fits _ rfl _ _ 29 rfl 0 24 i0 1 Try.underlying29 hi hz1 w5.heap.size 0 (0 + 1) [] rfl (hownp.alloc _) ⟨wap.heap.size, 0, none⟩ 1 1 [.slice x.a x.zs.length x.c] rfl rfl ?f1p0 ?f2p0 ?f3p0 ?_)
          case f1p0 => exact one_cell _ _
          case f2p0 => intro u hu; simp at hu; subst hu; rfl
          case f3p0 => omega
          intro wbp hownbp hgrbp
          have hbbp : Below w5.heap.size w5 wbp := (hbap.alloc hbap.size _).grown hgrbp (by simp; omega) (fun k hk => by cases hk; exact Nat.le_refl _)
          have HOp : Hid (wbp.ownsRow 0 24 1 (.slice (some ⟨w5.heap.size, 0, none⟩) (0 + 1) (0 + 1)) (0 + 1) ([] ++ [.slice x.a x.zs.length x.c])) := hownbp
          clear hbap hownp hownbp hgrbp hszp
          go_wp2_with (at_builtin; refine wpList_append_fits_any _ rfl _ _ 29 rfl 0 24 i0 1 Try.underlying29 hi hz1 w5.heap.size (0 + 1) (0 + 1) ([] ++ [.slice x.a x.zs.length x.c]) rfl HOp.out _ 0 _ (news D1 0) rfl (news_len D1 0) (fun h => by first | exact ⟨rfl, rfl⟩ | (cases h; done)) (by exact news_cells (bb_below O1.out hbbp) (by omega)) (news_one _ _) (by omega) ?_)
          intro wcp howncp hgrcp
          have hbcp : Below w5.heap.size w5 wcp := hbbp.grown hgrcp hbbp.size (fun k hk => by cases hk; exact Nat.le_refl _)
          have BNp : Hid (BB.ok wcp ⟨some ⟨w5.heap.size, 0, none⟩, 1 + 0, 0 + 1, front x D1⟩) := front_bb howncp (ok_below Ox.out hbcp) (bb_oks (bb_below O1.out hbcp) (by omega))
          clear howncp hgrcp hbbp HOp
          have HB6 : Hid (Below w''.heap.size w'' wcp) := HB5.out.trans (hbcp.mono HB5.out.size)
          have P1 : Hid (BB.ok wcp ⟨_, k1.n, k1.n, D1⟩) := bb_below O1.out hbcp
          have P2 : Hid (BB.ok wcp ⟨_, k2.n, k2.n, D2⟩) := bb_below O2.out hbcp
          have Pd : Hid (d.ok wcp) := ok_below Od.out hbcp
          have Px : Hid (x.ok wcp) := ok_below Ox.out hbcp
          have Py : Hid (y.ok wcp) := ok_below Oy.out hbcp
          clear O1 O2 Od Ox Oy HB5 hbcp
          go_wp2_with (at_make; refine wpList_make_own _ rfl _ _ 29 rfl 0 24 i0 (.slice none 0 0) 1 Try.underlying29 hi hz0 hz1 .i64 .i64 _ (0 + 1) rfl rfl ?e0q0 ?e1q0 ?e2q0 ?e3q0 ?_)
          case e0q0 => first | rfl | omega
          case e1q0 => rw [hz2]; omega
          case e2q0 => unfold maxLen; omega
          case e3q0 => omega
          intro waq hownq hgrq
          have hbaq : Below wcp.heap.size wcp waq := (Below.refl _ _).grown hgrq (Nat.le_refl _) (fun k hk => by cases hk)
          have hszq : wcp.heap.size < waq.heap.size := own_lt hownq
          clear hgrq
          go_wp2_with (at_builtin; refine wpList_append_fits _ rfl _ _ 29 rfl 0 24 i0 1 Try.underlying29 hi hz1 wcp.heap.size 0 (0 + 1) [] rfl (hownq.alloc _) ⟨waq.heap.size, 0, none⟩ 1 1 [.slice y.a y.zs.length y.c] rfl rfl ?f1q0 ?f2q0 ?f3q0 ?_)
          case f1q0 => exact one_cell _ _
          case f2q0 => intro u hu; simp at hu; subst hu; rfl
          case f3q0 => omega
          intro wbq hownbq hgrbq
          have hbbq : Below wcp.heap.size wcp wbq := (hbaq.alloc hbaq.size _).grown hgrbq (by simp; omega) (fun k hk => by cases hk; exact Nat.le_refl _)
          have HOq : Hid (wbq.ownsRow 0 24 1 (.slice (some ⟨wcp.heap.size, 0, none⟩) (0 + 1) (0 + 1)) (0 + 1) ([] ++ [.slice y.a y.zs.length y.c])) := hownbq
          clear hbaq hownq hownbq hgrbq hszq
          go_wp2_with (at_builtin; refine wpList_append_fits_any _ rfl _ _ 29 rfl 0 24 i0 1 Try.underlying29 hi hz1 wcp.heap.size (0 + 1) (0 + 1) ([] ++ [.slice y.a y.zs.length y.c]) rfl HOq.out _ 0 _ (news D2 0) rfl (news_len D2 0) (fun h => by first | exact ⟨rfl, rfl⟩ | (cases h; done)) (by exact news_cells (bb_below P2.out hbbq) (by omega)) (news_one _ _) (by omega) ?_)
          intro wcq howncq hgrcq
          have hbcq : Below wcp.heap.size wcp wcq := hbbq.grown hgrcq hbbq.size (fun k hk => by cases hk; exact Nat.le_refl _)
          have BNq : Hid (BB.ok wcq ⟨some ⟨wcp.heap.size, 0, none⟩, 1 + 0, 0 + 1, front y D2⟩) := front_bb howncq (ok_below Py.out hbcq) (bb_oks (bb_below P2.out hbcq) (by omega))
          clear howncq hgrcq hbbq HOq
          have HB7 : Hid (Below w''.heap.size w'' wcq) := HB6.out.trans (hbcq.mono HB6.out.size)
          have R1 : Hid (BB.ok wcq ⟨_, k1.n, k1.n, D1⟩) := bb_below P1.out hbcq
          have R2 : Hid (BB.ok wcq ⟨_, k2.n, k2.n, D2⟩) := bb_below P2.out hbcq
          have Rd : Hid (d.ok wcq) := ok_below Pd.out hbcq
          have Rx : Hid (x.ok wcq) := ok_below Px.out hbcq
          have Ry : Hid (y.ok wcq) := ok_below Py.out hbcq
          have BN : Hid (BB.ok wcq ⟨some ⟨w5.heap.size, 0, none⟩, 1 + 0, 0 + 1, front x D1⟩) := bb_below BNp.out hbcq
          clear P1 P2 Pd Px Py HB6 hbcq BNp
          go_wp2_with fail
          refine (zfind _ _ 0 _ _ k1.n k2.n _ _ D1 D2 d wcq (by omega) (by omega) (by omega) R1.out R2.out Rd.out).mono ?_
          rintro e wd ⟨b, rfl, hf, hbd⟩
          have HF : Hid (FoundB 0 D1 D2 d b) := hf
          clear hf
          go_wp2_with fail
          refine (zfind _ _ (1 + 0) _ _ (1 + 0) (1 + 0) _ _ (front x D1) (front y D2) d wd (by omega) (by omega) (by omega) (bb_below BN.out hbd) (bb_below BNq.out hbd) (ok_below Rd.out hbd)).mono ?_
          rintro e we ⟨b', rfl, hf', hbe⟩
          have HF' : Hid (FoundB (1 + 0) (front x D1) (front y D2) d b') := hf'
          have hbw : Below wcq.heap.size wcq we := hbd.trans (hbe.mono hbd.size)
          have HB8 : Hid (Below w''.heap.size w'' we) := HB7.out.trans (hbw.mono HB7.out.size)
          have Sb : Hid (b.ok we ∧ b.zs.length ≤ 1048576) := found_ok HF.out (fun i hi => ⟨bb_oks (bb_below R2.out hbw) (show 0 ≤ k2.n by omega) i hi, HL2.out i (by omega)⟩)
          have Sd : Hid (d.ok we) := ok_below Rd.out hbw
          have Sx : Hid (x.ok we) := ok_below Rx.out hbw
          have Sy : Hid (y.ok we) := ok_below Ry.out hbw
          clear hf' hbd hbe hbw R1 R2 Rd Rx Ry BN BNq HB7
          have qn := q24
          go_wp2_with fail
          refine (eq_any x d we Sx.out Sd.out hxl).mono ?_
          rintro e wf ⟨rfl, m, rfl⟩
          cases hE : eqB x.zs d.zs with
          | true =>
            have hby : b' = y := found_hit HF'.out (by simpa [eqB] using hE)
            subst hby
            clear hE HF HF'
            go_wp2_with fail
            refine (eq_any b' b' _ (ok_drewN Sy.out m) (ok_drewN Sy.out m) hyl).mono ?_
            rintro e wg ⟨rfl, m', rfl⟩
            rw [eqB_self]
            go_wp2
            go_ret
            exact ⟨rfl, below_drewN HB8.out _⟩
          | false =>
            have hbb : b' = b := found_one (found_miss HF'.out (by simpa [eqB] using hE)) HF.out
            subst hbb
            clear hE HF HF'
            have hbl := Sb.out.2
            go_wp2_with fail
            refine (eq_any b' b' _ (ok_drewN Sb.out.1 m) (ok_drewN Sb.out.1 m) hbl).mono ?_
            rintro e wg ⟨rfl, m', rfl⟩
            rw [eqB_self]
            go_wp2
            go_ret
            exact ⟨rfl, below_drewN HB8.out _⟩
        | some x2 =>
          go_wp2_with (at_make; refine wpList_make_own _ rfl _ _ 29 rfl 0 24 i0 (.slice none 0 0) 1 Try.underlying29 hi hz0 hz1 .i64 .i64 _ (0 + 1) rfl rfl ?e0p1 ?e1p1 ?e2p1 ?e3p1 ?_)
          case e0p1 => first | rfl | omega
          case e1p1 => rw [hz2]; omega
          case e2p1 => unfold maxLen; omega
          case e3p1 => omega
          intro wap hownp hgrp
          have hbap : Below w5.heap.size w5 wap := (Below.refl _ _).grown hgrp (Nat.le_refl _) (fun k hk => by cases hk)
          have hszp : w5.heap.size < wap.heap.size := own_lt hownp
          clear hgrp
          go_wp2_with (at_builtin; refine wpList_append_fits _ rfl _ _ 29 rfl 0 24 i0 1 Try.underlying29 hi hz1 w5.heap.size 0 (0 + 1) [] rfl (hownp.alloc _) ⟨wap.heap.size, 0, none⟩ 1 1 [.slice x.a x.zs.length x.c] rfl rfl ?f1p1 ?f2p1 ?f3p1 ?_)
          case f1p1 => exact one_cell _ _
          case f2p1 => intro u hu; simp at hu; subst hu; rfl
          case f3p1 => omega
          intro wbp hownbp hgrbp
          have hbbp : Below w5.heap.size w5 wbp := (hbap.alloc hbap.size _).grown hgrbp (by simp; omega) (fun k hk => by cases hk; exact Nat.le_refl _)
          have HOp : Hid (wbp.ownsRow 0 24 1 (.slice (some ⟨w5.heap.size, 0, none⟩) (0 + 1) (0 + 1)) (0 + 1) ([] ++ [.slice x.a x.zs.length x.c])) := hownbp
          clear hbap hownp hownbp hgrbp hszp
          go_wp2_with (at_builtin; refine wpList_append_fits_any _ rfl _ _ 29 rfl 0 24 i0 1 Try.underlying29 hi hz1 w5.heap.size (0 + 1) (0 + 1) ([] ++ [.slice x.a x.zs.length x.c]) rfl HOp.out _ 0 _ (news D1 0) rfl (news_len D1 0) (fun h => by first | exact ⟨rfl, rfl⟩ | (cases h; done)) (by exact news_cells (bb_below O1.out hbbp) (by omega)) (news_one _ _) (by omega) ?_)
          intro wcp howncp hgrcp
          have hbcp : Below w5.heap.size w5 wcp := hbbp.grown hgrcp hbbp.size (fun k hk => by cases hk; exact Nat.le_refl _)
          have BNp : Hid (BB.ok wcp ⟨some ⟨w5.heap.size, 0, none⟩, 1 + 0, 0 + 1, front x D1⟩) := front_bb howncp (ok_below Ox.out hbcp) (bb_oks (bb_below O1.out hbcp) (by omega))
          clear howncp hgrcp hbbp HOp
          have HB6 : Hid (Below w''.heap.size w'' wcp) := HB5.out.trans (hbcp.mono HB5.out.size)
          have P1 : Hid (BB.ok wcp ⟨_, k1.n, k1.n, D1⟩) := bb_below O1.out hbcp
          have P2 : Hid (BB.ok wcp ⟨_, k2.n, k2.n, D2⟩) := bb_below O2.out hbcp
          have Pd : Hid (d.ok wcp) := ok_below Od.out hbcp
          have Px : Hid (x.ok wcp) := ok_below Ox.out hbcp
          have Py : Hid (y.ok wcp) := ok_below Oy.out hbcp
          clear O1 O2 Od Ox Oy HB5 hbcp
          go_wp2_with (at_make; refine wpList_make_own _ rfl _ _ 29 rfl 0 24 i0 (.slice none 0 0) 1 Try.underlying29 hi hz0 hz1 .i64 .i64 _ (0 + 1) rfl rfl ?e0q1 ?e1q1 ?e2q1 ?e3q1 ?_)
          case e0q1 => first | rfl | omega
          case e1q1 => rw [hz2]; omega
          case e2q1 => unfold maxLen; omega
          case e3q1 => omega
          intro waq hownq hgrq
          have hbaq : Below wcp.heap.size wcp waq := (Below.refl _ _).grown hgrq (Nat.le_refl _) (fun k hk => by cases hk)
          have hszq : wcp.heap.size < waq.heap.size := own_lt hownq
          clear hgrq
          go_wp2_with (at_builtin; refine wpList_append_fits _ rfl _ _ 29 rfl 0 24 i0 1 Try.underlying29 hi hz1 wcp.heap.size 0 (0 + 1) [] rfl (hownq.alloc _) ⟨waq.heap.size, 0, none⟩ 1 1 [.slice y.a y.zs.length y.c] rfl rfl ?f1q1 ?f2q1 ?f3q1 ?_)
          case f1q1 => exact one_cell _ _
          case f2q1 => intro u hu; simp at hu; subst hu; rfl
          case f3q1 => omega
          intro wbq hownbq hgrbq
          have hbbq : Below wcp.heap.size wcp wbq := (hbaq.alloc hbaq.size _).grown hgrbq (by simp; omega) (fun k hk => by cases hk; exact Nat.le_refl _)
          have HOq : Hid (wbq.ownsRow 0 24 1 (.slice (some ⟨wcp.heap.size, 0, none⟩) (0 + 1) (0 + 1)) (0 + 1) ([] ++ [.slice y.a y.zs.length y.c])) := hownbq
          clear hbaq hownq hownbq hgrbq hszq
          go_wp2_with (at_builtin; refine wpList_append_fits_any _ rfl _ _ 29 rfl 0 24 i0 1 Try.underlying29 hi hz1 wcp.heap.size (0 + 1) (0 + 1) ([] ++ [.slice y.a y.zs.length y.c]) rfl HOq.out _ 0 _ (news D2 0) rfl (news_len D2 0) (fun h => by first | exact ⟨rfl, rfl⟩ | (cases h; done)) (by exact news_cells (bb_below P2.out hbbq) (by omega)) (news_one _ _) (by omega) ?_)
          intro wcq howncq hgrcq
          have hbcq : Below wcp.heap.size wcp wcq := hbbq.grown hgrcq hbbq.size (fun k hk => by cases hk; exact Nat.le_refl _)
          have BNq : Hid (BB.ok wcq ⟨some ⟨wcp.heap.size, 0, none⟩, 1 + 0, 0 + 1, front y D2⟩) := front_bb howncq (ok_below Py.out hbcq) (bb_oks (bb_below P2.out hbcq) (by omega))
          clear howncq hgrcq hbbq HOq
          have HB7 : Hid (Below w''.heap.size w'' wcq) := HB6.out.trans (hbcq.mono HB6.out.size)
          have R1 : Hid (BB.ok wcq ⟨_, k1.n, k1.n, D1⟩) := bb_below P1.out hbcq
          have R2 : Hid (BB.ok wcq ⟨_, k2.n, k2.n, D2⟩) := bb_below P2.out hbcq
          have Rd : Hid (d.ok wcq) := ok_below Pd.out hbcq
          have Rx : Hid (x.ok wcq) := ok_below Px.out hbcq
          have Ry : Hid (y.ok wcq) := ok_below Py.out hbcq
          have BN : Hid (BB.ok wcq ⟨some ⟨w5.heap.size, 0, none⟩, 1 + 0, 0 + 1, front x D1⟩) := bb_below BNp.out hbcq
          clear P1 P2 Pd Px Py HB6 hbcq BNp
          go_wp2_with fail
          refine (zfind _ _ 0 _ _ k1.n k2.n _ _ D1 D2 d wcq (by omega) (by omega) (by omega) R1.out R2.out Rd.out).mono ?_
          rintro e wd ⟨b, rfl, hf, hbd⟩
          have HF : Hid (FoundB 0 D1 D2 d b) := hf
          clear hf
          go_wp2_with fail
          refine (zfind _ _ (1 + 0) _ _ (1 + 0) (1 + 0) _ _ (front x D1) (front y D2) d wd (by omega) (by omega) (by omega) (bb_below BN.out hbd) (bb_below BNq.out hbd) (ok_below Rd.out hbd)).mono ?_
          rintro e we ⟨b', rfl, hf', hbe⟩
          have HF' : Hid (FoundB (1 + 0) (front x D1) (front y D2) d b') := hf'
          have hbw : Below wcq.heap.size wcq we := hbd.trans (hbe.mono hbd.size)
          have HB8 : Hid (Below w''.heap.size w'' we) := HB7.out.trans (hbw.mono HB7.out.size)
          have Sb : Hid (b.ok we ∧ b.zs.length ≤ 1048576) := found_ok HF.out (fun i hi => ⟨bb_oks (bb_below R2.out hbw) (show 0 ≤ k2.n by omega) i hi, HL2.out i (by omega)⟩)
          have Sd : Hid (d.ok we) := ok_below Rd.out hbw
          have Sx : Hid (x.ok we) := ok_below Rx.out hbw
          have Sy : Hid (y.ok we) := ok_below Ry.out hbw
          clear hf' hbd hbe hbw R1 R2 Rd Rx Ry BN BNq HB7
          have qn := q24
          go_wp2_with fail
          refine (eq_any x d we Sx.out Sd.out hxl).mono ?_
          rintro e wf ⟨rfl, m, rfl⟩
          cases hE : eqB x.zs d.zs with
          | true =>
            have hby : b' = y := found_hit HF'.out (by simpa [eqB] using hE)
            subst hby
            clear hE HF HF'
            go_wp2_with fail
            refine (eq_any b' b' _ (ok_drewN Sy.out m) (ok_drewN Sy.out m) hyl).mono ?_
            rintro e wg ⟨rfl, m', rfl⟩
            rw [eqB_self]
            go_wp2
            go_ret
            exact ⟨rfl, below_drewN HB8.out _⟩
          | false =>
            have hbb : b' = b := found_one (found_miss HF'.out (by simpa [eqB] using hE)) HF.out
            subst hbb
            clear hE HF HF'
            have hbl := Sb.out.2
            go_wp2_with fail
            refine (eq_any b' b' _ (ok_drewN Sb.out.1 m) (ok_drewN Sb.out.1 m) hbl).mono ?_
            rintro e wg ⟨rfl, m', rfl⟩
            rw [eqB_self]
            go_wp2
            go_ret
            exact ⟨rfl, below_drewN HB8.out _⟩
      | some x1 =>
        cases A2 with
        | none =>
          have hk2 : k2.n = 0 := (O2.out.1 rfl).1
          go_wp2_with (at_make; refine wpList_make_own _ rfl _ _ 29 rfl 0 24 i0 (.slice none 0 0) 1 Try.underlying29 hi hz0 hz1 .i64 .i64 _ (0 + 1) rfl rfl ?e0p2 ?e1p2 ?e2p2 ?e3p2 ?_)
          case e0p2 => first | rfl | omega
          case e1p2 => rw [hz2]; omega
          case e2p2 => unfold maxLen; omega
          case e3p2 => omega
          intro wap hownp hgrp
          have hbap : Below w5.heap.size w5 wap := (Below.refl _ _).grown hgrp (Nat.le_refl _) (fun k hk => by cases hk)
          have hszp : w5.heap.size < wap.heap.size := own_lt hownp
          clear hgrp
          go_wp2_with (at_builtin; refine wpList_append_fits _ rfl _ _ 29 rfl 0 24 i0 1 Try.underlying29 hi hz1 w5.heap.size 0 (0 + 1) [] rfl (hownp.alloc _) ⟨wap.heap.size, 0, none⟩ 1 1 [.slice x.a x.zs.length x.c] rfl rfl ?f1p2 ?f2p2 ?f3p2 ?_)
          case f1p2 => exact one_cell _ _
          case f2p2 => intro u hu; simp at hu; subst hu; rfl
          case f3p2 => omega
          intro wbp hownbp hgrbp
          have hbbp : Below w5.heap.size w5 wbp := (hbap.alloc hbap.size _).grown hgrbp (by simp; omega) (fun k hk => by cases hk; exact Nat.le_refl _)
          have HOp : Hid (wbp.ownsRow 0 24 1 (.slice (some ⟨w5.heap.size, 0, none⟩) (0 + 1) (0 + 1)) (0 + 1) ([] ++ [.slice x.a x.zs.length x.c])) := hownbp
          clear hbap hownp hownbp hgrbp hszp
          go_wp2_with (at_builtin; refine wpList_append_fits_any _ rfl _ _ 29 rfl 0 24 i0 1 Try.underlying29 hi hz1 w5.heap.size (0 + 1) (0 + 1) ([] ++ [.slice x.a x.zs.length x.c]) rfl HOp.out _ 0 _ (news D1 0) rfl (news_len D1 0) (fun h => by first | exact ⟨rfl, rfl⟩ | (cases h; done)) (by exact news_cells (bb_below O1.out hbbp) (by omega)) (news_one _ _) (by omega) ?_)
          intro wcp howncp hgrcp
          have hbcp : Below w5.heap.size w5 wcp := hbbp.grown hgrcp hbbp.size (fun k hk => by cases hk; exact Nat.le_refl _)
          have BNp : Hid (BB.ok wcp ⟨some ⟨w5.heap.size, 0, none⟩, 1 + 0, 0 + 1, front x D1⟩) := front_bb howncp (ok_below Ox.out hbcp) (bb_oks (bb_below O1.out hbcp) (by omega))
          clear howncp hgrcp hbbp HOp
          have HB6 : Hid (Below w''.heap.size w'' wcp) := HB5.out.trans (hbcp.mono HB5.out.size)
          have P1 : Hid (BB.ok wcp ⟨_, k1.n, k1.n, D1⟩) := bb_below O1.out hbcp
          have P2 : Hid (BB.ok wcp ⟨_, k2.n, k2.n, D2⟩) := bb_below O2.out hbcp
          have Pd : Hid (d.ok wcp) := ok_below Od.out hbcp
          have Px : Hid (x.ok wcp) := ok_below Ox.out hbcp
          have Py : Hid (y.ok wcp) := ok_below Oy.out hbcp
          clear O1 O2 Od Ox Oy HB5 hbcp
          go_wp2_with (at_make; refine wpList_make_own _ rfl _ _ 29 rfl 0 24 i0 (.slice none 0 0) 1 Try.underlying29 hi hz0 hz1 .i64 .i64 _ (0 + 1) rfl rfl ?e0q2 ?e1q2 ?e2q2 ?e3q2 ?_)
          case e0q2 => first | rfl | omega
          case e1q2 => rw [hz2]; omega
          case e2q2 => unfold maxLen; omega
          case e3q2 => omega
          intro waq hownq hgrq
          have hbaq : Below wcp.heap.size wcp waq := (Below.refl _ _).grown hgrq (Nat.le_refl _) (fun k hk => by cases hk)
          have hszq : wcp.heap.size < waq.heap.size := own_lt hownq
          clear hgrq
          go_wp2_with (at_builtin; refine wpList_append_fits _ rfl _ _ 29 rfl 0 24 i0 1 Try.underlying29 hi hz1 wcp.heap.size 0 (0 + 1) [] rfl (hownq.alloc _) ⟨waq.heap.size, 0, none⟩ 1 1 [.slice y.a y.zs.length y.c] rfl rfl ?f1q2 ?f2q2 ?f3q2 ?_)
          case f1q2 => exact one_cell _ _
          case f2q2 => intro u hu; simp at hu; subst hu; rfl
          case f3q2 => omega
          intro wbq hownbq hgrbq
          have hbbq : Below wcp.heap.size wcp wbq := (hbaq.alloc hbaq.size _).grown hgrbq (by simp; omega) (fun k hk => by cases hk; exact Nat.le_refl _)
          have HOq : Hid (wbq.ownsRow 0 24 1 (.slice (some ⟨wcp.heap.size, 0, none⟩) (0 + 1) (0 + 1)) (0 + 1) ([] ++ [.slice y.a y.zs.length y.c])) := hownbq
          clear hbaq hownq hownbq hgrbq hszq
          go_wp2_with (at_builtin; refine wpList_append_fits_any _ rfl _ _ 29 rfl 0 24 i0 1 Try.underlying29 hi hz1 wcp.heap.size (0 + 1) (0 + 1) ([] ++ [.slice y.a y.zs.length y.c]) rfl HOq.out _ 0 _ (news D2 0) rfl (news_len D2 0) (fun h => by first | exact ⟨rfl, rfl⟩ | (cases h; done)) (by exact news_cells (bb_below P2.out hbbq) (by omega)) (news_one _ _) (by omega) ?_)
          intro wcq howncq hgrcq
          have hbcq : Below wcp.heap.size wcp wcq := hbbq.grown hgrcq hbbq.size (fun k hk => by cases hk; exact Nat.le_refl _)
          have BNq : Hid (BB.ok wcq ⟨some ⟨wcp.heap.size, 0, none⟩, 1 + 0, 0 + 1, front y D2⟩) := front_bb howncq (ok_below Py.out hbcq) (bb_oks (bb_below P2.out hbcq) (by omega))
          clear howncq hgrcq hbbq HOq
          have HB7 : Hid (Below w''.heap.size w'' wcq) := HB6.out.trans (hbcq.mono HB6.out.size)
          have R1 : Hid (BB.ok wcq ⟨_, k1.n, k1.n, D1⟩) := bb_below P1.out hbcq
          have R2 : Hid (BB.ok wcq ⟨_, k2.n, k2.n, D2⟩) := bb_below P2.out hbcq
          have Rd : Hid (d.ok wcq) := ok_below Pd.out hbcq
          have Rx : Hid (x.ok wcq) := ok_below Px.out hbcq
          have Ry : Hid (y.ok wcq) := ok_below Py.out hbcq
          have BN : Hid (BB.ok wcq ⟨some ⟨w5.heap.size, 0, none⟩, 1 + 0, 0 + 1, front x D1⟩) := bb_below BNp.out hbcq
          clear P1 P2 Pd Px Py HB6 hbcq BNp
          go_wp2_with fail
          refine (zfind _ _ 0 _ _ k1.n k2.n _ _ D1 D2 d wcq (by omega) (by omega) (by omega) R1.out R2.out Rd.out).mono ?_
          rintro e wd ⟨b, rfl, hf, hbd⟩
          have HF : Hid (FoundB 0 D1 D2 d b) := hf
          clear hf
          go_wp2_with fail
          refine (zfind _ _ (1 + 0) _ _ (1 + 0) (1 + 0) _ _ (front x D1) (front y D2) d wd (by omega) (by omega) (by omega) (bb_below BN.out hbd) (bb_below BNq.out hbd) (ok_below Rd.out hbd)).mono ?_
          rintro e we ⟨b', rfl, hf', hbe⟩
          have HF' : Hid (FoundB (1 + 0) (front x D1) (front y D2) d b') := hf'
          have hbw : Below wcq.heap.size wcq we := hbd.trans (hbe.mono hbd.size)
          have HB8 : Hid (Below w''.heap.size w'' we) := HB7.out.trans (hbw.mono HB7.out.size)
          have Sb : Hid (b.ok we ∧ b.zs.length ≤ 1048576) := found_ok HF.out (fun i hi => ⟨bb_oks (bb_below R2.out hbw) (show 0 ≤ k2.n by omega) i hi, HL2.out i (by omega)⟩)
          have Sd : Hid (d.ok we) := ok_below Rd.out hbw
          have Sx : Hid (x.ok we) := ok_below Rx.out hbw
          have Sy : Hid (y.ok we) := ok_below Ry.out hbw
          clear hf' hbd hbe hbw R1 R2 Rd Rx Ry BN BNq HB7
          have qn := q24
          go_wp2_with fail
          refine (eq_any x d we Sx.out Sd.out hxl).mono ?_
          rintro e wf ⟨rfl, m, rfl⟩
          cases hE : eqB x.zs d.zs with
          | true =>
            have hby : b' = y := found_hit HF'.out (by simpa [eqB] using hE)
            subst hby
            clear hE HF HF'
            go_wp2_with fail
            refine (eq_any b' b' _ (ok_drewN Sy.out m) (ok_drewN Sy.out m) hyl).mono ?_
            rintro e wg ⟨rfl, m', rfl⟩
            rw [eqB_self]
            go_wp2
            go_ret
            exact ⟨rfl, below_drewN HB8.out _⟩
          | false =>
            have hbb : b' = b := found_one (found_miss HF'.out (by simpa [eqB] using hE)) HF.out
            subst hbb
            clear hE HF HF'
            have hbl := Sb.out.2
            go_wp2_with fail
            refine (eq_any b' b' _ (ok_drewN Sb.out.1 m) (ok_drewN Sb.out.1 m) hbl).mono ?_
            rintro e wg ⟨rfl, m', rfl⟩
            rw [eqB_self]
            go_wp2
            go_ret
            exact ⟨rfl, below_drewN HB8.out _⟩
        | some x2 =>
          go_wp2_with (at_make; refine wpList_make_own _ rfl _ _ 29 rfl 0 24 i0 (.slice none 0 0) 1 Try.underlying29 hi hz0 hz1 .i64 .i64 _ (0 + 1) rfl rfl ?e0p3 ?e1p3 ?e2p3 ?e3p3 ?_)
          case e0p3 => first | rfl | omega
          case e1p3 => rw [hz2]; omega
          case e2p3 => unfold maxLen; omega
          case e3p3 => omega
          intro wap hownp hgrp
          have hbap : Below w5.heap.size w5 wap := (Below.refl _ _).grown hgrp (Nat.le_refl _) (fun k hk => by cases hk)
          have hszp : w5.heap.size < wap.heap.size := own_lt hownp
          clear hgrp
          go_wp2_with (at_builtin; refine wpList_append_fits _ rfl _ _ 29 rfl 0 24 i0 1 Try.underlying29 hi hz1 w5.heap.size 0 (0 + 1) [] rfl (hownp.alloc _) ⟨wap.heap.size, 0, none⟩ 1 1 [.slice x.a x.zs.length x.c] rfl rfl ?f1p3 ?f2p3 ?f3p3 ?_)
          case f1p3 => exact one_cell _ _
          case f2p3 => intro u hu; simp at hu; subst hu; rfl
          case f3p3 => omega
          intro wbp hownbp hgrbp
          have hbbp : Below w5.heap.size w5 wbp := (hbap.alloc hbap.size _).grown hgrbp (by simp; omega) (fun k hk => by cases hk; exact Nat.le_refl _)
          have HOp : Hid (wbp.ownsRow 0 24 1 (.slice (some ⟨w5.heap.size, 0, none⟩) (0 + 1) (0 + 1)) (0 + 1) ([] ++ [.slice x.a x.zs.length x.c])) := hownbp
          clear hbap hownp hownbp hgrbp hszp
          go_wp2_with (at_builtin; refine wpList_append_fits_any _ rfl _ _ 29 rfl 0 24 i0 1 Try.underlying29 hi hz1 w5.heap.size (0 + 1) (0 + 1) ([] ++ [.slice x.a x.zs.length x.c]) rfl HOp.out _ 0 _ (news D1 0) rfl (news_len D1 0) (fun h => by first | exact ⟨rfl, rfl⟩ | (cases h; done)) (by exact news_cells (bb_below O1.out hbbp) (by omega)) (news_one _ _) (by omega) ?_)
          intro wcp howncp hgrcp
          have hbcp : Below w5.heap.size w5 wcp := hbbp.grown hgrcp hbbp.size (fun k hk => by cases hk; exact Nat.le_refl _)
          have BNp : Hid (BB.ok wcp ⟨some ⟨w5.heap.size, 0, none⟩, 1 + 0, 0 + 1, front x D1⟩) := front_bb howncp (ok_below Ox.out hbcp) (bb_oks (bb_below O1.out hbcp) (by omega))
          clear howncp hgrcp hbbp HOp
          have HB6 : Hid (Below w''.heap.size w'' wcp) := HB5.out.trans (hbcp.mono HB5.out.size)
          have P1 : Hid (BB.ok wcp ⟨_, k1.n, k1.n, D1⟩) := bb_below O1.out hbcp
          have P2 : Hid (BB.ok wcp ⟨_, k2.n, k2.n, D2⟩) := bb_below O2.out hbcp
          have Pd : Hid (d.ok wcp) := ok_below Od.out hbcp
          have Px : Hid (x.ok wcp) := ok_below Ox.out hbcp
          have Py : Hid (y.ok wcp) := ok_below Oy.out hbcp
          clear O1 O2 Od Ox Oy HB5 hbcp
          go_wp2_with (at_make; refine wpList_make_own _ rfl _ _ 29 rfl 0 24 i0 (.slice none 0 0) 1 Try.underlying29 hi hz0 hz1 .i64 .i64 _ (0 + 1) rfl rfl ?e0q3 ?e1q3 ?e2q3 ?e3q3 ?_)
          case e0q3 => first | rfl | omega
          case e1q3 => rw [hz2]; omega
          case e2q3 => unfold maxLen; omega
          case e3q3 => omega
          intro waq hownq hgrq
          have hbaq : Below wcp.heap.size wcp waq := (Below.refl _ _).grown hgrq (Nat.le_refl _) (fun k hk => by cases hk)
          have hszq : wcp.heap.size < waq.heap.size := own_lt hownq
          clear hgrq
          go_wp2_with (at_builtin; refine wpList_append_fits _ rfl _ _ 29 rfl 0 24 i0 1 Try.underlying29 hi hz1 wcp.heap.size 0 (0 + 1) [] rfl (hownq.alloc _) ⟨waq.heap.size, 0, none⟩ 1 1 [.slice y.a y.zs.length y.c] rfl rfl ?f1q3 ?f2q3 ?f3q3 ?_)
          case f1q3 => exact one_cell _ _
          case f2q3 => intro u hu; simp at hu; subst hu; rfl
          case f3q3 => omega
          intro wbq hownbq hgrbq
          have hbbq : Below wcp.heap.size wcp wbq := (hbaq.alloc hbaq.size _).grown hgrbq (by simp; omega) (fun k hk => by cases hk; exact Nat.le_refl _)
          have HOq : Hid (wbq.ownsRow 0 24 1 (.slice (some ⟨wcp.heap.size, 0, none⟩) (0 + 1) (0 + 1)) (0 + 1) ([] ++ [.slice y.a y.zs.length y.c])) := hownbq
          clear hbaq hownq hownbq hgrbq hszq
          go_wp2_with (at_builtin; refine wpList_append_fits_any _ rfl _ _ 29 rfl 0 24 i0 1 Try.underlying29 hi hz1 wcp.heap.size (0 + 1) (0 + 1) ([] ++ [.slice y.a y.zs.length y.c]) rfl HOq.out _ 0 _ (news D2 0) rfl (news_len D2 0) (fun h => by first | exact ⟨rfl, rfl⟩ | (cases h; done)) (by exact news_cells (bb_below P2.out hbbq) (by omega)) (news_one _ _) (by omega) ?_)
          intro wcq howncq hgrcq
          have hbcq : Below wcp.heap.size wcp wcq := hbbq.grown hgrcq hbbq.size (fun k hk => by cases hk; exact Nat.le_refl _)
          have BNq : Hid (BB.ok wcq ⟨some ⟨wcp.heap.size, 0, none⟩, 1 + 0, 0 + 1, front y D2⟩) := front_bb howncq (ok_below Py.out hbcq) (bb_oks (bb_below P2.out hbcq) (by omega))
          clear howncq hgrcq hbbq HOq
          have HB7 : Hid (Below w''.heap.size w'' wcq) := HB6.out.trans (hbcq.mono HB6.out.size)
          have R1 : Hid (BB.ok wcq ⟨_, k1.n, k1.n, D1⟩) := bb_below P1.out hbcq
          have R2 : Hid (BB.ok wcq ⟨_, k2.n, k2.n, D2⟩) := bb_below P2.out hbcq
          have Rd : Hid (d.ok wcq) := ok_below Pd.out hbcq
          have Rx : Hid (x.ok wcq) := ok_below Px.out hbcq
          have Ry : Hid (y.ok wcq) := ok_below Py.out hbcq
          have BN : Hid (BB.ok wcq ⟨some ⟨w5.heap.size, 0, none⟩, 1 + 0, 0 + 1, front x D1⟩) := bb_below BNp.out hbcq
          clear P1 P2 Pd Px Py HB6 hbcq BNp
          go_wp2_with fail
          refine (zfind _ _ 0 _ _ k1.n k2.n _ _ D1 D2 d wcq (by omega) (by omega) (by omega) R1.out R2.out Rd.out).mono ?_
          rintro e wd ⟨b, rfl, hf, hbd⟩
          have HF : Hid (FoundB 0 D1 D2 d b) := hf
          clear hf
          go_wp2_with fail
          refine (zfind _ _ (1 + 0) _ _ (1 + 0) (1 + 0) _ _ (front x D1) (front y D2) d wd (by omega) (by omega) (by omega) (bb_below BN.out hbd) (bb_below BNq.out hbd) (ok_below Rd.out hbd)).mono ?_
          rintro e we ⟨b', rfl, hf', hbe⟩
          have HF' : Hid (FoundB (1 + 0) (front x D1) (front y D2) d b') := hf'
          have hbw : Below wcq.heap.size wcq we := hbd.trans (hbe.mono hbd.size)
          have HB8 : Hid (Below w''.heap.size w'' we) := HB7.out.trans (hbw.mono HB7.out.size)
          have Sb : Hid (b.ok we ∧ b.zs.length ≤ 1048576) := found_ok HF.out (fun i hi => ⟨bb_oks (bb_below R2.out hbw) (show 0 ≤ k2.n by omega) i hi, HL2.out i (by omega)⟩)
          have Sd : Hid (d.ok we) := ok_below Rd.out hbw
          have Sx : Hid (x.ok we) := ok_below Rx.out hbw
          have Sy : Hid (y.ok we) := ok_below Ry.out hbw
          clear hf' hbd hbe hbw R1 R2 Rd Rx Ry BN BNq HB7
          have qn := q24
          go_wp2_with fail
          refine (eq_any x d we Sx.out Sd.out hxl).mono ?_
          rintro e wf ⟨rfl, m, rfl⟩
          cases hE : eqB x.zs d.zs with
          | true =>
            have hby : b' = y := found_hit HF'.out (by simpa [eqB] using hE)
            subst hby
            clear hE HF HF'
            go_wp2_with fail
            refine (eq_any b' b' _ (ok_drewN Sy.out m) (ok_drewN Sy.out m) hyl).mono ?_
            rintro e wg ⟨rfl, m', rfl⟩
            rw [eqB_self]
            go_wp2
            go_ret
            exact ⟨rfl, below_drewN HB8.out _⟩
          | false =>
            have hbb : b' = b := found_one (found_miss HF'.out (by simpa [eqB] using hE)) HF.out
            subst hbb
            clear hE HF HF'
            have hbl := Sb.out.2
            go_wp2_with fail
            refine (eq_any b' b' _ (ok_drewN Sb.out.1 m) (ok_drewN Sb.out.1 m) hbl).mono ?_
            rintro e wg ⟨rfl, m', rfl⟩
            rw [eqB_self]
            go_wp2
            go_ret
            exact ⟨rfl, below_drewN HB8.out _⟩
    · have hk2 : k2.n = 0 := by omega
      clear hz
      cases A1 with
      | none =>
        have e0 : k1.n = 0 := (O1.out.1 rfl).1
        exact absurd e0 hk1
      | some x1 =>
        cases A2 with
        | none =>
          go_wp2_with (at_make; refine wpList_make_own _ rfl _ _ 29 rfl 0 24 i0 (.slice none 0 0) 1 Try.underlying29 hi hz0 hz1 .i64 .i64 _ (0 + 1) rfl rfl ?e0p4 ?e1p4 ?e2p4 ?e3p4 ?_)
          case e0p4 => first | rfl | omega
          case e1p4 => rw [hz2]; omega
          case e2p4 => unfold maxLen; omega
          case e3p4 => omega
          intro wap hownp hgrp
          have hbap : Below w5.heap.size w5 wap := (Below.refl _ _).grown hgrp (Nat.le_refl _) (fun k hk => by cases hk)
          have hszp : w5.heap.size < wap.heap.size := own_lt hownp
          clear hgrp
          go_wp2_with (at_builtin; refine wpList_append_fits _ rfl _ _ 29 rfl 0 24 i0 1 Try.underlying29 hi hz1 w5.heap.size 0 (0 + 1) [] rfl (hownp.alloc _) ⟨wap.heap.size, 0, none⟩ 1 1 [.slice x.a x.zs.length x.c] rfl rfl ?f1p4 ?f2p4 ?f3p4 ?_)
          case f1p4 => exact one_cell _ _
          case f2p4 => intro u hu; simp at hu; subst hu; rfl
          case f3p4 => omega
          intro wbp hownbp hgrbp
          have hbbp : Below w5.heap.size w5 wbp := (hbap.alloc hbap.size _).grown hgrbp (by simp; omega) (fun k hk => by cases hk; exact Nat.le_refl _)
          have HOp : Hid (wbp.ownsRow 0 24 1 (.slice (some ⟨w5.heap.size, 0, none⟩) (0 + 1) (0 + 1)) (0 + 1) ([] ++ [.slice x.a x.zs.length x.c])) := hownbp
          clear hbap hownp hownbp hgrbp hszp
          go_wp2_with (at_builtin; refine wpList_append_fits_any _ rfl _ _ 29 rfl 0 24 i0 1 Try.underlying29 hi hz1 w5.heap.size (0 + 1) (0 + 1) ([] ++ [.slice x.a x.zs.length x.c]) rfl HOp.out _ 0 _ (news D1 0) rfl (news_len D1 0) (fun h => by first | exact ⟨rfl, rfl⟩ | (cases h; done)) (by exact news_cells (bb_below O1.out hbbp) (by omega)) (news_one _ _) (by omega) ?_)
          intro wcp howncp hgrcp
          have hbcp : Below w5.heap.size w5 wcp := hbbp.grown hgrcp hbbp.size (fun k hk => by cases hk; exact Nat.le_refl _)
          have BNp : Hid (BB.ok wcp ⟨some ⟨w5.heap.size, 0, none⟩, 1 + 0, 0 + 1, front x D1⟩) := front_bb howncp (ok_below Ox.out hbcp) (bb_oks (bb_below O1.out hbcp) (by omega))
          clear howncp hgrcp hbbp HOp
          have HB6 : Hid (Below w''.heap.size w'' wcp) := HB5.out.trans (hbcp.mono HB5.out.size)
          have P1 : Hid (BB.ok wcp ⟨_, k1.n, k1.n, D1⟩) := bb_below O1.out hbcp
          have P2 : Hid (BB.ok wcp ⟨_, k2.n, k2.n, D2⟩) := bb_below O2.out hbcp
          have Pd : Hid (d.ok wcp) := ok_below Od.out hbcp
          have Px : Hid (x.ok wcp) := ok_below Ox.out hbcp
          have Py : Hid (y.ok wcp) := ok_below Oy.out hbcp
          clear O1 O2 Od Ox Oy HB5 hbcp
          go_wp2_with (at_make; refine wpList_make_own _ rfl _ _ 29 rfl 0 24 i0 (.slice none 0 0) 1 Try.underlying29 hi hz0 hz1 .i64 .i64 _ (0 + 1) rfl rfl ?e0q4 ?e1q4 ?e2q4 ?e3q4 ?_)
          case e0q4 => first | rfl | omega
          case e1q4 => rw [hz2]; omega
          case e2q4 => unfold maxLen; omega
          case e3q4 => omega
          intro waq hownq hgrq
          have hbaq : Below wcp.heap.size wcp waq := (Below.refl _ _).grown hgrq (Nat.le_refl _) (fun k hk => by cases hk)
          have hszq : wcp.heap.size < waq.heap.size := own_lt hownq
          clear hgrq
          go_wp2_with (at_builtin; refine wpList_append_fits _ rfl _ _ 29 rfl 0 24 i0 1 Try.underlying29 hi hz1 wcp.heap.size 0 (0 + 1) [] rfl (hownq.alloc _) ⟨waq.heap.size, 0, none⟩ 1 1 [.slice y.a y.zs.length y.c] rfl rfl ?f1q4 ?f2q4 ?f3q4 ?_)
          case f1q4 => exact one_cell _ _
          case f2q4 => intro u hu; simp at hu; subst hu; rfl
          case f3q4 => omega
          intro wbq hownbq hgrbq
          have hbbq : Below wcp.heap.size wcp wbq := (hbaq.alloc hbaq.size _).grown hgrbq (by simp; omega) (fun k hk => by cases hk; exact Nat.le_refl _)
          have HOq : Hid (wbq.ownsRow 0 24 1 (.slice (some ⟨wcp.heap.size, 0, none⟩) (0 + 1) (0 + 1)) (0 + 1) ([] ++ [.slice y.a y.zs.length y.c])) := hownbq
          clear hbaq hownq hownbq hgrbq hszq
          go_wp2_with (at_builtin; refine wpList_append_fits_any _ rfl _ _ 29 rfl 0 24 i0 1 Try.underlying29 hi hz1 wcp.heap.size (0 + 1) (0 + 1) ([] ++ [.slice y.a y.zs.length y.c]) rfl HOq.out _ 0 _ (news D2 0) rfl (news_len D2 0) (fun h => by first | exact ⟨rfl, rfl⟩ | (cases h; done)) (by exact news_cells (bb_below P2.out hbbq) (by omega)) (news_one _ _) (by omega) ?_)
          intro wcq howncq hgrcq
          have hbcq : Below wcp.heap.size wcp wcq := hbbq.grown hgrcq hbbq.size (fun k hk => by cases hk; exact Nat.le_refl _)
          have BNq : Hid (BB.ok wcq ⟨some ⟨wcp.heap.size, 0, none⟩, 1 + 0, 0 + 1, front y D2⟩) := front_bb howncq (ok_below Py.out hbcq) (bb_oks (bb_below P2.out hbcq) (by omega))
          clear howncq hgrcq hbbq HOq
          have HB7 : Hid (Below w''.heap.size w'' wcq) := HB6.out.trans (hbcq.mono HB6.out.size)
          have R1 : Hid (BB.ok wcq ⟨_, k1.n, k1.n, D1⟩) := bb_below P1.out hbcq
          have R2 : Hid (BB.ok wcq ⟨_, k2.n, k2.n, D2⟩) := bb_below P2.out hbcq
          have Rd : Hid (d.ok wcq) := ok_below Pd.out hbcq
          have Rx : Hid (x.ok wcq) := ok_below Px.out hbcq
          have Ry : Hid (y.ok wcq) := ok_below Py.out hbcq
          have BN : Hid (BB.ok wcq ⟨some ⟨w5.heap.size, 0, none⟩, 1 + 0, 0 + 1, front x D1⟩) := bb_below BNp.out hbcq
          clear P1 P2 Pd Px Py HB6 hbcq BNp
          go_wp2_with fail
          refine (zfind _ _ 0 _ _ k1.n k2.n _ _ D1 D2 d wcq (by omega) (by omega) (by omega) R1.out R2.out Rd.out).mono ?_
          rintro e wd ⟨b, rfl, hf, hbd⟩
          have HF : Hid (FoundB 0 D1 D2 d b) := hf
          clear hf
          go_wp2_with fail
          refine (zfind _ _ (1 + 0) _ _ (1 + 0) (1 + 0) _ _ (front x D1) (front y D2) d wd (by omega) (by omega) (by omega) (bb_below BN.out hbd) (bb_below BNq.out hbd) (ok_below Rd.out hbd)).mono ?_
          rintro e we ⟨b', rfl, hf', hbe⟩
          have HF' : Hid (FoundB (1 + 0) (front x D1) (front y D2) d b') := hf'
          have hbw : Below wcq.heap.size wcq we := hbd.trans (hbe.mono hbd.size)
          have HB8 : Hid (Below w''.heap.size w'' we) := HB7.out.trans (hbw.mono HB7.out.size)
          have Sb : Hid (b.ok we ∧ b.zs.length ≤ 1048576) := found_ok HF.out (fun i hi => ⟨bb_oks (bb_below R2.out hbw) (show 0 ≤ k2.n by omega) i hi, HL2.out i (by omega)⟩)
          have Sd : Hid (d.ok we) := ok_below Rd.out hbw
          have Sx : Hid (x.ok we) := ok_below Rx.out hbw
          have Sy : Hid (y.ok we) := ok_below Ry.out hbw
          clear hf' hbd hbe hbw R1 R2 Rd Rx Ry BN BNq HB7
          have qn := q24
          go_wp2_with fail
          refine (eq_any x d we Sx.out Sd.out hxl).mono ?_
          rintro e wf ⟨rfl, m, rfl⟩
          cases hE : eqB x.zs d.zs with
          | true =>
            have hby : b' = y := found_hit HF'.out (by simpa [eqB] using hE)
            subst hby
            clear hE HF HF'
            go_wp2_with fail
            refine (eq_any b' b' _ (ok_drewN Sy.out m) (ok_drewN Sy.out m) hyl).mono ?_
            rintro e wg ⟨rfl, m', rfl⟩
            rw [eqB_self]
            go_wp2
            go_ret
            exact ⟨rfl, below_drewN HB8.out _⟩
          | false =>
            have hbb : b' = b := found_one (found_miss HF'.out (by simpa [eqB] using hE)) HF.out
            subst hbb
            clear hE HF HF'
            have hbl := Sb.out.2
            go_wp2_with fail
            refine (eq_any b' b' _ (ok_drewN Sb.out.1 m) (ok_drewN Sb.out.1 m) hbl).mono ?_
            rintro e wg ⟨rfl, m', rfl⟩
            rw [eqB_self]
            go_wp2
            go_ret
            exact ⟨rfl, below_drewN HB8.out _⟩
        | some x2 =>
          go_wp2_with (at_make; refine wpList_make_own _ rfl _ _ 29 rfl 0 24 i0 (.slice none 0 0) 1 Try.underlying29 hi hz0 hz1 .i64 .i64 _ (0 + 1) rfl rfl ?e0p5 ?e1p5 ?e2p5 ?e3p5 ?_)
          case e0p5 => first | rfl | omega
          case e1p5 => rw [hz2]; omega
          case e2p5 => unfold maxLen; omega
          case e3p5 => omega
          intro wap hownp hgrp
          have hbap : Below w5.heap.size w5 wap := (Below.refl _ _).grown hgrp (Nat.le_refl _) (fun k hk => by cases hk)
          have hszp : w5.heap.size < wap.heap.size := own_lt hownp
          clear hgrp
          go_wp2_with (at_builtin; refine wpList_append_fits _ rfl _ _ 29 rfl 0 24 i0 1 Try.underlying29 hi hz1 w5.heap.size 0 (0 + 1) [] rfl (hownp.alloc _) ⟨wap.heap.size, 0, none⟩ 1 1 [.slice x.a x.zs.length x.c] rfl rfl ?f1p5 ?f2p5 ?f3p5 ?_)
          case f1p5 => exact one_cell _ _
          case f2p5 => intro u hu; simp at hu; subst hu; rfl
          case f3p5 => omega
          intro wbp hownbp hgrbp
          have hbbp : Below w5.heap.size w5 wbp := (hbap.alloc hbap.size _).grown hgrbp (by simp; omega) (fun k hk => by cases hk; exact Nat.le_refl _)
          have HOp : Hid (wbp.ownsRow 0 24 1 (.slice (some ⟨w5.heap.size, 0, none⟩) (0 + 1) (0 + 1)) (0 + 1) ([] ++ [.slice x.a x.zs.length x.c])) := hownbp
          clear hbap hownp hownbp hgrbp hszp
          go_wp2_with (at_builtin; refine wpList_append_fits_any _ rfl _ _ 29 rfl 0 24 i0 1 Try.underlying29 hi hz1 w5.heap.size (0 + 1) (0 + 1) ([] ++ [.slice x.a x.zs.length x.c]) rfl HOp.out _ 0 _ (news D1 0) rfl (news_len D1 0) (fun h => by first | exact ⟨rfl, rfl⟩ | (cases h; done)) (by exact news_cells (bb_below O1.out hbbp) (by omega)) (news_one _ _) (by omega) ?_)
          intro wcp howncp hgrcp
          have hbcp : Below w5.heap.size w5 wcp := hbbp.grown hgrcp hbbp.size (fun k hk => by cases hk; exact Nat.le_refl _)
          have BNp : Hid (BB.ok wcp ⟨some ⟨w5.heap.size, 0, none⟩, 1 + 0, 0 + 1, front x D1⟩) := front_bb howncp (ok_below Ox.out hbcp) (bb_oks (bb_below O1.out hbcp) (by omega))
          clear howncp hgrcp hbbp HOp
          have HB6 : Hid (Below w''.heap.size w'' wcp) := HB5.out.trans (hbcp.mono HB5.out.size)
          have P1 : Hid (BB.ok wcp ⟨_, k1.n, k1.n, D1⟩) := bb_below O1.out hbcp
          have P2 : Hid (BB.ok wcp ⟨_, k2.n, k2.n, D2⟩) := bb_below O2.out hbcp
          have Pd : Hid (d.ok wcp) := ok_below Od.out hbcp
          have Px : Hid (x.ok wcp) := ok_below Ox.out hbcp
          have Py : Hid (y.ok wcp) := ok_below Oy.out hbcp
          clear O1 O2 Od Ox Oy HB5 hbcp
          go_wp2_with (at_make; refine wpList_make_own _ rfl _ _ 29 rfl 0 24 i0 (.slice none 0 0) 1 Try.underlying29 hi hz0 hz1 .i64 .i64 _ (0 + 1) rfl rfl ?e0q5 ?e1q5 ?e2q5 ?e3q5 ?_)
          case e0q5 => first | rfl | omega
          case e1q5 => rw [hz2]; omega
          case e2q5 => unfold maxLen; omega
          case e3q5 => omega
          intro waq hownq hgrq
          have hbaq : Below wcp.heap.size wcp waq := (Below.refl _ _).grown hgrq (Nat.le_refl _) (fun k hk => by cases hk)
          have hszq : wcp.heap.size < waq.heap.size := own_lt hownq
          clear hgrq
          go_wp2_with (at_builtin; refine wpList_append_fits _ rfl _ _ 29 rfl 0 24 i0 1 Try.underlying29 hi hz1 wcp.heap.size 0 (0 + 1) [] rfl (hownq.alloc _) ⟨waq.heap.size, 0, none⟩ 1 1 [.slice y.a y.zs.length y.c] rfl rfl ?f1q5 ?f2q5 ?f3q5 ?_)
          case f1q5 => exact one_cell _ _
          case f2q5 => intro u hu; simp at hu; subst hu; rfl
          case f3q5 => omega
          intro wbq hownbq hgrbq
          have hbbq : Below wcp.heap.size wcp wbq := (hbaq.alloc hbaq.size _).grown hgrbq (by simp; omega) (fun k hk => by cases hk; exact Nat.le_refl _)
          have HOq : Hid (wbq.ownsRow 0 24 1 (.slice (some ⟨wcp.heap.size, 0, none⟩) (0 + 1) (0 + 1)) (0 + 1) ([] ++ [.slice y.a y.zs.length y.c])) := hownbq
          clear hbaq hownq hownbq hgrbq hszq
          go_wp2_with (at_builtin; refine wpList_append_fits_any _ rfl _ _ 29 rfl 0 24 i0 1 Try.underlying29 hi hz1 wcp.heap.size (0 + 1) (0 + 1) ([] ++ [.slice y.a y.zs.length y.c]) rfl HOq.out _ 0 _ (news D2 0) rfl (news_len D2 0) (fun h => by first | exact ⟨rfl, rfl⟩ | (cases h; done)) (by exact news_cells (bb_below P2.out hbbq) (by omega)) (news_one _ _) (by omega) ?_)
          intro wcq howncq hgrcq
          have hbcq : Below wcp.heap.size wcp wcq := hbbq.grown hgrcq hbbq.size (fun k hk => by cases hk; exact Nat.le_refl _)
          have BNq : Hid (BB.ok wcq ⟨some ⟨wcp.heap.size, 0, none⟩, 1 + 0, 0 + 1, front y D2⟩) := front_bb howncq (ok_below Py.out hbcq) (bb_oks (bb_below P2.out hbcq) (by omega))
          clear howncq hgrcq hbbq HOq
          have HB7 : Hid (Below w''.heap.size w'' wcq) := HB6.out.trans (hbcq.mono HB6.out.size)
          have R1 : Hid (BB.ok wcq ⟨_, k1.n, k1.n, D1⟩) := bb_below P1.out hbcq
          have R2 : Hid (BB.ok wcq ⟨_, k2.n, k2.n, D2⟩) := bb_below P2.out hbcq
          have Rd : Hid (d.ok wcq) := ok_below Pd.out hbcq
          have Rx : Hid (x.ok wcq) := ok_below Px.out hbcq
          have Ry : Hid (y.ok wcq) := ok_below Py.out hbcq
          have BN : Hid (BB.ok wcq ⟨some ⟨w5.heap.size, 0, none⟩, 1 + 0, 0 + 1, front x D1⟩) := bb_below BNp.out hbcq
          clear P1 P2 Pd Px Py HB6 hbcq BNp
          go_wp2_with fail
          refine (zfind _ _ 0 _ _ k1.n k2.n _ _ D1 D2 d wcq (by omega) (by omega) (by omega) R1.out R2.out Rd.out).mono ?_
          rintro e wd ⟨b, rfl, hf, hbd⟩
          have HF : Hid (FoundB 0 D1 D2 d b) := hf
          clear hf
          go_wp2_with fail
          refine (zfind _ _ (1 + 0) _ _ (1 + 0) (1 + 0) _ _ (front x D1) (front y D2) d wd (by omega) (by omega) (by omega) (bb_below BN.out hbd) (bb_below BNq.out hbd) (ok_below Rd.out hbd)).mono ?_
          rintro e we ⟨b', rfl, hf', hbe⟩
          have HF' : Hid (FoundB (1 + 0) (front x D1) (front y D2) d b') := hf'
          have hbw : Below wcq.heap.size wcq we := hbd.trans (hbe.mono hbd.size)
          have HB8 : Hid (Below w''.heap.size w'' we) := HB7.out.trans (hbw.mono HB7.out.size)
          have Sb : Hid (b.ok we ∧ b.zs.length ≤ 1048576) := found_ok HF.out (fun i hi => ⟨bb_oks (bb_below R2.out hbw) (show 0 ≤ k2.n by omega) i hi, HL2.out i (by omega)⟩)
          have Sd : Hid (d.ok we) := ok_below Rd.out hbw
          have Sx : Hid (x.ok we) := ok_below Rx.out hbw
          have Sy : Hid (y.ok we) := ok_below Ry.out hbw
          clear hf' hbd hbe hbw R1 R2 Rd Rx Ry BN BNq HB7
          have qn := q24
          go_wp2_with fail
          refine (eq_any x d we Sx.out Sd.out hxl).mono ?_
          rintro e wf ⟨rfl, m, rfl⟩
          cases hE : eqB x.zs d.zs with
          | true =>
            have hby : b' = y := found_hit HF'.out (by simpa [eqB] using hE)
            subst hby
            clear hE HF HF'
            go_wp2_with fail
            refine (eq_any b' b' _ (ok_drewN Sy.out m) (ok_drewN Sy.out m) hyl).mono ?_
            rintro e wg ⟨rfl, m', rfl⟩
            rw [eqB_self]
            go_wp2
            go_ret
            exact ⟨rfl, below_drewN HB8.out _⟩
          | false =>
            have hbb : b' = b := found_one (found_miss HF'.out (by simpa [eqB] using hE)) HF.out
            subst hbb
            clear hE HF HF'
            have hbl := Sb.out.2
            go_wp2_with fail
            refine (eq_any b' b' _ (ok_drewN Sb.out.1 m) (ok_drewN Sb.out.1 m) hbl).mono ?_
            rintro e wg ⟨rfl, m', rfl⟩
            rw [eqB_self]
            go_wp2
            go_ret
            exact ⟨rfl, below_drewN HB8.out _⟩
  cases A1 with
  | none =>
    have : k1.n = 0 := (O1.out.1 rfl).1
    omega
  | some x1 =>
  cases A2 with
  | none =>
    have : k2.n = 0 := (O2.out.1 rfl).1
    omega
  | some x2 =>
  by_cases hlt : (k2.n : Int) < (k1.n : Int)
  · go_wp2_with (at_make; refine wpList_make_own _ rfl _ _ 29 rfl 0 24 i0 (.slice none 0 0) 1 Try.underlying29 hi hz0 hz1 .i64 .i64 _ (k2.n + 1) rfl rfl ?e0p ?e1p ?e2p ?e3p ?_)
    case e0p => first | rfl | omega
    case e1p => rw [hz2]; omega
    case e2p => unfold maxLen; omega
    case e3p => omega
    intro wap hownp hgrp
    have hbap : Below w5.heap.size w5 wap := (Below.refl _ _).grown hgrp (Nat.le_refl _) (fun k hk => by cases hk)
    have hszp : w5.heap.size < wap.heap.size := own_lt hownp
    clear hgrp
    go_wp2_with (at_builtin; refine wpList_append_fits _ rfl _ _ 29 rfl 0 24 i0 1 Try.underlying29 hi hz1 w5.heap.size 0 (k2.n + 1) [] rfl (hownp.alloc _) ⟨wap.heap.size, 0, none⟩ 1 1 [.slice x.a x.zs.length x.c] rfl rfl ?f1p ?f2p ?f3p ?_)
    case f1p => exact one_cell _ _
    case f2p => intro u hu; simp at hu; subst hu; rfl
    case f3p => omega
    intro wbp hownbp hgrbp
    have hbbp : Below w5.heap.size w5 wbp := (hbap.alloc hbap.size _).grown hgrbp (by simp; omega) (fun k hk => by cases hk; exact Nat.le_refl _)
    have HOp : Hid (wbp.ownsRow 0 24 1 (.slice (some ⟨w5.heap.size, 0, none⟩) (0 + 1) (k2.n + 1)) (0 + 1) ([] ++ [.slice x.a x.zs.length x.c])) := hownbp
    clear hbap hownp hownbp hgrbp hszp
    go_wp2_with (at_builtin; refine wpList_append_fits_any _ rfl _ _ 29 rfl 0 24 i0 1 Try.underlying29 hi hz1 w5.heap.size (0 + 1) (k2.n + 1) ([] ++ [.slice x.a x.zs.length x.c]) rfl HOp.out _ k2.n _ (news D1 k2.n) rfl (news_len D1 k2.n) (fun h => by first | exact ⟨rfl, rfl⟩ | (cases h; done)) (by exact news_cells (bb_below O1.out hbbp) (by omega)) (news_one _ _) (by omega) ?_)
    intro wcp howncp hgrcp
    have hbcp : Below w5.heap.size w5 wcp := hbbp.grown hgrcp hbbp.size (fun k hk => by cases hk; exact Nat.le_refl _)
    have BNp : Hid (BB.ok wcp ⟨some ⟨w5.heap.size, 0, none⟩, 1 + k2.n, k2.n + 1, front x D1⟩) := front_bb howncp (ok_below Ox.out hbcp) (bb_oks (bb_below O1.out hbcp) (by omega))
    clear howncp hgrcp hbbp HOp
    have HB6 : Hid (Below w''.heap.size w'' wcp) := HB5.out.trans (hbcp.mono HB5.out.size)
    have P1 : Hid (BB.ok wcp ⟨_, k1.n, k1.n, D1⟩) := bb_below O1.out hbcp
    have P2 : Hid (BB.ok wcp ⟨_, k2.n, k2.n, D2⟩) := bb_below O2.out hbcp
    have Pd : Hid (d.ok wcp) := ok_below Od.out hbcp
    have Px : Hid (x.ok wcp) := ok_below Ox.out hbcp
    have Py : Hid (y.ok wcp) := ok_below Oy.out hbcp
    clear O1 O2 Od Ox Oy HB5 hbcp
    go_wp2_with (at_make; refine wpList_make_own _ rfl _ _ 29 rfl 0 24 i0 (.slice none 0 0) 1 Try.underlying29 hi hz0 hz1 .i64 .i64 _ (k2.n + 1) rfl rfl ?e0q ?e1q ?e2q ?e3q ?_)
    case e0q => first | rfl | omega
    case e1q => rw [hz2]; omega
    case e2q => unfold maxLen; omega
    case e3q => omega
    intro waq hownq hgrq
    have hbaq : Below wcp.heap.size wcp waq := (Below.refl _ _).grown hgrq (Nat.le_refl _) (fun k hk => by cases hk)
    have hszq : wcp.heap.size < waq.heap.size := own_lt hownq
    clear hgrq
    go_wp2_with (at_builtin; refine wpList_append_fits _ rfl _ _ 29 rfl 0 24 i0 1 Try.underlying29 hi hz1 wcp.heap.size 0 (k2.n + 1) [] rfl (hownq.alloc _) ⟨waq.heap.size, 0, none⟩ 1 1 [.slice y.a y.zs.length y.c] rfl rfl ?f1q ?f2q ?f3q ?_)
    case f1q => exact one_cell _ _
    case f2q => intro u hu; simp at hu; subst hu; rfl
    case f3q => omega
    intro wbq hownbq hgrbq
    have hbbq : Below wcp.heap.size wcp wbq := (hbaq.alloc hbaq.size _).grown hgrbq (by simp; omega) (fun k hk => by cases hk; exact Nat.le_refl _)
    have HOq : Hid (wbq.ownsRow 0 24 1 (.slice (some ⟨wcp.heap.size, 0, none⟩) (0 + 1) (k2.n + 1)) (0 + 1) ([] ++ [.slice y.a y.zs.length y.c])) := hownbq
    clear hbaq hownq hownbq hgrbq hszq
    go_wp2_with (at_builtin; refine wpList_append_fits_any _ rfl _ _ 29 rfl 0 24 i0 1 Try.underlying29 hi hz1 wcp.heap.size (0 + 1) (k2.n + 1) ([] ++ [.slice y.a y.zs.length y.c]) rfl HOq.out _ k2.n _ (news D2 k2.n) rfl (news_len D2 k2.n) (fun h => by first | exact ⟨rfl, rfl⟩ | (cases h; done)) (by exact news_cells (bb_below P2.out hbbq) (by omega)) (news_one _ _) (by omega) ?_)
    intro wcq howncq hgrcq
    have hbcq : Below wcp.heap.size wcp wcq := hbbq.grown hgrcq hbbq.size (fun k hk => by cases hk; exact Nat.le_refl _)
    have BNq : Hid (BB.ok wcq ⟨some ⟨wcp.heap.size, 0, none⟩, 1 + k2.n, k2.n + 1, front y D2⟩) := front_bb howncq (ok_below Py.out hbcq) (bb_oks (bb_below P2.out hbcq) (by omega))
    clear howncq hgrcq hbbq HOq
    have HB7 : Hid (Below w''.heap.size w'' wcq) := HB6.out.trans (hbcq.mono HB6.out.size)
    have R1 : Hid (BB.ok wcq ⟨_, k1.n, k1.n, D1⟩) := bb_below P1.out hbcq
    have R2 : Hid (BB.ok wcq ⟨_, k2.n, k2.n, D2⟩) := bb_below P2.out hbcq
    have Rd : Hid (d.ok wcq) := ok_below Pd.out hbcq
    have Rx : Hid (x.ok wcq) := ok_below Px.out hbcq
    have Ry : Hid (y.ok wcq) := ok_below Py.out hbcq
    have BN : Hid (BB.ok wcq ⟨some ⟨w5.heap.size, 0, none⟩, 1 + k2.n, k2.n + 1, front x D1⟩) := bb_below BNp.out hbcq
    clear P1 P2 Pd Px Py HB6 hbcq BNp
    go_wp2_with fail
    refine (zfind _ _ k2.n _ _ k1.n k2.n _ _ D1 D2 d wcq (by omega) (by omega) (by omega) R1.out R2.out Rd.out).mono ?_
    rintro e wd ⟨b, rfl, hf, hbd⟩
    have HF : Hid (FoundB k2.n D1 D2 d b) := hf
    clear hf
    go_wp2_with fail
    refine (zfind _ _ (1 + k2.n) _ _ (1 + k2.n) (1 + k2.n) _ _ (front x D1) (front y D2) d wd (by omega) (by omega) (by omega) (bb_below BN.out hbd) (bb_below BNq.out hbd) (ok_below Rd.out hbd)).mono ?_
    rintro e we ⟨b', rfl, hf', hbe⟩
    have HF' : Hid (FoundB (1 + k2.n) (front x D1) (front y D2) d b') := hf'
    have hbw : Below wcq.heap.size wcq we := hbd.trans (hbe.mono hbd.size)
    have HB8 : Hid (Below w''.heap.size w'' we) := HB7.out.trans (hbw.mono HB7.out.size)
    have Sb : Hid (b.ok we ∧ b.zs.length ≤ 1048576) := found_ok HF.out (fun i hi => ⟨bb_oks (bb_below R2.out hbw) (show k2.n ≤ k2.n by omega) i hi, HL2.out i (by omega)⟩)
    have Sd : Hid (d.ok we) := ok_below Rd.out hbw
    have Sx : Hid (x.ok we) := ok_below Rx.out hbw
    have Sy : Hid (y.ok we) := ok_below Ry.out hbw
    clear hf' hbd hbe hbw R1 R2 Rd Rx Ry BN BNq HB7
    have qn := q24
    go_wp2_with fail
    refine (eq_any x d we Sx.out Sd.out hxl).mono ?_
    rintro e wf ⟨rfl, m, rfl⟩
    cases hE : eqB x.zs d.zs with
    | true =>
      have hby : b' = y := found_hit HF'.out (by simpa [eqB] using hE)
      subst hby
      clear hE HF HF'
      go_wp2_with fail
      refine (eq_any b' b' _ (ok_drewN Sy.out m) (ok_drewN Sy.out m) hyl).mono ?_
      rintro e wg ⟨rfl, m', rfl⟩
      rw [eqB_self]
      go_wp2
      go_ret
      exact ⟨rfl, below_drewN HB8.out _⟩
    | false =>
      have hbb : b' = b := found_one (found_miss HF'.out (by simpa [eqB] using hE)) HF.out
      subst hbb
      clear hE HF HF'
      have hbl := Sb.out.2
      go_wp2_with fail
      refine (eq_any b' b' _ (ok_drewN Sb.out.1 m) (ok_drewN Sb.out.1 m) hbl).mono ?_
      rintro e wg ⟨rfl, m', rfl⟩
      rw [eqB_self]
      go_wp2
      go_ret
      exact ⟨rfl, below_drewN HB8.out _⟩
  · go_wp2_with (at_make; refine wpList_make_own _ rfl _ _ 29 rfl 0 24 i0 (.slice none 0 0) 1 Try.underlying29 hi hz0 hz1 .i64 .i64 _ (k1.n + 1) rfl rfl ?e0p ?e1p ?e2p ?e3p ?_)
    case e0p => first | rfl | omega
    case e1p => rw [hz2]; omega
    case e2p => unfold maxLen; omega
    case e3p => omega
    intro wap hownp hgrp
    have hbap : Below w5.heap.size w5 wap := (Below.refl _ _).grown hgrp (Nat.le_refl _) (fun k hk => by cases hk)
    have hszp : w5.heap.size < wap.heap.size := own_lt hownp
    clear hgrp
    go_wp2_with (at_builtin; refine wpList_append_fits _ rfl _ _ 29 rfl 0 24 i0 1 Try.underlying29 hi hz1 w5.heap.size 0 (k1.n + 1) [] rfl (hownp.alloc _) ⟨wap.heap.size, 0, none⟩ 1 1 [.slice x.a x.zs.length x.c] rfl rfl ?f1p ?f2p ?f3p ?_)
    case f1p => exact one_cell _ _
    case f2p => intro u hu; simp at hu; subst hu; rfl
    case f3p => omega
    intro wbp hownbp hgrbp
    have hbbp : Below w5.heap.size w5 wbp := (hbap.alloc hbap.size _).grown hgrbp (by simp; omega) (fun k hk => by cases hk; exact Nat.le_refl _)
    have HOp : Hid (wbp.ownsRow 0 24 1 (.slice (some ⟨w5.heap.size, 0, none⟩) (0 + 1) (k1.n + 1)) (0 + 1) ([] ++ [.slice x.a x.zs.length x.c])) := hownbp
    clear hbap hownp hownbp hgrbp hszp
    go_wp2_with (at_builtin; refine wpList_append_fits_any _ rfl _ _ 29 rfl 0 24 i0 1 Try.underlying29 hi hz1 w5.heap.size (0 + 1) (k1.n + 1) ([] ++ [.slice x.a x.zs.length x.c]) rfl HOp.out _ k1.n _ (news D1 k1.n) rfl (news_len D1 k1.n) (fun h => by first | exact ⟨rfl, rfl⟩ | (cases h; done)) (by exact news_cells (bb_below O1.out hbbp) (by omega)) (news_one _ _) (by omega) ?_)
    intro wcp howncp hgrcp
    have hbcp : Below w5.heap.size w5 wcp := hbbp.grown hgrcp hbbp.size (fun k hk => by cases hk; exact Nat.le_refl _)
    have BNp : Hid (BB.ok wcp ⟨some ⟨w5.heap.size, 0, none⟩, 1 + k1.n, k1.n + 1, front x D1⟩) := front_bb howncp (ok_below Ox.out hbcp) (bb_oks (bb_below O1.out hbcp) (by omega))
    clear howncp hgrcp hbbp HOp
    have HB6 : Hid (Below w''.heap.size w'' wcp) := HB5.out.trans (hbcp.mono HB5.out.size)
    have P1 : Hid (BB.ok wcp ⟨_, k1.n, k1.n, D1⟩) := bb_below O1.out hbcp
    have P2 : Hid (BB.ok wcp ⟨_, k2.n, k2.n, D2⟩) := bb_below O2.out hbcp
    have Pd : Hid (d.ok wcp) := ok_below Od.out hbcp
    have Px : Hid (x.ok wcp) := ok_below Ox.out hbcp
    have Py : Hid (y.ok wcp) := ok_below Oy.out hbcp
    clear O1 O2 Od Ox Oy HB5 hbcp
    go_wp2_with (at_make; refine wpList_make_own _ rfl _ _ 29 rfl 0 24 i0 (.slice none 0 0) 1 Try.underlying29 hi hz0 hz1 .i64 .i64 _ (k1.n + 1) rfl rfl ?e0q ?e1q ?e2q ?e3q ?_)
    case e0q => first | rfl | omega
    case e1q => rw [hz2]; omega
    case e2q => unfold maxLen; omega
    case e3q => omega
    intro waq hownq hgrq
    have hbaq : Below wcp.heap.size wcp waq := (Below.refl _ _).grown hgrq (Nat.le_refl _) (fun k hk => by cases hk)
    have hszq : wcp.heap.size < waq.heap.size := own_lt hownq
    clear hgrq
    go_wp2_with (at_builtin; refine wpList_append_fits _ rfl _ _ 29 rfl 0 24 i0 1 Try.underlying29 hi hz1 wcp.heap.size 0 (k1.n + 1) [] rfl (hownq.alloc _) ⟨waq.heap.size, 0, none⟩ 1 1 [.slice y.a y.zs.length y.c] rfl rfl ?f1q ?f2q ?f3q ?_)
    case f1q => exact one_cell _ _
    case f2q => intro u hu; simp at hu; subst hu; rfl
    case f3q => omega
    intro wbq hownbq hgrbq
    have hbbq : Below wcp.heap.size wcp wbq := (hbaq.alloc hbaq.size _).grown hgrbq (by simp; omega) (fun k hk => by cases hk; exact Nat.le_refl _)
    have HOq : Hid (wbq.ownsRow 0 24 1 (.slice (some ⟨wcp.heap.size, 0, none⟩) (0 + 1) (k1.n + 1)) (0 + 1) ([] ++ [.slice y.a y.zs.length y.c])) := hownbq
    clear hbaq hownq hownbq hgrbq hszq
    go_wp2_with (at_builtin; refine wpList_append_fits_any _ rfl _ _ 29 rfl 0 24 i0 1 Try.underlying29 hi hz1 wcp.heap.size (0 + 1) (k1.n + 1) ([] ++ [.slice y.a y.zs.length y.c]) rfl HOq.out _ k1.n _ (news D2 k1.n) rfl (news_len D2 k1.n) (fun h => by first | exact ⟨rfl, rfl⟩ | (cases h; done)) (by exact news_cells (bb_below P2.out hbbq) (by omega)) (news_one _ _) (by omega) ?_)
    intro wcq howncq hgrcq
    have hbcq : Below wcp.heap.size wcp wcq := hbbq.grown hgrcq hbbq.size (fun k hk => by cases hk; exact Nat.le_refl _)
    have BNq : Hid (BB.ok wcq ⟨some ⟨wcp.heap.size, 0, none⟩, 1 + k1.n, k1.n + 1, front y D2⟩) := front_bb howncq (ok_below Py.out hbcq) (bb_oks (bb_below P2.out hbcq) (by omega))
    clear howncq hgrcq hbbq HOq
    have HB7 : Hid (Below w''.heap.size w'' wcq) := HB6.out.trans (hbcq.mono HB6.out.size)
    have R1 : Hid (BB.ok wcq ⟨_, k1.n, k1.n, D1⟩) := bb_below P1.out hbcq
    have R2 : Hid (BB.ok wcq ⟨_, k2.n, k2.n, D2⟩) := bb_below P2.out hbcq
    have Rd : Hid (d.ok wcq) := ok_below Pd.out hbcq
    have Rx : Hid (x.ok wcq) := ok_below Px.out hbcq
    have Ry : Hid (y.ok wcq) := ok_below Py.out hbcq
    have BN : Hid (BB.ok wcq ⟨some ⟨w5.heap.size, 0, none⟩, 1 + k1.n, k1.n + 1, front x D1⟩) := bb_below BNp.out hbcq
    clear P1 P2 Pd Px Py HB6 hbcq BNp
    go_wp2_with fail
    refine (zfind _ _ k1.n _ _ k1.n k2.n _ _ D1 D2 d wcq (by omega) (by omega) (by omega) R1.out R2.out Rd.out).mono ?_
    rintro e wd ⟨b, rfl, hf, hbd⟩
    have HF : Hid (FoundB k1.n D1 D2 d b) := hf
    clear hf
    go_wp2_with fail
    refine (zfind _ _ (1 + k1.n) _ _ (1 + k1.n) (1 + k1.n) _ _ (front x D1) (front y D2) d wd (by omega) (by omega) (by omega) (bb_below BN.out hbd) (bb_below BNq.out hbd) (ok_below Rd.out hbd)).mono ?_
    rintro e we ⟨b', rfl, hf', hbe⟩
    have HF' : Hid (FoundB (1 + k1.n) (front x D1) (front y D2) d b') := hf'
    have hbw : Below wcq.heap.size wcq we := hbd.trans (hbe.mono hbd.size)
    have HB8 : Hid (Below w''.heap.size w'' we) := HB7.out.trans (hbw.mono HB7.out.size)
    have Sb : Hid (b.ok we ∧ b.zs.length ≤ 1048576) := found_ok HF.out (fun i hi => ⟨bb_oks (bb_below R2.out hbw) (show k1.n ≤ k2.n by omega) i hi, HL2.out i (by omega)⟩)
    have Sd : Hid (d.ok we) := ok_below Rd.out hbw
    have Sx : Hid (x.ok we) := ok_below Rx.out hbw
    have Sy : Hid (y.ok we) := ok_below Ry.out hbw
    clear hf' hbd hbe hbw R1 R2 Rd Rx Ry BN BNq HB7
    have qn := q24
    go_wp2_with fail
    refine (eq_any x d we Sx.out Sd.out hxl).mono ?_
    rintro e wf ⟨rfl, m, rfl⟩
    cases hE : eqB x.zs d.zs with
    | true =>
      have hby : b' = y := found_hit HF'.out (by simpa [eqB] using hE)
      subst hby
      clear hE HF HF'
      go_wp2_with fail
      refine (eq_any b' b' _ (ok_drewN Sy.out m) (ok_drewN Sy.out m) hyl).mono ?_
      rintro e wg ⟨rfl, m', rfl⟩
      rw [eqB_self]
      go_wp2
      go_ret
      exact ⟨rfl, below_drewN HB8.out _⟩
    | false =>
      have hbb : b' = b := found_one (found_miss HF'.out (by simpa [eqB] using hE)) HF.out
      subst hbb
      clear hE HF HF'
      have hbl := Sb.out.2
      go_wp2_with fail
      refine (eq_any b' b' _ (ok_drewN Sb.out.1 m) (ok_drewN Sb.out.1 m) hbl).mono ?_
      rintro e wg ⟨rfl, m', rfl⟩
      rw [eqB_self]
      go_wp2
      go_ret
      exact ⟨rfl, below_drewN HB8.out _⟩
end frontlaw
end Go.Proofs.Qxb6601003a
