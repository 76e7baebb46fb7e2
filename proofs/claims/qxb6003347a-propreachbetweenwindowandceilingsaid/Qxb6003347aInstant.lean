import Derived.Test.Qxb6003347aTime
namespace Go.Proofs.Qxb6003347a.timekit
open Go.ChangeShapes Go.WideShapes Go.ChangeAt Go.RowKit
set_option linter.unusedVariables false

def Cell3 (w : World) (b : Nat) (n x : Int) : Prop :=
  w.cell? ⟨b, 0, none⟩ = some (.int .u64 n) ∧ w.cell? ⟨b, 1, none⟩ = some (.int .i64 x) ∧ w.cell? ⟨b, 2, none⟩ = some (.pointer none) ∧
  w.frozen? ⟨b, 0, none⟩ = false ∧ w.frozen? ⟨b, 1, none⟩ = false ∧ w.frozen? ⟨b, 2, none⟩ = false

def put3 (w : World) (b : Nat) (n x : Int) : World :=
  ((w.setCell ⟨b, 0, none⟩ (.int .u64 n)).setCell ⟨b, 1, none⟩ (.int .i64 x)).setCell ⟨b, 2, none⟩ (.pointer none)

theorem cell3_lt {w : World} {b : Nat} {n x : Int} (h : Cell3 w b n x) : b < w.heap.size := World.block_lt_of_cell? w ⟨b, 0, none⟩ h.1

theorem cell3_put {w : World} {b : Nat} {n x : Int} (h : Cell3 w b n x) (n' x' : Int) : Cell3 (put3 w b n' x') b n' x' := by
  obtain ⟨h0, h1, h2, f0, f1, f2⟩ := h
  have a1 : (w.setCell ⟨b, 0, none⟩ (.int .u64 n')).cell? ⟨b, 1, none⟩ = some (.int .i64 x) := by rw [World.cell?_setCell_other _ _ _ _ (by simp)]; exact h1
  have a2 : ((w.setCell ⟨b, 0, none⟩ (.int .u64 n')).setCell ⟨b, 1, none⟩ (.int .i64 x')).cell? ⟨b, 2, none⟩ = some (.pointer none) := by
    rw [World.cell?_setCell_other _ _ _ _ (by simp), World.cell?_setCell_other _ _ _ _ (by simp)]; exact h2
  unfold put3
  refine ⟨?_, ?_, World.cell?_setCell_same _ _ _ a2, ?_, ?_, ?_⟩
  · rw [World.cell?_setCell_other _ _ _ _ (by simp), World.cell?_setCell_other _ _ _ _ (by simp)]; exact World.cell?_setCell_same _ _ _ h0
  · rw [World.cell?_setCell_other _ _ _ _ (by simp)]; exact World.cell?_setCell_same _ _ _ a1
  · simpa using f0
  · simpa using f1
  · simpa using f2

theorem cell3_other {w : World} {b c : Nat} {n x : Int} (h : Cell3 w b n x) (hbc : b ≠ c) (n' x' : Int) : Cell3 (put3 w c n' x') b n x := by
  obtain ⟨h0, h1, h2, f0, f1, f2⟩ := h
  unfold put3
  refine ⟨?_, ?_, ?_, by simpa using f0, by simpa using f1, by simpa using f2⟩
  · rw [World.cell?_setCell_other _ _ _ _ (fun h => hbc (congrArg Addr.block h).symm), World.cell?_setCell_other _ _ _ _ (fun h => hbc (congrArg Addr.block h).symm), World.cell?_setCell_other _ _ _ _ (fun h => hbc (congrArg Addr.block h).symm)]; exact h0
  · rw [World.cell?_setCell_other _ _ _ _ (fun h => hbc (congrArg Addr.block h).symm), World.cell?_setCell_other _ _ _ _ (fun h => hbc (congrArg Addr.block h).symm), World.cell?_setCell_other _ _ _ _ (fun h => hbc (congrArg Addr.block h).symm)]; exact h1
  · rw [World.cell?_setCell_other _ _ _ _ (fun h => hbc (congrArg Addr.block h).symm), World.cell?_setCell_other _ _ _ _ (fun h => hbc (congrArg Addr.block h).symm), World.cell?_setCell_other _ _ _ _ (fun h => hbc (congrArg Addr.block h).symm)]; exact h2

theorem cell3_below {w w' : World} {b : Nat} {n x : Int} (h : Cell3 w b n x) (hb : Below w.heap.size w w') : Cell3 w' b n x := by
  have hl := cell3_lt h
  obtain ⟨h0, h1, h2, f0, f1, f2⟩ := h
  exact ⟨(hb.cell (p := ⟨b, 0, none⟩) hl).trans h0, (hb.cell (p := ⟨b, 1, none⟩) hl).trans h1, (hb.cell (p := ⟨b, 2, none⟩) hl).trans h2,
    (hb.frozen (p := ⟨b, 0, none⟩) hl).trans f0, (hb.frozen (p := ⟨b, 1, none⟩) hl).trans f1, (hb.frozen (p := ⟨b, 2, none⟩) hl).trans f2⟩

theorem below_put {w w' : World} {B b : Nat} (h : Below B w w') (hb : B ≤ b) (n x : Int) : Below B w (put3 w' b n x) :=
  ((h.setCell (p := ⟨b, 0, none⟩) hb _).setCell (p := ⟨b, 1, none⟩) hb _).setCell (p := ⟨b, 2, none⟩) hb _

set_option maxHeartbeats 1000000 in
theorem instant_any (s ns : Int) (w : World) (hs0 : -1099511627776 ≤ s) (hs1 : s ≤ 1099511627776) :
    Calls Try.prog 7 #[.int .i64 s, .int .i64 ns] w fun e' w' => ∃ n x, e' = .returned (.agg #[.int .u64 n, .int .i64 x, .pointer none]) ∧ 0 ≤ n ∧ n < 1000000000 ∧ Below w.heap.size w w' := by
  go_enter Try.func7, Try.ntmps7
  go_wp2
  go_loopw [6] (fun r wr => ∃ rem n x, r = .int .i64 rem ∧ -2000000000000 ≤ rem ∧ rem ≤ 2000000000000 ∧ 0 ≤ n ∧ n < 1000000000 ∧ Cell3 wr (w.heap.size + 1) n x ∧ Cell3 wr w.heap.size 0 0 ∧ Below w.heap.size w wr)
    (fun r _ => (intOf r).toNat)
  case atStart =>
    refine ⟨_, 0, 0, rfl, by omega, by omega, by omega, by omega, ?_, ?_, ((Below.refl _ _).alloc (Nat.le_refl _) _).alloc (by simp) _⟩
    · refine ⟨?_, ?_, ?_, ?_, ?_, ?_⟩ <;> simp
    · refine ⟨?_, ?_, ?_, ?_, ?_, ?_⟩ <;> simp
  case round =>
    obtain ⟨rem, n, x, rfl, hr0, hr1, hn0, hn1, hc, hd, hb⟩ := hrel
    by_cases hlt : 8589934592 ≤ rem
    · have HC : Hid (Cell3 wr (w.heap.size + 1) n x) := hc
      have HD : Hid (Cell3 wr w.heap.size 0 0) := hd
      obtain ⟨c0, c1, c2, -, -, -⟩ := hc
      clear hd
      go_wp2_with fail
      refine (add_any n x 8589934592000000000 wr hn0 hn1).mono ?_
      rintro e1 w1 ⟨n', x', rfl, hm0, hm1, hb1⟩
      have HC1 : Hid (Cell3 w1 (w.heap.size + 1) n x) := cell3_below HC.out hb1
      have HD1 : Hid (Cell3 w1 w.heap.size 0 0) := cell3_below HD.out hb1
      have HB1 : Hid (Below w.heap.size w w1) := hb.trans (hb1.mono hb.size)
      obtain ⟨k0, k1, k2, f0, f1, f2⟩ := HC1.out
      clear c0 c1 c2 hb1 hb HC HD
      go_wp2
      go_roundw
      case rel => exact ⟨_, n', x', rfl, by omega, by omega, hm0, hm1, cell3_put HC1.out n' x', cell3_other HD1.out (by omega) n' x', below_put HB1.out (by omega) n' x'⟩
      case measure => simp [intOf]; omega
    · have HC : Hid (Cell3 wr (w.heap.size + 1) n x) := hc
      have HD : Hid (Cell3 wr w.heap.size 0 0) := hd
      have HB : Hid (Below w.heap.size w wr) := hb
      clear hc hd hb
      have e1 : decide (8589934592 ≤ rem) = false := by simp; omega
      go_wp2
      clear e1
      go_loopw [6] (fun r wr => ∃ rem n x, r = .int .i64 rem ∧ -2000000000000 ≤ rem ∧ rem < 8589934592 ∧ 0 ≤ n ∧ n < 1000000000 ∧ Cell3 wr (w.heap.size + 1) n x ∧ Cell3 wr w.heap.size 0 0 ∧ Below w.heap.size w wr)
        (fun r _ => (2000000000000 - intOf r).toNat)
      case atStart => exact ⟨_, n, x, rfl, by omega, by omega, hn0, hn1, HC.out, HD.out, HB.out⟩
      case round =>
        rename_i wr0
        obtain ⟨rem2, n2, x2, rfl, hr20, hr21, hn20, hn21, hc, hd, hb⟩ := hrel
        clear HC HD HB
        by_cases hlt2 : rem2 ≤ -8589934592
        · have HC : Hid (Cell3 wr (w.heap.size + 1) n2 x2) := hc
          have HD : Hid (Cell3 wr w.heap.size 0 0) := hd
          obtain ⟨c0, c1, c2, -, -, -⟩ := hc
          clear hd
          go_wp2_with fail
          refine (add_any n2 x2 _ wr hn20 hn21).mono ?_
          rintro e1 w1 ⟨n', x', rfl, hm0, hm1, hb1⟩
          have HC1 : Hid (Cell3 w1 (w.heap.size + 1) n2 x2) := cell3_below HC.out hb1
          have HD1 : Hid (Cell3 w1 w.heap.size 0 0) := cell3_below HD.out hb1
          have HB1 : Hid (Below w.heap.size w w1) := hb.trans (hb1.mono hb.size)
          obtain ⟨k0, k1, k2, f0, f1, f2⟩ := HC1.out
          clear c0 c1 c2 hb1 hb HC HD
          go_wp2
          go_roundw
          case rel => exact ⟨_, n', x', rfl, by omega, by omega, hm0, hm1, cell3_put HC1.out n' x', cell3_other HD1.out (by omega) n' x', below_put HB1.out (by omega) n' x'⟩
          case measure => simp [intOf]; omega
        · have HC : Hid (Cell3 wr (w.heap.size + 1) n2 x2) := hc
          have HD : Hid (Cell3 wr w.heap.size 0 0) := hd
          obtain ⟨c0, c1, c2, -, -, -⟩ := hc
          clear hd
          go_wp2_with fail
          refine (add_any n2 x2 _ wr hn20 hn21).mono ?_
          rintro e1 w1 ⟨n', x', rfl, hm0, hm1, hb1⟩
          have HD1 : Hid (Cell3 w1 w.heap.size 0 0) := cell3_below HD.out hb1
          have HB1 : Hid (Below w.heap.size w w1) := hb.trans (hb1.mono hb.size)
          obtain ⟨k0, k1, k2, f0, f1, f2⟩ := HD1.out
          have HP : Hid (Cell3 (put3 w1 w.heap.size n' x') w.heap.size n' x') := cell3_put HD1.out n' x'
          clear c0 c1 c2 hb1 hb HC HD
          go_wp2
          obtain ⟨p0, p1, p2, -⟩ := HP.out
          unfold put3 at p0 p1 p2
          refine bodyPost_ret (v := .agg #[.int .u64 n', .int .i64 x', .pointer none]) (by simp [results, Try.results7, go_sem, p0, p1, p2]) rfl ⟨_, _, rfl, hm0, hm1, below_put HB1.out (Nat.le_refl _) n' x'⟩
end Go.Proofs.Qxb6003347a.timekit
