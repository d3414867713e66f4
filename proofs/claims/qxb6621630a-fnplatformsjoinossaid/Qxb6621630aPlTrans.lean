/-
  The walk of the law 'FnPlatformsTranspose' (6).
-/
import Derived.Test.Qxb6621630aPlZZ
import Derived.Deep.QuietTactic
import Derived.BigQuiet
namespace Go.Proofs.Qxb6621630a.Pl
open Go.ChangeShapes Go.WideShapes Go.ChangeAt Go.RowKit

theorem two_blocks {B : Nat} {w wr : World} (h : Below B w wr) (o1 o2 : Obj) (n : Nat) (hB : B ≤ wr.heap.size) : Below B w (((wr.alloc o1).alloc o2).drewN n) :=
  below_drewN ((h.alloc hB o1).alloc (by simp; omega) o2) n

set_option maxHeartbeats 1600000 in
theorem trans_any (a0 a1 : Option Addr) (n0 c0 n1 c1 : Nat) (L0 L1 : List ByteArray) (w : World) (h0 : Strs w.heap.size w a0 n0 L0) (h1 : Strs w.heap.size w a1 n1 L1) :
    Calls Try.prog 6 #[.slice a0 n0 c0, .slice a1 n1 c1] w fun e w' => e = .returned (.bool true) ∧ Below w.heap.size w w' := by
  have f0 := h0.few
  have f1 := h1.few
  unfold maxLen at f0 f1
  have H0 := hide h0
  have H1 := hide h1
  clear h0 h1
  go_enter Try.func6, Try.ntmps6
  go_wp2_with fail
  refine (bytes2_any a0 a1 n0 c0 n1 c1 _ L0 L1 _ H0.out H1.out).mono ?_
  rintro e w' ⟨⟨v, rfl⟩, rfl⟩
  cases v
  · go_wp2_with fail
    go_ret
    exact ⟨rfl, Below.refl _ _⟩
  go_wp2_with fail
  refine (addStrs_any 0 a0 n0 c0 _ L0 _ H0.out (by omega) (by omega)).mono ?_
  rintro e w' ⟨⟨r, hr0, hr1, rfl⟩, rfl⟩
  go_wp2_with fail
  refine (addStrs_any r a1 n1 c1 _ L1 _ H1.out hr0 hr1).mono ?_
  rintro e w' ⟨⟨r2, hr20, hr21, rfl⟩, rfl⟩
  by_cases hr : 1048576 < r2
  · go_wp2_with fail
    go_ret
    exact ⟨rfl, Below.refl _ _⟩
  by_cases hn0 : n0 ≤ 4096
  rotate_left
  · go_wp2_with fail
    go_ret
    exact ⟨rfl, Below.refl _ _⟩
  by_cases hn1 : n1 ≤ 4096
  rotate_left
  · go_wp2_with fail
    go_ret
    exact ⟨rfl, Below.refl _ _⟩
  obtain ⟨N, hN⟩ : ∃ N : Nat, n0 * n1 = N := ⟨_, rfl⟩
  have hmul : (n0 : Int) * (n1 : Int) = (N : Int) := by rw [← hN]; simp
  have hNb : N ≤ 16777216 := by rw [← hN]; exact Nat.mul_le_mul hn0 hn1
  have HN := hide hN
  clear hN
  by_cases hb : N ≤ 1048576
  rotate_left
  · go_wp2_with fail
    go_ret
    exact ⟨rfl, Below.refl _ _⟩
  go_wp2_with fail
  refine (zz_plat a0 a1 n0 c0 n1 c1 N L0 L1 _ H0.out H1.out (by omega) (by omega) HN.out).mono ?_
  rintro e w1 ⟨ax, cx, rfl, hp1, hb1⟩
  have HP1 := hide hp1
  have HB1 := hide hb1
  clear hp1 hb1
  go_wp2_with fail
  refine (zz_plat a1 a0 n1 c1 n0 c0 N L1 L0 _ ((H1.out.keep HB1.out (Nat.le_refl _)).wider HB1.out.size) ((H0.out.keep HB1.out (Nat.le_refl _)).wider HB1.out.size) (by omega) (by omega) (by rw [Nat.mul_comm]; exact HN.out)).mono ?_
  rintro e w2 ⟨ay, cy, rfl, hp2, hb2⟩
  have HP2 := hide hp2
  have HB2 := hide hb2
  clear hp2 hb2
  have hW2 : Below w'.heap.size w' w2 := HB1.out.trans (HB2.out.mono HB1.out.size)
  have S0 := hide (H0.out.keep hW2 (Nat.le_refl _))
  have S1 := hide (H1.out.keep hW2 (Nat.le_refl _))
  have P1 := hide (HP1.out.keep HB2.out)
  have HW2 := hide hW2
  clear H0 H1 HP1 HB1 HB2 hW2
  go_wp2
  go_loopw [9] (fun xv wr => ∃ x : Nat, x ≤ n0 ∧ xv = .int .i64 x ∧ Below w2.heap.size w2 wr) (fun xv _ => n0 - (intOf xv).toNat)
  case atStart => exact ⟨0, Nat.zero_le _, rfl, Below.refl _ _⟩
  case round =>
    obtain ⟨x, hx, rfl, hI0⟩ := hrel
    have HI0 := hide hI0
    clear hI0
    by_cases hxl : x < n0
    · go_wp2
      obtain ⟨wo, hwo⟩ : ∃ wo : World, wo = wr := ⟨_, rfl⟩
      go_loopw [10] (fun yv wr => ∃ y : Nat, y ≤ n1 ∧ yv = .int .i64 y ∧ Below w2.heap.size w2 wr) (fun yv _ => n1 - (intOf yv).toNat)
      case atStart => exact ⟨0, Nat.zero_le _, rfl, HI0.out⟩
      case round =>
        clear HI0 hwo
        obtain ⟨y, hy, rfl, hI1⟩ := hrel
        by_cases hyl : y < n1
        · have hx' : x < L0.length := by rw [S0.out.hlen]; exact hxl
          have hy' : y < L1.length := by rw [S1.out.hlen]; exact hyl
          obtain ⟨b0, off0, rfl, hb0, hc0⟩ := S0.out.cells (by omega)
          obtain ⟨b1, off1, rfl, hb1, hc1⟩ := S1.out.cells (by omega)
          have q1 := plats_at L0 L1 x y hx' hy'
          have q2 := plats_at L1 L0 y x hy' hx'
          rw [S1.out.hlen] at q1
          rw [S0.out.hlen] at q2
          obtain ⟨xm, hxm⟩ : ∃ xm : Nat, x * n1 = xm := ⟨_, rfl⟩
          obtain ⟨ym, hym⟩ : ∃ ym : Nat, y * n0 = ym := ⟨_, rfl⟩
          rw [hxm] at q1
          rw [hym] at q2
          obtain ⟨g1, rfl, hg1, e1, e2⟩ := P1.out.at q1
          obtain ⟨g2, rfl, hg2, e3, e4⟩ := HP2.out.at q2
          have hi1 : xm + y < N := by rw [← P1.out.hlen]; exact (List.getElem?_eq_some_iff.1 q1).1
          have hi2 : ym + x < N := by rw [← HP2.out.hlen]; exact (List.getElem?_eq_some_iff.1 q2).1
          have hxm' : (x : Int) * (n1 : Int) = (xm : Int) := by rw [← hxm]; simp
          have hym' : (y : Int) * (n0 : Int) = (ym : Int) := by rw [← hym]; simp
          have d0 := (hI1.cell (p := ⟨b0, off0 + x, none⟩) (Nat.lt_of_lt_of_le hb0 HW2.out.size)).trans (hc0 x hx')
          have d1 := (hI1.cell (p := ⟨b1, off1 + y, none⟩) (Nat.lt_of_lt_of_le hb1 HW2.out.size)).trans (hc1 y hy')
          have d2 := (hI1.cell (p := ⟨g1, (xm + y) * 2, none⟩) hg1).trans e1
          have d3 := (hI1.cell (p := ⟨g1, (xm + y) * 2 + 1, none⟩) hg1).trans e2
          have d4 := (hI1.cell (p := ⟨g2, (ym + x) * 2, none⟩) hg2).trans e3
          have d5 := (hI1.cell (p := ⟨g2, (ym + x) * 2 + 1, none⟩) hg2).trans e4
          have k0 : b0 < wr.heap.size := Nat.lt_of_lt_of_le hb0 (Nat.le_trans HW2.out.size hI1.size)
          have k1 : b1 < wr.heap.size := Nat.lt_of_lt_of_le hb1 (Nat.le_trans HW2.out.size hI1.size)
          have k2 : g1 < wr.heap.size := Nat.lt_of_lt_of_le hg1 hI1.size
          have k3 : g2 < wr.heap.size := Nat.lt_of_lt_of_le hg2 hI1.size
          have HI1 := hide hI1
          clear hc0 hc1 q1 q2 e1 e2 e3 e4 hxm hym hb0 hb1 hg1 hg2 hI1
          simp only at d2 d3 d4 d5
          generalize L0[x] = s0 at *
          generalize L1[y] = s1 at *
          go_wp2
          go_quiet (fail)
          go_wp2
          obtain ⟨X, hX⟩ : ∃ X, X = ((wr.alloc (Obj.cells #[.string (goos s0), .string s1] 36)).alloc (Obj.cells #[.string (goos s1), .string s0] 36)).drewN nq := ⟨_, rfl⟩
          have m1 : X.cell? ⟨wr.heap.size, 0, none⟩ = some (.string (goos s0)) := by rw [hX]; simp
          have m2 : X.cell? ⟨wr.heap.size, 1, none⟩ = some (.string s1) := by rw [hX]; simp
          have m3 : X.cell? ⟨wr.heap.size + 1, 0, none⟩ = some (.string (goos s1)) := by rw [hX]; simp
          have m4 : X.cell? ⟨wr.heap.size + 1, 1, none⟩ = some (.string s0) := by rw [hX]; simp
          have HX : Hid (Below w2.heap.size w2 X) := by rw [hX]; exact two_blocks HI1.out _ _ _ HI1.out.size
          rw [← hX]
          clear hX
          go_quiet ((go_at_call 15; exact Calls.quiet_of_same (goos_any _ _)))
          go_wp2
          go_roundw
          case rel => exact ⟨y + 1, by omega, by go_num, below_drewN HX.out _⟩
          case measure => simp [intOf]; omega
        · go_wp2
          go_roundw
          case rel => exact ⟨x + 1, by omega, by go_num, hI1⟩
          case measure => simp [intOf]; omega
    · go_wp2
      go_ret
      exact ⟨rfl, HW2.out.trans (HI0.out.mono HW2.out.size)⟩
end Go.Proofs.Qxb6621630a.Pl
