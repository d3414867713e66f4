/-
  The walk of the law 'FnPlatformsJoinOS' (5).
-/
import Derived.Test.Qxb6621630aPlZZ
import Derived.Test.Qxb6621630aPlTrans
import Derived.Deep.QuietTactic
import Derived.BigQuiet
namespace Go.Proofs.Qxb6621630a.Pl
open Go.ChangeShapes Go.WideShapes Go.ChangeAt Go.RowKit

theorem info9 : (Try.prog.info? 9).map (fun i => (i.zero, i.size, i.bytes)) = some (some (.string ⟨#[]⟩), 1, 16) := by kernel_rfl

def strV (l : List ByteArray) : List Value := l.map Value.string

/-- the slice that the law builds holds the strings l. -/
structure SInv (w wr : World) (n : Nat) (l : List ByteArray) : Prop where
  own : wr.ownsRow w.heap.size 9 1 (.slice (some ⟨w.heap.size, 0, none⟩) l.length n) l.length (strV l)
  bel : Below w.heap.size w wr
  big : w.heap.size + 1 ≤ wr.heap.size

theorem SInv.start {w w1 : World} {n : Nat} (h : w1.ownsRow w.heap.size 9 1 (.slice (some ⟨w.heap.size, 0, none⟩) 0 n) 0 []) (hg : w.grownBy w1 none) : SInv w w1 n [] :=
  ⟨h, (Below.refl _ _).grown hg (Nat.le_refl _) (by simp), (h.lt w.heap.size rfl).2⟩
theorem SInv.step {w wr w1 : World} {n : Nat} {l : List ByteArray} {s : ByteArray} (o : Obj) (h : SInv w wr n l)
    (hown : w1.ownsRow w.heap.size 9 1 (.slice (some ⟨w.heap.size, 0, none⟩) (l.length + 1) n) (l.length + 1) (strV l ++ [.string s])) (hg : (wr.alloc o).grownBy w1 (some w.heap.size)) : SInv w w1 n (l ++ [s]) := by
  have hb : Below w.heap.size w w1 := (h.bel.alloc (by have := h.big; omega) o).grown hg (by have := h.big; simp; omega) (fun k hk => by simp at hk; omega)
  refine ⟨?_, hb, ?_⟩
  · rw [List.length_append]; simpa [strV] using hown
  · have := hg.size; have := h.big; simp at *; omega
theorem SInv.strs {w wr : World} {n : Nat} {l : List ByteArray} (h : SInv w wr n l) (hs : ∀ s ∈ l, s.size ≤ maxLen) (hl : l.length ≤ maxLen) : Strs wr.heap.size wr (some ⟨w.heap.size, 0, none⟩) l.length l := by
  refine ⟨rfl, fun _ => ⟨w.heap.size, 0, rfl, by have := h.big; omega, fun j hj => ?_⟩, hs, hl⟩
  rw [Nat.zero_add, h.own.cellAt j (by omega), strV, List.getElem?_map, List.getElem?_eq_getElem hj]; rfl

theorem new1_at {wr : World} {x : Value} {t : TypeId} : ∀ j u, [x][j]? = some u → (wr.alloc (.cells #[x] t)).cell? ((⟨wr.heap.size, 0, none⟩ : Addr).add j) = some u := by
  intro j u hj
  match j, hj with
  | 0, hj => simp at hj; subst hj; simp [Addr.add]
theorem new1_one (x : ByteArray) : ∀ u ∈ [Value.string x], u.oneCell' = true := by
  intro u hu
  simp at hu
  subst hu; rfl

set_option maxRecDepth 100000 in
set_option maxHeartbeats 3200000 in
theorem join_any (a0 a1 a2 : Option Addr) (n0 c0 n1 c1 n2 c2 : Nat) (L0 L1 L2 : List ByteArray) (w : World) (h0 : Strs w.heap.size w a0 n0 L0) (h1 : Strs w.heap.size w a1 n1 L1) (h2 : Strs w.heap.size w a2 n2 L2) :
    Calls Try.prog 5 #[.slice a0 n0 c0, .slice a1 n1 c1, .slice a2 n2 c2] w fun e w' => e = .returned (.bool true) ∧ Below w.heap.size w w' := by
  obtain ⟨i0, hi, hz0, hz1, hz2⟩ := info_parts info9
  have f0 := h0.few
  have f1 := h1.few
  have f2 := h2.few
  unfold maxLen at f0 f1 f2
  have H0 := hide h0
  have H1 := hide h1
  have H2 := hide h2
  clear h0 h1 h2
  go_enter Try.func5, Try.ntmps5
  go_wp2_with fail
  refine (bytes3_any a0 a1 a2 n0 c0 n1 c1 n2 c2 _ L0 L1 L2 _ H0.out H1.out H2.out).mono ?_
  rintro e w' ⟨⟨v, rfl⟩, rfl⟩
  cases v
  · go_wp2_with fail
    go_ret
    exact ⟨rfl, Below.refl _ _⟩
  go_wp2_with fail
  refine (addStrs_any 0 a0 n0 c0 _ L0 _ H0.out (by omega) (by omega)).mono ?_
  rintro e w' ⟨⟨r, hr0, hr1, rfl⟩, rfl⟩
  go_wp2_with fail
  refine (addStrs_any r a1 n1 c1 _ L1 _ H1.out hr0 hr1).mono ?_
  rintro e w' ⟨⟨r2, hr20, hr21, rfl⟩, rfl⟩
  go_wp2_with fail
  refine (addStrs_any r2 a2 n2 c2 _ L2 _ H2.out hr20 hr21).mono ?_
  rintro e w' ⟨⟨r3, hr30, hr31, rfl⟩, rfl⟩
  by_cases hr : 1048576 < r3
  · go_wp2_with fail
    go_ret
    exact ⟨rfl, Below.refl _ _⟩
  by_cases hn0 : n0 ≤ 4096
  rotate_left
  · go_wp2_with fail
    go_ret
    exact ⟨rfl, Below.refl _ _⟩
  by_cases hn1 : n1 ≤ 4096
  rotate_left
  · go_wp2_with fail
    go_ret
    exact ⟨rfl, Below.refl _ _⟩
  by_cases hn2 : n2 ≤ 4096
  rotate_left
  · go_wp2_with fail
    go_ret
    exact ⟨rfl, Below.refl _ _⟩
  obtain ⟨n, hn⟩ : ∃ n : Nat, n0 + n1 = n := ⟨_, rfl⟩
  obtain ⟨N, hN⟩ : ∃ N : Nat, n * n2 = N := ⟨_, rfl⟩
  obtain ⟨N0, hN0⟩ : ∃ N0 : Nat, n0 * n2 = N0 := ⟨_, rfl⟩
  obtain ⟨N1, hN1⟩ : ∃ N1 : Nat, n1 * n2 = N1 := ⟨_, rfl⟩
  have hsum : (n0 : Int) + (n1 : Int) = (n : Int) := by omega
  have hmul : (n : Int) * (n2 : Int) = (N : Int) := by rw [← hN]; simp
  have hmul0 : (n0 : Int) * (n2 : Int) = (N0 : Int) := by rw [← hN0]; simp
  have hmul1 : (n1 : Int) * (n2 : Int) = (N1 : Int) := by rw [← hN1]; simp
  have hnb : n ≤ 8192 := by omega
  have hNb : N ≤ 33554432 := by rw [← hN]; exact Nat.mul_le_mul hnb hn2
  have hN01 : N0 + N1 = N := by rw [← hN0, ← hN1, ← hN, ← hn, Nat.add_mul]
  have HN := hide hN
  have HN0 := hide hN0
  have HN1 := hide hN1
  have Hn := hide hn
  have HN01 := hide hN01
  have hN0b : N0 ≤ 33554432 := by omega
  have hN1b : N1 ≤ 33554432 := by omega
  clear hN hN0 hN1 hn hN01
  by_cases hb : N ≤ 1048576
  rotate_left
  · go_wp2_with fail
    go_ret
    exact ⟨rfl, Below.refl _ _⟩
  go_wp2_with (at_make; refine wpList_make_own _ rfl _ _ 28 rfl w'.heap.size 9 i0 (.string ⟨#[]⟩) 1 Try.underlying28 hi hz0 hz1 _ _ _ n rfl rfl rfl (by rw [hz2]; omega) (by unfold maxLen; omega) (Nat.le_refl _) ?_)
  intro w1 hown1 hg1
  have I0 := SInv.start hown1 hg1
  clear hown1 hg1
  go_wp2
  go_loopw [11, 12] (fun ov iv wr => ∃ k : Nat, k ≤ n0 ∧ ov = .slice (some ⟨w'.heap.size, 0, none⟩) k n ∧ iv = .int .i64 k ∧ SInv w' wr n (L0.take k)) (fun _ iv _ => n0 - (intOf iv).toNat)
  case atStart => exact ⟨0, Nat.zero_le _, rfl, rfl, I0⟩
  case round =>
  clear I0
  obtain ⟨k, hk, rfl, rfl, hI⟩ := hrel
  by_cases hlt : k < n0
  · have hk' : k < L0.length := by rw [H0.out.hlen]; exact hlt
    have hkl : (L0.take k).length = k := by rw [List.length_take]; omega
    obtain ⟨b, off, rfl, hbb, hc⟩ := H0.out.cells (by omega)
    have hcell := (hI.bel.cell (p := ⟨b, off + k, none⟩) hbb).trans (hc k hk')
    clear hc
    obtain ⟨l, hl⟩ : ∃ l, L0.take k = l := ⟨_, rfl⟩
    obtain ⟨s, hs⟩ : ∃ s, L0[k] = s := ⟨_, rfl⟩
    rw [hl] at hI hkl
    rw [hs] at hcell
    have HL := hide hl
    have HS := hide hs
    have hkn : k + 1 ≤ n := by omega
    clear hl hs
    have hown := hI.own
    rw [hkl] at hown
    have HKL := hide hkl
    clear hkl
    go_wp2_with (at_builtin; refine wpList_append_fits _ rfl _ _ 28 rfl w'.heap.size 9 i0 1 Try.underlying28 hi hz1 w'.heap.size k n _ rfl (hown.alloc _) ⟨wr.heap.size, 0, none⟩ 1 1 [.string s] rfl rfl new1_at (new1_one _) hkn ?_)
    intro w2 hown2 hg2
    have R : SInv w' w2 n (l ++ [s]) := hI.step _ (by rw [HKL.out]; exact hown2) hg2
    clear hown2 hg2 hown hcell hI
    go_wp2
    go_roundw
    case rel => exact ⟨k + 1, by omega, rfl, by go_num, by rw [List.take_succ_eq_append_getElem hk', HS.out, HL.out]; exact R⟩
    case measure => simp [intOf]; omega
  rw [show L0.take k = L0 from List.take_of_length_le (by rw [H0.out.hlen]; omega)] at hI
  obtain rfl : k = n0 := by omega
  clear hlt hk
  go_wp2
  go_loopw [11, 13] (fun ov iv wr => ∃ j : Nat, j ≤ n1 ∧ ov = .slice (some ⟨w'.heap.size, 0, none⟩) (k + j) n ∧ iv = .int .i64 j ∧ SInv w' wr n (L0 ++ L1.take j)) (fun _ iv _ => n1 - (intOf iv).toNat)
  case atStart => exact ⟨0, Nat.zero_le _, rfl, rfl, by simpa using hI⟩
  case round =>
  clear hI
  obtain ⟨j, hj, rfl, rfl, hI⟩ := hrel
  by_cases hlt : j < n1
  · have hj' : j < L1.length := by rw [H1.out.hlen]; exact hlt
    have hkl : (L0 ++ L1.take j).length = k + j := by rw [List.length_append, List.length_take, H0.out.hlen]; omega
    obtain ⟨b, off, rfl, hbb, hc⟩ := H1.out.cells (by omega)
    have hcell := (hI.bel.cell (p := ⟨b, off + j, none⟩) hbb).trans (hc j hj')
    clear hc
    obtain ⟨l, hl⟩ : ∃ l, L0 ++ L1.take j = l := ⟨_, rfl⟩
    obtain ⟨s, hs⟩ : ∃ s, L1[j] = s := ⟨_, rfl⟩
    rw [hl] at hI hkl
    rw [hs] at hcell
    have HL := hide hl
    have HS := hide hs
    have hkn : k + j + 1 ≤ n := by have := Hn.out; omega
    clear hl hs
    have hown := hI.own
    rw [hkl] at hown
    have HKL := hide hkl
    clear hkl
    go_wp2_with (at_builtin; refine wpList_append_fits _ rfl _ _ 28 rfl w'.heap.size 9 i0 1 Try.underlying28 hi hz1 w'.heap.size (k + j) n _ rfl (hown.alloc _) ⟨wr.heap.size, 0, none⟩ 1 1 [.string s] rfl rfl new1_at (new1_one _) hkn ?_)
    intro w2 hown2 hg2
    have R : SInv w' w2 n (l ++ [s]) := hI.step _ (by rw [HKL.out]; exact hown2) hg2
    clear hown2 hg2 hown hcell hI
    go_wp2
    go_roundw
    case rel => exact ⟨j + 1, by omega, rfl, by go_num, by rw [List.take_succ_eq_append_getElem hj', ← List.append_assoc, HS.out, HL.out]; exact R⟩
    case measure => simp [intOf]; omega
  rw [show L1.take j = L1 from List.take_of_length_le (by rw [H1.out.hlen]; omega)] at hI
  obtain rfl : j = n1 := by omega
  clear hlt hj
  have hLL : (L0 ++ L1).length = k + j := by rw [List.length_append, H0.out.hlen, H1.out.hlen]
  have SO : Hid (Strs wr.heap.size wr (some ⟨w'.heap.size, 0, none⟩) (k + j) (L0 ++ L1)) := by
    rw [← hLL]
    refine hI.strs (fun s hs => ?_) (by rw [hLL]; unfold maxLen; omega)
    rcases List.mem_append.1 hs with h | h
    · exact H0.out.sizes s h
    · exact H1.out.sizes s h
  have K0 := hide (H0.out.keep hI.bel (Nat.le_refl _))
  have K1 := hide (H1.out.keep hI.bel (Nat.le_refl _))
  have K2 := hide (H2.out.keep hI.bel (Nat.le_refl _))
  have HB := hide hI.bel
  have HLL := hide hLL
  clear hLL hI H0 H1 H2 hi hz0 hz1 hz2 i0
  go_wp2_with fail
  refine (zz_plat (some ⟨w'.heap.size, 0, none⟩) a2 (k + j) n n2 c2 N (L0 ++ L1) L2 _ SO.out (K2.out.wider HB.out.size) (by omega) (by omega) (by rw [Hn.out]; exact HN.out)).mono ?_
  rintro e wA ⟨aw, cw, rfl, hpw, hbA⟩
  have PW := hide hpw
  have BA := hide hbA
  clear hpw hbA
  go_wp2_with fail
  refine (zz_plat a0 a2 k c0 n2 c2 N0 L0 L2 _ ((K0.out.keep BA.out HB.out.size).wider (Nat.le_trans HB.out.size BA.out.size)) ((K2.out.keep BA.out HB.out.size).wider (Nat.le_trans HB.out.size BA.out.size)) (by omega) (by omega) HN0.out).mono ?_
  rintro e wB ⟨ap, cp, rfl, hpp, hbB⟩
  have PA := hide hpp
  have BB := hide (BA.out.trans (hbB.mono BA.out.size))
  have PW2 := hide (PW.out.keep hbB)
  clear hpp hbB PW BA
  go_wp2_with fail
  refine (zz_plat a1 a2 j c1 n2 c2 N1 L1 L2 _ ((K1.out.keep BB.out HB.out.size).wider (Nat.le_trans HB.out.size BB.out.size)) ((K2.out.keep BB.out HB.out.size).wider (Nat.le_trans HB.out.size BB.out.size)) (by omega) (by omega) HN1.out).mono ?_
  rintro e wC ⟨aq, cq, rfl, hpq, hbC⟩
  have PB := hide hpq
  have BC := hide (BB.out.trans (hbC.mono BB.out.size))
  have PW := hide (PW2.out.keep hbC)
  have PA2 := hide (PA.out.keep hbC)
  clear hpq hbC PW2 PA BB
  have SC := hide (SO.out.keep BC.out (Nat.le_refl _))
  have S2 := hide (K2.out.keep BC.out HB.out.size)
  have HW := hide (HB.out.trans (BC.out.mono HB.out.size))
  clear SO K0 K1 K2
  have hpl : plats (L0 ++ L1) L2 = plats L0 L2 ++ plats L1 L2 := by simp [plats]
  have HPL := hide hpl
  clear hpl
  go_wp2
  go_loopw [17] (fun iv wr => ∃ t : Nat, t ≤ N0 ∧ iv = .int .i64 t ∧ Below wC.heap.size wC wr) (fun iv _ => N0 - (intOf iv).toNat)
  case atStart => exact ⟨0, Nat.zero_le _, rfl, Below.refl _ _⟩
  case round =>
  obtain ⟨t, ht, rfl, hI⟩ := hrel
  by_cases hlt : t < N0
  · obtain ⟨q, hq⟩ : ∃ q, (plats L0 L2)[t]? = some q := ⟨_, List.getElem?_eq_getElem (by rw [PA2.out.hlen]; exact hlt)⟩
    have hq2 : (plats (L0 ++ L1) L2)[t]? = some q := by rw [HPL.out, List.getElem?_append_left (by rw [PA2.out.hlen]; exact hlt)]; exact hq
    obtain ⟨g1, rfl, hg1, e1, e2⟩ := PA2.out.at hq
    obtain ⟨g2, rfl, hg2, e3, e4⟩ := PW.out.at hq2
    have hlN : t < N := by have := HN01.out; omega
    have d1 := (hI.cell (p := ⟨g1, t * 2, none⟩) hg1).trans e1
    have d2 := (hI.cell (p := ⟨g1, t * 2 + 1, none⟩) hg1).trans e2
    have d3 := (hI.cell (p := ⟨g2, t * 2, none⟩) hg2).trans e3
    have d4 := (hI.cell (p := ⟨g2, t * 2 + 1, none⟩) hg2).trans e4
    have HI := hide hI
    clear e1 e2 e3 e4 hq hq2 hI
    obtain ⟨q1, q2⟩ := q
    simp only at d1 d2 d3 d4
    have il1 : (t : Int) < (N0 : Int) := by omega
    have il2 : (t : Int) < (N : Int) := by omega
    go_wp2
    go_quiet (fail)
    go_wp2
    go_roundw
    case rel => exact ⟨t + 1, by omega, by go_num, below_drewN HI.out _⟩
    case measure => simp [intOf]; omega
  have HI3 := hide hI
  clear hI
  go_wp2
  go_loopw [18] (fun iv wr => ∃ t : Nat, t ≤ N1 ∧ iv = .int .i64 t ∧ Below wC.heap.size wC wr) (fun iv _ => N1 - (intOf iv).toNat)
  case atStart => exact ⟨0, Nat.zero_le _, rfl, HI3.out⟩
  case round =>
  clear HI3
  obtain ⟨t4, ht4, rfl, hI⟩ := hrel
  by_cases hlt4 : t4 < N1
  · obtain ⟨q, hq⟩ : ∃ q, (plats L1 L2)[t4]? = some q := ⟨_, List.getElem?_eq_getElem (by rw [PB.out.hlen]; exact hlt4)⟩
    have hq2 : (plats (L0 ++ L1) L2)[N0 + t4]? = some q := by rw [HPL.out, List.getElem?_append_right (by rw [PA2.out.hlen]; omega), PA2.out.hlen, Nat.add_sub_cancel_left]; exact hq
    obtain ⟨g1, rfl, hg1, e1, e2⟩ := PB.out.at hq
    obtain ⟨g2, rfl, hg2, e3, e4⟩ := PW.out.at hq2
    have hlN : N0 + t4 < N := by have := HN01.out; omega
    have d1 := (hI.cell (p := ⟨g1, t4 * 2, none⟩) hg1).trans e1
    have d2 := (hI.cell (p := ⟨g1, t4 * 2 + 1, none⟩) hg1).trans e2
    have d3 := (hI.cell (p := ⟨g2, (N0 + t4) * 2, none⟩) hg2).trans e3
    have d4 := (hI.cell (p := ⟨g2, (N0 + t4) * 2 + 1, none⟩) hg2).trans e4
    have HI := hide hI
    clear e1 e2 e3 e4 hq hq2 hI
    obtain ⟨q1, q2⟩ := q
    simp only at d1 d2 d3 d4
    have il1 : (t4 : Int) < (N1 : Int) := by omega
    have il2 : (N0 : Int) + (t4 : Int) < (N : Int) := by omega
    go_wp2
    go_quiet (fail)
    go_wp2
    go_roundw
    case rel => exact ⟨t4 + 1, by omega, by go_num, below_drewN HI.out _⟩
    case measure => simp [intOf]; omega
  have HI4 := hide hI
  clear hI
  go_wp2
  go_loopw [19] (fun xv wr => ∃ x : Nat, x ≤ n ∧ xv = .int .i64 x ∧ Below wC.heap.size wC wr) (fun xv _ => n - (intOf xv).toNat)
  case atStart => exact ⟨0, Nat.zero_le _, rfl, HI4.out⟩
  case round =>
  clear HI4
  obtain ⟨x, hx, rfl, hI⟩ := hrel
  by_cases hxl : x < n
  · have hx' : x < (L0 ++ L1).length := by rw [HLL.out, Hn.out]; exact hxl
    obtain ⟨b0, off0, hab, hb0, hc0⟩ := SC.out.cells (by have := Hn.out; omega)
    obtain ⟨rfl, rfl⟩ : w'.heap.size = b0 ∧ off0 = 0 := by simp only [Option.some.injEq, Addr.mk.injEq] at hab; exact ⟨hab.1, hab.2.1.symm⟩
    have dx := (hI.cell (p := ⟨w'.heap.size, 0 + x, none⟩) (Nat.lt_of_lt_of_le hb0 BC.out.size)).trans (hc0 x hx')
    rw [Nat.zero_add] at dx
    obtain ⟨sx, hsx⟩ : ∃ sx, (L0 ++ L1)[x] = sx := ⟨_, rfl⟩
    rw [hsx] at dx
    have HSX := hide hsx
    have HI5 := hide hI
    clear hab hc0 hsx hI
    have ix : (x : Int) < (n : Int) := by omega
    go_wp2_with fail
    refine (goos_any sx _).mono ?_
    rintro e wd ⟨rfl, rfl⟩
    clear dx
    go_wp2
    obtain ⟨gx, hgx⟩ : ∃ gx, goos sx = gx := ⟨_, rfl⟩
    rw [hgx]
    have HGX := hide hgx
    clear hgx
    go_loopw [21] (fun yv wr => ∃ y : Nat, y ≤ n2 ∧ yv = .int .i64 y ∧ Below wC.heap.size wC wr) (fun yv _ => n2 - (intOf yv).toNat)
    case atStart => exact ⟨0, Nat.zero_le _, rfl, HI5.out⟩
    case round =>
    clear HI5
    obtain ⟨y, hy, rfl, hI⟩ := hrel
    by_cases hyl : y < n2
    · have hy' : y < L2.length := by rw [S2.out.hlen]; exact hyl
      obtain ⟨b1, off1, rfl, hb1, hc1⟩ := S2.out.cells (by omega)
      have q1 := plats_at (L0 ++ L1) L2 x y hx' hy'
      rw [S2.out.hlen] at q1
      obtain ⟨xm, hxm⟩ : ∃ xm : Nat, x * n2 = xm := ⟨_, rfl⟩
      rw [hxm, HSX.out, HGX.out] at q1
      obtain ⟨g1, rfl, hg1, e1, e2⟩ := PW.out.at q1
      have hi1 : xm + y < N := by rw [← PW.out.hlen]; exact (List.getElem?_eq_some_iff.1 q1).1
      have hxm' : (x : Int) * (n2 : Int) = (xm : Int) := by rw [← hxm]; simp
      have d1 := (hI.cell (p := ⟨b1, off1 + y, none⟩) (Nat.lt_of_lt_of_le hb1 HW.out.size)).trans (hc1 y hy')
      have d2 := (hI.cell (p := ⟨g1, (xm + y) * 2, none⟩) hg1).trans e1
      have d3 := (hI.cell (p := ⟨g1, (xm + y) * 2 + 1, none⟩) hg1).trans e2
      have k1 : b1 < wr.heap.size := Nat.lt_of_lt_of_le hb1 (Nat.le_trans HW.out.size hI.size)
      have k2 : g1 < wr.heap.size := Nat.lt_of_lt_of_le hg1 hI.size
      have HI6 := hide hI
      clear hc1 q1 e1 e2 hxm hb1 hg1 hI
      simp only at d2 d3
      generalize L2[y] = s1 at *
      have iy : (y : Int) < (n2 : Int) := by omega
      have ixy : (xm : Int) + (y : Int) < (N : Int) := by omega
      go_wp2
      go_quiet (fail)
      go_wp2
      go_roundw
      case rel => exact ⟨y + 1, by omega, by go_num, below_drewN (HI6.out.alloc HI6.out.size _) _⟩
      case measure => simp [intOf]; omega
    · go_wp2
      go_roundw
      case rel => exact ⟨x + 1, by omega, by go_num, hI⟩
      case measure => simp [intOf]; omega
  go_wp2
  go_ret
  exact ⟨rfl, HW.out.trans (hI.mono HW.out.size)⟩
end Go.Proofs.Qxb6621630a.Pl
