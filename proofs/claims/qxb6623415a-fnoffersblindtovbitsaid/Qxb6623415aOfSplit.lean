/-
  The walk of the law 'FnOffersSplitAndInsert' (3).
-/
import Derived.Test.Qxb6623415aOfInsert
import Derived.Laws.CopyOwn
import Derived.Deep.CutRange
namespace Go.Proofs.Qxb6623415a.Of
open Go.ChangeShapes Go.WideShapes Go.ChangeAt Go.RowKit

theorem zz_r (r : Bool) (oa va da : Option Addr) (no co n c nd cd : Nat) (V : List Int) (t : Int) (w : World) (hV : Bys w.heap.size w va n V) (hnil : va = none → n = 0 ∧ c = 0) (hD : Dat w.heap.size w da nd) (hn : n ≤ 4194304) (hr : offersB V t = r) :
    Calls Try.prog 7 #[.slice oa no co, .slice va n c, .slice da nd cd, .int .u8 t] w fun e w' => e = .returned (.bool r) ∧ Below w.heap.size w w' := by
  rw [← hr]; exact zz_any oa va da no co n c nd cd V t w hV hnil hD hn

theorem info5s : (Try.prog.info? 5).map (·.size) = some 1 := by kernel_rfl

theorem RInv.block {g : Nat} {w wr : World} {m : Nat} {L : List Int} (h : RInv g w wr m L) : ∃ cur : List Value, cur.length = m ∧ wr.heap[g]? = some (.cells cur.toArray 5 (0, 0)) := by
  rcases h.own.2 with ⟨h', _⟩ | ⟨g', cap, cur, h', _, hg, _, _, hs, _⟩
  · simp at h'
  · simp only [Value.slice.injEq, Option.some.injEq, Addr.mk.injEq, and_true, true_and] at h'
    obtain ⟨rfl, rfl⟩ := h'
    exact ⟨cur.toList, by simpa using hs, by simpa using hg⟩

theorem intV_length (V : List Int) : (intV V).length = V.length := by simp [intV]
theorem intV_one (V : List Int) : ∀ v ∈ intV V, v.oneCell' = true := by
  intro v hv
  simp only [intV, List.mem_map] at hv
  obtain ⟨x, _, rfl⟩ := hv
  rfl
theorem src_of {B : Nat} {w : World} {a : Option Addr} {n : Nat} {V : List Int} (h : Bys B w a n V) (h0 : 0 < (intV V).length) : ∃ ad, a = some ad ∧ ∀ j v, (intV V)[j]? = some v → w.cell? (ad.add j) = some v := by
  rw [intV_length, h.hlen] at h0
  obtain ⟨b, off, rfl, _, hc⟩ := h.cells h0
  refine ⟨_, rfl, fun j v hj => ?_⟩
  rw [intV, List.getElem?_map] at hj
  obtain ⟨x, hx, rfl⟩ := Option.map_eq_some_iff.1 hj
  obtain ⟨hl, rfl⟩ := List.getElem?_eq_some_iff.1 hx
  rw [add_plain]
  exact hc j hl
theorem copied {g : Nat} {w w2 : World} {n : Nat} {V : List Int} {cur : List Value} (h : Hid (w2.heap[g]? = some (.cells (splice cur 0 (intV V)).toArray 5 (0, 0)))) (hcur : cur.length = n) (hV : V.length = n) (hb : Below w.heap.size w w2)
    (hg : w.heap.size ≤ g) (hn : n ≤ maxLen) : RInv g w w2 n V := by
  have e : splice cur 0 (intV V) = intV V := by
    unfold splice
    rw [List.take_zero, List.nil_append, Nat.zero_add, intV_length, hV, List.drop_of_length_le (by omega), List.append_nil]
  have h' : w2.heap[g]? = some (.cells (intV V).toArray 5 (0, 0)) := by rw [← e]; exact h.out
  refine ⟨⟨by rw [intV_length, hV, Nat.mul_one], .inr ⟨g, n, _, rfl, hg, h', Nat.le_refl _, hn, by simp [intV_length, hV], ?_⟩⟩, hb⟩
  rw [List.take_of_length_le (by simp [intV_length, hV])]

theorem copy_run {g : Nat} {w w1 : World} {n c B : Nat} {L V : List Int} {a : Option Addr} (h : RInv g w w1 n L) (hV : Bys B w1 a n V) :
    ∃ w2, (Builtin.copy_ #[22, 22] 3 #[.slice (some ⟨g, 0, none⟩) n n, .slice a n c]).run Try.prog w1 = .ok (goInt n) w2 ∧ RInv g w w2 n V := by
  by_cases h0 : n = 0
  · subst h0
    have hl := hV.hlen
    obtain rfl : V = [] := List.eq_nil_of_length_eq_zero hl
    have hl2 := h.hlen
    obtain rfl : L = [] := List.eq_nil_of_length_eq_zero hl2
    exact ⟨w1, run_copy_none w1 22 22 3 5 (some ⟨g, 0, none⟩) a 0 0 0 c Try.underlying22 info5s rfl, h⟩
  · obtain ⟨cur, hcur, hblk⟩ := h.block
    have hlen : (intV V).length = n := by rw [intV_length, hV.hlen]
    obtain ⟨ad, rfl, hsrc⟩ := src_of hV (by omega)
    have hr := run_copy_row (P := Try.prog) w1 22 22 3 5 g 0 n n ad n c cur.toArray 5 (intV V) Try.underlying22 info5s hblk (by rw [hlen]; exact (Nat.min_self _).symm) hsrc (by simp; omega) (intV_one V)
    rw [hlen] at hr
    refine ⟨_, hr, ?_⟩
    have hb2 : Below w.heap.size w (w1.setRow g (cur.toArray.toList.take 0 ++ (intV V ++ cur.toArray.toList.drop (0 + n))).toArray) := below_setRow h.bel h.low.1 _
    refine copied (cur := cur) ?_ hcur hV.hlen hb2 h.low.1 hV.few
    show _ = _
    have := setRow_heap w1 g _ (cur.toArray.toList.take 0 ++ (intV V ++ cur.toArray.toList.drop (0 + n))).toArray 5 _ hblk
    simpa [splice, hlen] using this

theorem Bys.left {B : Nat} {w : World} {g n : Nat} {V : List Int} (h : Bys B w (some ⟨g, 0, none⟩) n V) (k : Nat) (hk : k ≤ n) : Bys B w (some ⟨g, 0, none⟩) k (V.take k) := by
  refine ⟨by rw [List.length_take, h.hlen]; omega, fun h0 => ?_, fun v hv => h.rng v (List.mem_of_mem_take hv), by have := h.few; omega⟩
  obtain ⟨b, off, e, hb, hc⟩ := h.cells (by omega)
  refine ⟨b, off, e, hb, fun j hj => ?_⟩
  rw [List.getElem_take]
  exact hc j (by rw [List.length_take] at hj; omega)
theorem Bys.right {B : Nat} {w : World} {g n : Nat} {V : List Int} (h : Bys B w (some ⟨g, 0, none⟩) n V) (k : Nat) (hk : k ≤ n) (a : Option Addr) (ha : k < n → a = some ⟨g, k, none⟩) : Bys B w a (n - k) (V.drop k) := by
  refine ⟨by rw [List.length_drop, h.hlen], fun h0 => ?_, fun v hv => h.rng v (List.mem_of_mem_drop hv), by have := h.few; omega⟩
  obtain ⟨b, off, e, hb, hc⟩ := h.cells (by omega)
  simp only [Option.some.injEq, Addr.mk.injEq, and_true] at e
  obtain ⟨rfl, rfl⟩ := e
  refine ⟨g, k, ha (by omega), hb, fun j hj => ?_⟩
  rw [List.getElem_drop]
  have := hc (k + j) (by rw [List.length_drop] at hj; omega)
  rw [Nat.zero_add] at this
  exact this

theorem bys_nil (B : Nat) (w : World) : Bys B w none 0 [] := ⟨rfl, fun h => by omega, fun v h => by simp at h, by unfold maxLen; omega⟩
theorem off_whole {V : List Int} {t : Int} {k : Nat} {bL bR : Bool} (hL : offersB (V.take k) t = bL) (hR : offersB (V.drop k) t = bR) : offersB V t = (bL || bR) := by
  rw [← hL, ← hR, ← offersB_append, List.take_append_drop]
theorem off_ins_at (V : List Int) (k : Nat) (v : Int) : offersB (insL V k v) (clr v) = true := by
  simp [insL, offersB, hit]
theorem off_ins {V : List Int} {v t : Int} {k : Nat} {bL bR bH : Bool} (hL : offersB (V.take k) t = bL) (hR : offersB (V.drop k) t = bR) (hH : hit v t = bH) : offersB (insL V k v) t = ((bL || bR) || bH) := by
  have e : offersB (v :: V.drop k) t = (bH || bR) := by rw [← hH, ← hR]; rfl
  rw [insL, offersB_append, hL, e]
  cases bL <;> cases bR <;> cases bH <;> rfl
theorem ins_rng {V : List Int} {v : Int} (hV : ∀ x ∈ V, 0 ≤ x ∧ x ≤ 255) (hv : 0 ≤ v ∧ v ≤ 255) (k : Nat) : ∀ x ∈ insL V k v, 0 ≤ x ∧ x ≤ 255 := by
  intro x hx
  simp only [insL, List.mem_append, List.mem_cons] at hx
  rcases hx with h | rfl | h
  · exact hV x (List.mem_of_mem_take h)
  · exact hv
  · exact hV x (List.mem_of_mem_drop h)

/-- what stands behind the two copies. -/
def Vals (w wx : World) (a2 : Option Addr) (n2 : Nat) (V : List Int) (n1 : Nat) (vv : Value) : Prop :=
  ∃ va vc, vv = .slice va n1 vc ∧ ((va = none ∧ n1 = 0 ∧ vc = 0) ∨ (∃ g, va = some ⟨g, 0, none⟩ ∧ n1 = vc)) ∧ Bys wx.heap.size wx va n1 V ∧ Below w.heap.size w wx ∧ Dat w.heap.size wx a2 n2

set_option maxRecDepth 100000 in
set_option maxHeartbeats 3200000 in
theorem split_any (a0 a1 a2 : Option Addr) (n0 c0 n1 c1 n2 c2 : Nat) (U V : List Int) (t cut v : Int) (w : World) (hU : Bys w.heap.size w a0 n0 U) (hV : Bys w.heap.size w a1 n1 V) (hD : Dat w.heap.size w a2 n2)
    (q0 : a0 = none → n0 = 0 ∧ c0 = 0) (q1 : a1 = none → n1 = 0 ∧ c1 = 0) (hv : 0 ≤ v ∧ v ≤ 255) :
    Calls Try.prog 3 #[.slice a0 n0 c0, .slice a1 n1 c1, .slice a2 n2 c2, .int .u8 t, .int .i64 cut, .int .u8 v] w fun e w' => e = .returned (.bool true) ∧ Below w.heap.size w w' := by
  obtain ⟨i0, hi, hz0, hz1, hz2⟩ := info_parts info5
  have HU := hide hU
  have HV := hide hV
  have HD := hide hD
  have Q0 := hide q0
  have Q1 := hide q1
  clear hU hV hD q0 q1
  go_enter Try.func3, Try.ntmps3
  go_wp2_with fail
  refine (bytesS_any a0 a1 a2 n0 c0 n1 c1 n2 c2 _ t cut v _ HU.out.few HV.out.few HD.out).mono ?_
  rintro e w' ⟨⟨b, rfl⟩, rfl⟩
  cases b
  · go_wp2_with fail
    go_ret
    exact ⟨rfl, Below.refl _ _⟩
  go_wp2_with fail
  refine (big_any a0 a1 a2 n0 c0 n1 c1 n2 c2 _ _ HU.out.few HV.out.few HD.out).mono ?_
  rintro e w' ⟨hbig, rfl⟩
  rcases hbig with rfl | ⟨rfl, hsm⟩
  · go_wp2_with fail
    go_ret
    exact ⟨rfl, Below.refl _ _⟩
  by_cases hc0 : 0 ≤ cut
  rotate_left
  · go_wp2_with fail
    go_ret
    exact ⟨rfl, Below.refl _ _⟩
  obtain ⟨k, rfl⟩ := Int.eq_ofNat_of_zero_le hc0
  by_cases hc1 : k ≤ n1
  rotate_left
  · go_wp2_with fail
    go_ret
    exact ⟨rfl, Below.refl _ _⟩
  obtain ⟨bL, hbL⟩ : ∃ b, offersB (V.take k) t = b := ⟨_, rfl⟩
  obtain ⟨bR, hbR⟩ : ∃ b, offersB (V.drop k) t = b := ⟨_, rfl⟩
  obtain ⟨bH, hbH⟩ : ∃ b, hit v t = b := ⟨_, rfl⟩
  have HW := hide (off_whole hbL hbR)
  have HAT := hide (off_ins_at V k v)
  have HIT := hide (off_ins hbL hbR hbH)
  have HL := hide hbL
  have HR := hide hbR
  have HH : Hid ((bits BinOp.andNot IntKind.u8 v 128 == t) = bH) := hbH
  have HRNG := hide (ins_rng HV.out.rng hv k)
  clear hbL hbR hbH
  have hnn0 := fun w => run_neq_slice_nil_any (P := Try.prog) w 22 5 a0 n0 c0 0 0 Try.underlying22
  have hnn1 := fun w => run_neq_slice_nil_any (P := Try.prog) w 22 5 a1 n1 c1 0 0 Try.underlying22
  go_upto_if 44 with fail
  go_cut [0, 13] from 23 (fun ov zv wx => ∃ oa oc, ov = .slice oa n0 oc ∧ Below w'.heap.size w' wx)
  case first =>
    cases a0 with
    | none =>
      go_wp2_with fail
      go_meet
      case rel => exact ⟨none, c0, rfl, Below.refl _ _⟩
    | some ad =>
      go_wp2_with (at_make; refine wpList_make_full _ rfl _ _ 22 rfl w'.heap.size 5 i0 (.int .u8 0) 1 Try.underlying22 hi hz0 hz1 _ _ _ _ n0 rfl rfl rfl rfl (by rw [hz2]; omega) (by unfold maxLen; omega) (Nat.le_refl _) ?_)
      intro w1 hown hg
      have I0 := RInv.start hown hg
      clear hown hg
      obtain ⟨w2, hrun, R⟩ := copy_run (c := c0) I0 (HU.out.keep I0.bel (Nat.le_refl _))
      have HB2 := hide R.bel
      clear I0 R
      go_wp2_with fail
      go_meet
      case rel => exact ⟨_, _, rfl, HB2.out⟩
  case rest =>
  obtain ⟨oa, oc, rfl, hwc⟩ := hcut
  have HWC := hide hwc
  have HV2 := hide (HV.out.keep hwc (Nat.le_refl _))
  have HD2 := hide (HD.out.keep hwc (Nat.le_refl _))
  clear hwc HV HD
  go_upto_if 53 with fail
  go_cut [1, 14] from 23 (fun vv zv wx => Vals w' wx a2 n2 V n1 vv)
  case first =>
    cases a1 with
    | none =>
      obtain ⟨rfl, rfl⟩ := Q1.out rfl
      go_wp2_with fail
      go_meet
      case rel => exact ⟨none, 0, rfl, .inl ⟨rfl, rfl, rfl⟩, HV2.out.wider HWC.out.size, HWC.out, HD2.out⟩
    | some ad =>
      go_wp2_with (at_make; refine wpList_make_full _ rfl _ _ 22 rfl wc.heap.size 5 i0 (.int .u8 0) 1 Try.underlying22 hi hz0 hz1 _ _ _ _ n1 rfl rfl rfl rfl (by rw [hz2]; omega) (by unfold maxLen; omega) (Nat.le_refl _) ?_)
      intro w1 hown hg
      have I0 := RInv.start hown hg
      clear hown hg
      obtain ⟨w2, hrun, R⟩ := copy_run (c := c1) I0 ((HV2.out.wider HWC.out.size).keep I0.bel (Nat.le_refl _))
      have HR := hide R
      clear I0 R
      go_wp2_with fail
      go_meet
      case rel => exact ⟨_, _, rfl, .inr ⟨_, rfl, rfl⟩, HR.out.bys HV2.out.rng HV2.out.few, HWC.out.trans (HR.out.bel.mono HWC.out.size), HD2.out.keep HR.out.bel HWC.out.size⟩
  case rest =>
  obtain ⟨va, vc, rfl, hva, hby, hbe, hda⟩ := hcut
  have HB := hide hbe
  have HY := hide hby
  have HDD := hide hda
  clear hbe hby hda HV2 HD2 HWC HU hi hz0 hz1 hz2 hnn0 hnn1
  rcases hva with ⟨rfl, rfl, rfl⟩ | ⟨g, rfl, rfl⟩
  · obtain rfl : k = 0 := by omega
    have HYL := hide (show Bys wc.heap.size wc none 0 (V.take 0) from by rw [List.take_zero]; exact bys_nil _ _)
    have HYR := hide (show Bys wc.heap.size wc none 0 (V.drop 0) from by rw [List.drop_zero]; exact HY.out)
    go_wp2_with fail
    refine (zz_r false oa none none n0 oc 0 0 0 0 [] t _ (bys_nil _ _) (fun _ => ⟨rfl, rfl⟩) (Dat.nil _ _) (by omega) rfl).mono ?_
    rintro e w1 ⟨rfl, hb1⟩
    have B1 := hide hb1
    clear hb1
    go_wp2_with fail
    refine (zz_r (bL || bR) oa none a2 n0 oc 0 0 n2 c2 V t _ ((HY.out.keep B1.out (Nat.le_refl _)).wider B1.out.size) (fun _ => ⟨rfl, rfl⟩) ((HDD.out.keep B1.out HB.out.size).wider (Nat.le_trans HB.out.size B1.out.size)) (by omega) HW.out).mono ?_
    rintro e w2 ⟨rfl, hb2⟩
    have B2 := hide (B1.out.trans (hb2.mono B1.out.size))
    clear hb2 B1
    go_wp2_with fail
    refine (zz_r bL oa none none n0 oc 0 0 0 0 (V.take 0) t _ ((HYL.out.keep B2.out (Nat.le_refl _)).wider B2.out.size) (fun _ => ⟨rfl, rfl⟩) (Dat.nil _ _) (by omega) HL.out).mono ?_
    rintro e w3 ⟨rfl, hb3⟩
    have B3 := hide (B2.out.trans (hb3.mono B2.out.size))
    clear hb3 B2
    go_wp2_with fail
    refine (zz_r bR none none none 0 0 0 0 0 0 (V.drop 0) t _ ((HYR.out.keep B3.out (Nat.le_refl _)).wider B3.out.size) (fun _ => ⟨rfl, rfl⟩) (Dat.nil _ _) (by omega) HR.out).mono ?_
    rintro e w4 ⟨rfl, hb4⟩
    have B4 := hide (B3.out.trans (hb4.mono B3.out.size))
    clear hb4 B3
    go_wp2_with fail
    refine (ins_any none 0 0 0 V v _ ((HY.out.keep B4.out (Nat.le_refl _)).wider B4.out.size) (by omega) (by omega)).mono ?_
    rintro e w5 ⟨rfl, hr5⟩
    have B5 := hide (B4.out.trans (hr5.bel.mono B4.out.size))
    have Y5 := hide (hr5.bys HRNG.out (by unfold maxLen; omega))
    clear hr5
    go_wp2_with fail
    refine (zz_r true oa (some ⟨w4.heap.size, 0, none⟩) a2 n0 oc 1 1 n2 c2 (insL V 0 v) (bits BinOp.andNot IntKind.u8 v 128) _ Y5.out (fun h => by cases h) ((HDD.out.keep B5.out HB.out.size).wider (Nat.le_trans HB.out.size B5.out.size)) (by omega) HAT.out).mono ?_
    rintro e w6 ⟨rfl, hb6⟩
    have B6 := hide (B5.out.trans (hb6.mono B5.out.size))
    have Y6 := hide ((Y5.out.keep hb6 (Nat.le_refl _)).wider hb6.size)
    clear hb6 B5 Y5
    go_wp2_with fail
    refine (zz_r ((bL || bR) || bH) oa (some ⟨w4.heap.size, 0, none⟩) a2 n0 oc 1 1 n2 c2 (insL V 0 v) t _ Y6.out (fun h => by cases h) ((HDD.out.keep B6.out HB.out.size).wider (Nat.le_trans HB.out.size B6.out.size)) (by omega) HIT.out).mono ?_
    rintro e w7 ⟨rfl, hb7⟩
    have B7 := hide (HB.out.trans ((B6.out.trans (hb7.mono B6.out.size)).mono HB.out.size))
    clear hb7 B6 Y6 B4
    have hBH := HH.out
    cases bL <;> cases bR <;> cases bH <;> (go_wp2; go_ret; exact ⟨rfl, B7.out⟩)
  · by_cases hkn : k < n1
    · have HYL := hide (HY.out.left k hc1)
      have HYR := hide (HY.out.right k hc1 (some ⟨g, k, none⟩) (fun _ => rfl))
      go_wp2_with fail
      refine (zz_r false oa none none n0 oc 0 0 0 0 [] t _ (bys_nil _ _) (fun _ => ⟨rfl, rfl⟩) (Dat.nil _ _) (by omega) rfl).mono ?_
      rintro e w1 ⟨rfl, hb1⟩
      have B1 := hide hb1
      clear hb1
      go_wp2_with fail
      refine (zz_r (bL || bR) oa (some ⟨g, 0, none⟩) a2 n0 oc n1 n1 n2 c2 V t _ ((HY.out.keep B1.out (Nat.le_refl _)).wider B1.out.size) (fun h => by cases h) ((HDD.out.keep B1.out HB.out.size).wider (Nat.le_trans HB.out.size B1.out.size)) (by omega) HW.out).mono ?_
      rintro e w2 ⟨rfl, hb2⟩
      have B2 := hide (B1.out.trans (hb2.mono B1.out.size))
      clear hb2 B1
      go_wp2_with fail
      refine (zz_r bL oa (some ⟨g, 0, none⟩) none n0 oc k n1 0 0 (V.take k) t _ ((HYL.out.keep B2.out (Nat.le_refl _)).wider B2.out.size) (fun h => by cases h) (Dat.nil _ _) (by omega) HL.out).mono ?_
      rintro e w3 ⟨rfl, hb3⟩
      have B3 := hide (B2.out.trans (hb3.mono B2.out.size))
      clear hb3 B2
      go_wp2_with fail
      refine (zz_r bR none (some ⟨g, k, none⟩) none 0 0 (n1 - k) (n1 - k) 0 0 (V.drop k) t _ ((HYR.out.keep B3.out (Nat.le_refl _)).wider B3.out.size) (fun h => by cases h) (Dat.nil _ _) (by omega) HR.out).mono ?_
      rintro e w4 ⟨rfl, hb4⟩
      have B4 := hide (B3.out.trans (hb4.mono B3.out.size))
      clear hb4 B3
      go_wp2_with fail
      refine (ins_any (some ⟨g, 0, none⟩) n1 n1 k V v _ ((HY.out.keep B4.out (Nat.le_refl _)).wider B4.out.size) (by omega) (by omega)).mono ?_
      rintro e w5 ⟨rfl, hr5⟩
      have B5 := hide (B4.out.trans (hr5.bel.mono B4.out.size))
      have Y5 := hide (hr5.bys HRNG.out (by unfold maxLen; omega))
      clear hr5
      go_wp2_with fail
      refine (zz_r true oa (some ⟨w4.heap.size, 0, none⟩) a2 n0 oc (n1 + 1) (n1 + 1) n2 c2 (insL V k v) (bits BinOp.andNot IntKind.u8 v 128) _ Y5.out (fun h => by cases h) ((HDD.out.keep B5.out HB.out.size).wider (Nat.le_trans HB.out.size B5.out.size)) (by omega) HAT.out).mono ?_
      rintro e w6 ⟨rfl, hb6⟩
      have B6 := hide (B5.out.trans (hb6.mono B5.out.size))
      have Y6 := hide ((Y5.out.keep hb6 (Nat.le_refl _)).wider hb6.size)
      clear hb6 B5 Y5
      go_wp2_with fail
      refine (zz_r ((bL || bR) || bH) oa (some ⟨w4.heap.size, 0, none⟩) a2 n0 oc (n1 + 1) (n1 + 1) n2 c2 (insL V k v) t _ Y6.out (fun h => by cases h) ((HDD.out.keep B6.out HB.out.size).wider (Nat.le_trans HB.out.size B6.out.size)) (by omega) HIT.out).mono ?_
      rintro e w7 ⟨rfl, hb7⟩
      have B7 := hide (HB.out.trans ((B6.out.trans (hb7.mono B6.out.size)).mono HB.out.size))
      clear hb7 B6 Y6 B4
      have hBH := HH.out
      cases bL <;> cases bR <;> cases bH <;> (go_wp2; go_ret; exact ⟨rfl, B7.out⟩)
    · obtain rfl : n1 = k := by omega
      have HYL := hide (HY.out.left n1 hc1)
      have HYR := hide (HY.out.right n1 hc1 (some ⟨g, 0, none⟩) (fun h => absurd h (Nat.lt_irrefl _)))
      rw [Nat.sub_self] at HYR
      go_wp2_with fail
      refine (zz_r false oa none none n0 oc 0 0 0 0 [] t _ (bys_nil _ _) (fun _ => ⟨rfl, rfl⟩) (Dat.nil _ _) (by omega) rfl).mono ?_
      rintro e w1 ⟨rfl, hb1⟩
      have B1 := hide hb1
      clear hb1
      go_wp2_with fail
      refine (zz_r (bL || bR) oa (some ⟨g, 0, none⟩) a2 n0 oc n1 n1 n2 c2 V t _ ((HY.out.keep B1.out (Nat.le_refl _)).wider B1.out.size) (fun h => by cases h) ((HDD.out.keep B1.out HB.out.size).wider (Nat.le_trans HB.out.size B1.out.size)) (by omega) HW.out).mono ?_
      rintro e w2 ⟨rfl, hb2⟩
      have B2 := hide (B1.out.trans (hb2.mono B1.out.size))
      clear hb2 B1
      go_wp2_with fail
      refine (zz_r bL oa (some ⟨g, 0, none⟩) none n0 oc n1 n1 0 0 (V.take n1) t _ ((HYL.out.keep B2.out (Nat.le_refl _)).wider B2.out.size) (fun h => by cases h) (Dat.nil _ _) (by omega) HL.out).mono ?_
      rintro e w3 ⟨rfl, hb3⟩
      have B3 := hide (B2.out.trans (hb3.mono B2.out.size))
      clear hb3 B2
      go_wp2_with fail
      refine (zz_r bR none (some ⟨g, 0, none⟩) none 0 0 0 0 0 0 (V.drop n1) t _ ((HYR.out.keep B3.out (Nat.le_refl _)).wider B3.out.size) (fun h => by cases h) (Dat.nil _ _) (by omega) HR.out).mono ?_
      rintro e w4 ⟨rfl, hb4⟩
      have B4 := hide (B3.out.trans (hb4.mono B3.out.size))
      clear hb4 B3
      go_wp2_with fail
      refine (ins_any (some ⟨g, 0, none⟩) n1 n1 n1 V v _ ((HY.out.keep B4.out (Nat.le_refl _)).wider B4.out.size) (by omega) (by omega)).mono ?_
      rintro e w5 ⟨rfl, hr5⟩
      have B5 := hide (B4.out.trans (hr5.bel.mono B4.out.size))
      have Y5 := hide (hr5.bys HRNG.out (by unfold maxLen; omega))
      clear hr5
      go_wp2_with fail
      refine (zz_r true oa (some ⟨w4.heap.size, 0, none⟩) a2 n0 oc (n1 + 1) (n1 + 1) n2 c2 (insL V n1 v) (bits BinOp.andNot IntKind.u8 v 128) _ Y5.out (fun h => by cases h) ((HDD.out.keep B5.out HB.out.size).wider (Nat.le_trans HB.out.size B5.out.size)) (by omega) HAT.out).mono ?_
      rintro e w6 ⟨rfl, hb6⟩
      have B6 := hide (B5.out.trans (hb6.mono B5.out.size))
      have Y6 := hide ((Y5.out.keep hb6 (Nat.le_refl _)).wider hb6.size)
      clear hb6 B5 Y5
      go_wp2_with fail
      refine (zz_r ((bL || bR) || bH) oa (some ⟨w4.heap.size, 0, none⟩) a2 n0 oc (n1 + 1) (n1 + 1) n2 c2 (insL V n1 v) t _ Y6.out (fun h => by cases h) ((HDD.out.keep B6.out HB.out.size).wider (Nat.le_trans HB.out.size B6.out.size)) (by omega) HIT.out).mono ?_
      rintro e w7 ⟨rfl, hb7⟩
      have B7 := hide (HB.out.trans ((B6.out.trans (hb7.mono B6.out.size)).mono HB.out.size))
      clear hb7 B6 Y6 B4
      have hBH := HH.out
      cases bL <;> cases bR <;> cases bH <;> (go_wp2; go_ret; exact ⟨rfl, B7.out⟩)
end Go.Proofs.Qxb6623415a.Of
