/-
  The walk of the law 'FnOffersBlindToVBit' (4).
-/
import Derived.Test.Qxb6623415aOfSplit
namespace Go.Proofs.Qxb6623415a.Of
open Go.ChangeShapes Go.WideShapes Go.ChangeAt Go.RowKit

def tog (v : Int) : Int := bits BinOp.xor IntKind.u8 v 128

theorem bit_facts : ∀ n : Fin 256, clr (tog ((n.val : Nat) : Int)) = clr ((n.val : Nat) : Int) ∧ clr ((n.val : Nat) : Int) < 128 ∧ 0 ≤ tog ((n.val : Nat) : Int) ∧ tog ((n.val : Nat) : Int) ≤ 255 := by decide +kernel

theorem bit_at {v : Int} (h : 0 ≤ v ∧ v ≤ 255) : clr (tog v) = clr v ∧ clr v < 128 ∧ 0 ≤ tog v ∧ tog v ≤ 255 := by
  obtain ⟨n, rfl⟩ := Int.eq_ofNat_of_zero_le h.1
  exact bit_facts ⟨n, by omega⟩

theorem off_map (V : List Int) (t : Int) : offersB V t = (V.map clr).any (fun x => x == t) := by
  simp [offersB, hit, List.any_map, Function.comp_def]
theorem off_tog {V : List Int} (hV : ∀ v ∈ V, 0 ≤ v ∧ v ≤ 255) (i : Nat) (hi : i < V.length) (t : Int) : offersB (V.set i (tog V[i])) t = offersB V t := by
  have e : (V.set i (tog V[i])).map clr = V.map clr := by
    rw [List.map_set, (bit_at (hV _ (List.getElem_mem hi))).1]
    apply List.ext_getElem?
    intro j
    by_cases h : i = j
    · subst h; rw [List.getElem?_set_self (by simpa using hi)]; simp [hi]
    · rw [List.getElem?_set_ne h]
  rw [off_map, off_map, e]
theorem off_low {V : List Int} (hV : ∀ v ∈ V, 0 ≤ v ∧ v ≤ 255) {t : Int} (h : offersB V t = true) : t < 128 := by
  rw [offersB, List.any_eq_true] at h
  obtain ⟨v, hv, he⟩ := h
  have := (bit_at (hV v hv)).2.1
  have e : clr v = t := by simpa [hit] using he
  omega
theorem off_own {V : List Int} (i : Nat) (hi : i < V.length) : offersB V (clr V[i]) = true := off_hit hi (by simp [hit])

set_option maxRecDepth 100000 in
set_option maxHeartbeats 3200000 in
theorem blind_any (a0 a1 a2 : Option Addr) (n0 c0 n1 c1 n2 c2 : Nat) (U V : List Int) (i t : Int) (w : World) (hU : Bys w.heap.size w a0 n0 U) (hV : Bys w.heap.size w a1 n1 V) (hD : Dat w.heap.size w a2 n2) :
    Calls Try.prog 4 #[.slice a0 n0 c0, .slice a1 n1 c1, .slice a2 n2 c2, .int .i64 i, .int .u8 t] w fun e w' => e = .returned (.bool true) ∧ Below w.heap.size w w' := by
  obtain ⟨i0, hi, hz0, hz1, hz2⟩ := info_parts info5
  have HU := hide hU
  have HV := hide hV
  have HD := hide hD
  clear hU hV hD
  go_enter Try.func4, Try.ntmps4
  go_wp2_with fail
  refine (bytesV_any a0 a1 a2 n0 c0 n1 c1 n2 c2 _ i t _ HU.out.few HV.out.few HD.out).mono ?_
  rintro e w' ⟨⟨b, rfl⟩, rfl⟩
  cases b
  · go_wp2_with fail
    go_ret
    exact ⟨rfl, Below.refl _ _⟩
  go_wp2_with fail
  refine (big_any a0 a1 a2 n0 c0 n1 c1 n2 c2 _ _ HU.out.few HV.out.few HD.out).mono ?_
  rintro e w' ⟨hbig, rfl⟩
  rcases hbig with rfl | ⟨rfl, hsm⟩
  · go_wp2_with fail
    go_ret
    exact ⟨rfl, Below.refl _ _⟩
  by_cases hc0 : 0 ≤ i
  rotate_left
  · go_wp2_with fail
    go_ret
    exact ⟨rfl, Below.refl _ _⟩
  obtain ⟨k, rfl⟩ := Int.eq_ofNat_of_zero_le hc0
  by_cases hc1 : k < n1
  rotate_left
  · go_wp2_with fail
    go_ret
    exact ⟨rfl, Below.refl _ _⟩
  have hkV : k < V.length := by rw [HV.out.hlen]; exact hc1
  obtain ⟨vk, hvk⟩ : ∃ v, V[k] = v := ⟨_, rfl⟩
  obtain ⟨bA, hbA⟩ : ∃ b, offersB V t = b := ⟨_, rfl⟩
  have HA := hide hbA
  have HVK := hide hvk
  have HT : Hid (offersB (V.set k (bits BinOp.xor IntKind.u8 vk 128)) t = bA) := by
    have := off_tog HV.out.rng k hkV t
    rw [hvk, hbA] at this
    exact this
  have HO : Hid (offersB V (bits BinOp.andNot IntKind.u8 vk 128) = true) := by
    have := off_own k hkV
    rw [hvk] at this
    exact this
  have HRNG : Hid (∀ x ∈ V.set k (bits BinOp.xor IntKind.u8 vk 128), 0 ≤ x ∧ x ≤ 255) := by
    intro x hx
    rcases List.mem_or_eq_of_mem_set hx with h | h
    · exact HV.out.rng x h
    · rw [h, ← hvk]; exact (bit_at (HV.out.rng _ (List.getElem_mem hkV))).2.2
  have HLOW : Hid (bA = true → t < 128) := fun h => off_low HV.out.rng (by rw [hbA]; exact h)
  clear hbA hvk
  obtain ⟨bb, boff, rfl, -, -⟩ := HV.out.cells (by omega)
  have hnn0 := fun w => run_neq_slice_nil_any (P := Try.prog) w 22 5 a0 n0 c0 0 0 Try.underlying22
  have hnn1 := fun w => run_neq_slice_nil_any (P := Try.prog) w 22 5 (some ⟨bb, boff, none⟩) n1 c1 0 0 Try.underlying22
  go_upto_if 38 with fail
  go_cut [0, 11] from 18 (fun ov zv wx => ∃ oa oc, ov = .slice oa n0 oc ∧ Below w'.heap.size w' wx)
  case first =>
    cases a0 with
    | none =>
      go_wp2_with fail
      go_meet
      case rel => exact ⟨none, c0, rfl, Below.refl _ _⟩
    | some ad =>
      go_wp2_with (at_make; refine wpList_make_full _ rfl _ _ 22 rfl w'.heap.size 5 i0 (.int .u8 0) 1 Try.underlying22 hi hz0 hz1 _ _ _ _ n0 rfl rfl rfl rfl (by rw [hz2]; omega) (by unfold maxLen; omega) (Nat.le_refl _) ?_)
      intro w1 hown hg
      have I0 := RInv.start hown hg
      clear hown hg
      obtain ⟨w2, hrun, R⟩ := copy_run (c := c0) I0 (HU.out.keep I0.bel (Nat.le_refl _))
      have HB2 := hide R.bel
      clear I0 R
      go_wp2_with fail
      go_meet
      case rel => exact ⟨_, _, rfl, HB2.out⟩
  case rest =>
  obtain ⟨oa, oc, rfl, hwc⟩ := hcut
  have HWC := hide hwc
  have HV2 := hide ((HV.out.keep hwc (Nat.le_refl _)).wider hwc.size)
  have HD2 := hide ((HD.out.keep hwc (Nat.le_refl _)).wider hwc.size)
  clear hwc HV HD HU hnn0
  go_wp2_with (at_make; refine wpList_make_full _ rfl _ _ 22 rfl wc.heap.size 5 i0 (.int .u8 0) 1 Try.underlying22 hi hz0 hz1 _ _ _ _ n1 rfl rfl rfl rfl (by rw [hz2]; omega) (by unfold maxLen; omega) (Nat.le_refl _) ?_)
  intro w1 hown hg
  have I0 := RInv.start hown hg
  clear hown hg
  obtain ⟨w2, hrun, R⟩ := copy_run (c := c1) I0 (HV2.out.keep I0.bel (Nat.le_refl _))
  have HR := hide R
  have HV3 := hide (R.bys HV2.out.rng HV2.out.few)
  have HD3 := hide ((HD2.out.keep R.bel (Nat.le_refl _)).wider R.bel.size)
  clear I0 R
  go_wp2_with (at_make; refine wpList_make_full _ rfl _ _ 22 rfl w2.heap.size 5 i0 (.int .u8 0) 1 Try.underlying22 hi hz0 hz1 _ _ _ _ n1 rfl rfl rfl rfl (by rw [hz2]; omega) (by unfold maxLen; omega) (Nat.le_refl _) ?_)
  intro w3 hown hg
  have I3 := hide (RInv.start hown hg)
  clear hown hg hrun hi hz0 hz1 hz2 hnn1
  go_wp2
  go_loopw [14] (fun jv wr => ∃ (j : Nat) (L : List Int), j ≤ n1 ∧ jv = .int .i64 j ∧ RInv w2.heap.size w2 wr n1 L ∧ ∀ x, x < j → L[x]? = V[x]?) (fun jv _ => n1 - (intOf jv).toNat)
  case atStart => exact ⟨0, _, Nat.zero_le _, rfl, I3.out, fun x h => by omega⟩
  case round =>
  clear I3
  obtain ⟨j, L, hj, rfl, hI, hL⟩ := hrel
  by_cases hlt : j < n1
  · have hj' : j < V.length := by rw [HV3.out.hlen]; omega
    obtain ⟨b, off, hab, hb, hc⟩ := HV3.out.cells (by omega)
    obtain ⟨rfl, rfl⟩ : wc.heap.size = b ∧ off = 0 := by simp only [Option.some.injEq, Addr.mk.injEq] at hab; exact ⟨hab.1, hab.2.1.symm⟩
    have d0 := (hI.bel.cell (p := ⟨wc.heap.size, 0 + j, none⟩) hb).trans (hc j hj')
    rw [Nat.zero_add] at d0
    obtain ⟨v0, m0⟩ := hI.has (j := j) (by omega)
    have z0 := hI.own.frozenAt j
    have R := hI.set j V[j]
    have hL2 : ∀ x, x < j + 1 → (L.set j V[j])[x]? = V[x]? := by
      intro x hx
      by_cases e : x = j
      · subst e; rw [List.getElem?_set_self (by rw [hI.hlen]; omega), List.getElem?_eq_getElem hj']
      · rw [List.getElem?_set_ne (by omega)]; exact hL x (by omega)
    obtain ⟨x, hx⟩ : ∃ x, V[j] = x := ⟨_, rfl⟩
    rw [hx] at d0 R hL2
    have HRR := hide R
    have HL2 := hide hL2
    clear hc hI hL R hL2 hx hab
    have i1 : (j : Int) < (n1 : Int) := by omega
    go_wp2
    go_roundw
    case rel => exact ⟨j + 1, _, by omega, by go_num, HRR.out, HL2.out⟩
    case measure => simp [intOf]; omega
  have hLV : L = V := by
    apply List.ext_getElem?
    intro x
    by_cases hx : x < n1
    · exact hL x (by omega)
    · rw [List.getElem?_eq_none (by rw [hI.hlen]; omega), List.getElem?_eq_none (by rw [HV3.out.hlen]; omega)]
  rw [hLV] at hI
  have m1 : wr.cell? ⟨w2.heap.size, k, none⟩ = some (.int .u8 vk) := hI.cell (by rw [List.getElem?_eq_getElem hkV, HVK.out])
  have z1 := hI.own.frozenAt k
  have R := hI.set k (bits BinOp.xor IntKind.u8 vk 128)
  have HRT := hide R
  have HB2 := hide R.bel
  have HYT := hide (R.bys HRNG.out HV3.out.few)
  have i1 : (k : Int) < (n1 : Int) := by omega
  clear hI hL hLV R
  go_wp2_with fail
  obtain ⟨X, hX⟩ : ∃ X, wr.setCell ⟨w2.heap.size, k, none⟩ (.int .u8 (bits BinOp.xor IntKind.u8 vk 128)) = X := ⟨_, rfl⟩
  rw [hX] at HB2 HYT ⊢
  clear hX HRT m1 z1
  have HV4 := hide ((HV3.out.keep HB2.out (Nat.le_refl _)).wider HB2.out.size)
  have HD4 := hide ((HD3.out.keep HB2.out (Nat.le_refl _)).wider HB2.out.size)
  have HBX := hide (HWC.out.trans ((HR.out.bel.trans (HB2.out.mono HR.out.bel.size)).mono HWC.out.size))
  clear HV3 HD3 HB2 HR HWC HV2 HD2
  refine (zz_r bA oa (some ⟨wc.heap.size, 0, none⟩) a2 n0 oc n1 n1 n2 c2 V t _ HV4.out (fun h => by cases h) HD4.out (by omega) HA.out).mono ?_
  rintro e x1 ⟨rfl, hb1⟩
  have B1 := hide hb1
  clear hb1
  go_wp2_with fail
  refine (zz_r bA oa (some ⟨w2.heap.size, 0, none⟩) none n0 oc n1 n1 0 0 (V.set k (bits BinOp.xor IntKind.u8 vk 128)) t _ ((HYT.out.keep B1.out (Nat.le_refl _)).wider B1.out.size) (fun h => by cases h) (Dat.nil _ _) (by omega) HT.out).mono ?_
  rintro e x2 ⟨rfl, hb2⟩
  have B2 := hide (B1.out.trans (hb2.mono B1.out.size))
  clear hb2 B1 HYT
  have HV5 := hide ((HV4.out.keep B2.out (Nat.le_refl _)).wider B2.out.size)
  have HD5 := hide ((HD4.out.keep B2.out (Nat.le_refl _)).wider B2.out.size)
  have m2 : x2.cell? ⟨wc.heap.size, k, none⟩ = some (.int .u8 vk) := by
    obtain ⟨b, off, hab, hb, hc⟩ := HV5.out.cells (by omega)
    obtain ⟨rfl, rfl⟩ : wc.heap.size = b ∧ off = 0 := by simp only [Option.some.injEq, Addr.mk.injEq] at hab; exact ⟨hab.1, hab.2.1.symm⟩
    have := hc k hkV
    rw [Nat.zero_add, HVK.out] at this
    exact this
  go_wp2_with fail
  refine (zz_r true oa (some ⟨wc.heap.size, 0, none⟩) a2 n0 oc n1 n1 n2 c2 V (bits BinOp.andNot IntKind.u8 vk 128) _ HV5.out (fun h => by cases h) HD5.out (by omega) HO.out).mono ?_
  rintro e x3 ⟨rfl, hb3⟩
  have B3 := hide (HBX.out.trans ((B2.out.trans (hb3.mono B2.out.size)).mono HBX.out.size))
  clear hb3 B2 m2 HV5 HD5 HV4 HD4
  cases bA
  · have ht : (decide (t < 128)) = true ∨ (decide (t < 128)) = false := by cases (decide (t < 128)) <;> simp
    rcases ht with ht | ht <;> (go_wp2; go_ret; exact ⟨rfl, B3.out⟩)
  · have ht : t < 128 := HLOW.out rfl
    go_wp2
    go_ret
    exact ⟨rfl, B3.out⟩
end Go.Proofs.Qxb6623415a.Of
