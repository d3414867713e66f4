/-
  The walk of the law 'FnIntStringIsCanonicalDecimalOfValue' (3).
-/
import Derived.Test.Qxb6623396aDoorStr
import Derived.Test.Qxb6623396aDoorMul
namespace Go.Proofs.Qxb6623396aDoor.Fm
open Go.ChangeShapes Go.WideShapes Go.ChangeAt Go.RowKit Go.Sort

/-- the pair (hi, lo) holds what the first k digits come to. -/
def St (u nd k hi lo : Nat) : Prop := hi * 18446744073709551616 + lo = pre u nd k ∧ lo < 18446744073709551616

theorem St.start {u nd : Nat} (h : u < 10 ^ nd) : St u nd 0 0 0 := ⟨by rw [pre_zero u nd h], by omega⟩
theorem St.hi_le {u nd k hi lo : Nat} (h : St u nd k hi lo) (hu : u ≤ 18446744073709551616) : hi ≤ 1000 := by
  have h1 := h.1
  have h2 := pre_le u nd k
  omega
theorem St.next {u nd k hi lo : Nat} (h : St u nd k hi lo) (hk : k < nd) : ∃ hi' lo', St u nd (k + 1) hi' lo' ∧ lo' < 18446744073709551616 ∧ hi' * 18446744073709551616 + lo' = (hi * 18446744073709551616 + lo) * 10 + pre u nd (k + 1) % 10 := by
  refine ⟨pre u nd (k + 1) / 18446744073709551616, pre u nd (k + 1) % 18446744073709551616, ⟨by omega, by omega⟩, by omega, ?_⟩
  rw [h.1, ← pre_succ u nd k hk]; omega
theorem St.full {u nd hi lo : Nat} (h : St u nd nd hi lo) : hi * 18446744073709551616 + lo = u ∧ lo < 18446744073709551616 := by
  rw [← pre_full u nd]; exact ⟨by rw [h.1, pre_full], h.2⟩

set_option maxHeartbeats 1600000 in
theorem law_pos (n : Nat) (hn : n < 18446744073709551616) (w : World) (htab : Tab w) :
    Calls Tryd.prog 3 #[.bool false, .int .u64 n] w fun e w' => e = .returned (.bool true) ∧ Below w.heap.size w w' := by
  have HT := hide htab
  have HN := hide hn
  clear htab hn
  go_enter Tryd.func3, Tryd.ntmps3
  go_wp2_with fail
  refine (str_any false n HN.out _ HT.out).mono ?_
  rintro e w1 ⟨rfl, hb1⟩
  have HB := hide hb1
  have hA := num_pos n HN.out
  clear hb1
  obtain ⟨s, hs⟩ : ∃ s, ByteArray.mk (intTxt false n).toArray = s := ⟨_, rfl⟩
  obtain ⟨nd, hnd⟩ : ∃ nd, Lib.nDigits n = nd := ⟨_, rfl⟩
  rw [hs] at hA ⊢
  rw [hnd] at hA
  clear hs hnd
  have HA := hide hA
  have hs0 : 0 < s.size := by have h1 := HA.out.size; have h2 := HA.out.pos; omega
  have hs1 : s.size ≤ 20 := by have h1 := HA.out.size; have h2 := HA.out.few; omega
  have hd0 := HA.out.dig 0 hs0 (Nat.le_refl _)
  have t45 : ((s[0].toNat : Int) == 45) = false := by simp; omega
  have t48 : ((s[0].toNat : Int) == 48) = false ∨ s.size = 1 := by
    by_cases h1 : 1 < nd
    · left
      have h2 := HA.out.lead h1
      simp at hd0 ⊢
      omega
    · right
      have h1 := HA.out.size; have h2 := HA.out.pos; omega
  clear hd0 hA
  have hgo : (((s[0].toNat : Int) == 48) = false) ∨ (((s[0].toNat : Int) == 48) = true ∧ s.size = 1) := by
    rcases t48 with h | h
    · exact .inl h
    · cases h2 : ((s[0].toNat : Int) == 48)
      · exact .inl rfl
      · exact .inr ⟨rfl, h⟩
  clear t48
  have hne : ¬ s = ByteArray.empty := by rintro rfl; simp at hs0
  rcases hgo with t48 | ⟨t48, hone⟩
  · go_wp2
    go_loop [8, 9, 10] (fun hv lv jv => ∃ j hi lo : Nat, j ≤ s.size ∧ hv = .int .u64 hi ∧ lv = .int .u64 lo ∧ jv = .int .i64 j ∧ St n nd j hi lo) (fun _ _ jv => s.size - (intOf jv).toNat)
    case atStart => exact ⟨0, 0, 0, Nat.zero_le _, rfl, rfl, rfl, St.start HA.out.below⟩
    case round =>
    obtain ⟨j, hi, lo, hj, rfl, rfl, rfl, hS⟩ := hrel
    have HS := hide hS
    clear hS
    by_cases hlt : j < s.size
    · have hd := HA.out.dig j hlt (Nat.zero_le _)
      have hjn : j < nd := by have := HA.out.size; omega
      obtain ⟨hi', lo', hS', hl', he'⟩ := HS.out.next hjn
      obtain ⟨d, hdd⟩ : ∃ d, pre n nd (j + 1) % 10 = d := ⟨_, rfl⟩
      have hd9 : d ≤ 9 := by omega
      rw [hdd] at he'
      rw [Nat.sub_zero, hdd] at hd
      have hc1 : (48 : Int) ≤ (s[j].toNat : Int) := by omega
      have hc2 : (s[j].toNat : Int) ≤ 57 := by omega
      have HC : Hid ((s[j].toNat : Int) - 48 = (d : Int)) := by show _ = _; omega
      have HM := hide (fun w => mul_any hi lo d hi' lo' (HS.out.hi_le (by have := HN.out; omega)) HS.out.2 hd9 hl' he' w)
      have HS' := hide hS'
      clear hd hdd he' hl' hS' hd9
      go_wp2_with fail
      rw [HC.out]
      refine (HM.out _).mono ?_
      rintro e w2 ⟨rfl, rfl⟩
      go_wp2
      go_round
      case rel => exact ⟨j + 1, hi', lo', by omega, rfl, rfl, by go_num, HS'.out⟩
      case measure => simp [intOf]; omega
    · obtain rfl : j = nd := by have := HA.out.size; omega
      have hF := HS.out.full
      have hhi : hi = 0 := by have := HN.out; omega
      have hlo : lo = n := by omega
      subst hhi
      subst hlo
      clear hF
      go_wp2
      go_ret
      exact ⟨rfl, HB.out⟩
  · have hone' : (s.size : Int) ≤ 1 := by omega
    clear hone
    go_wp2
    go_loop [8, 9, 10] (fun hv lv jv => ∃ j hi lo : Nat, j ≤ s.size ∧ hv = .int .u64 hi ∧ lv = .int .u64 lo ∧ jv = .int .i64 j ∧ St n nd j hi lo) (fun _ _ jv => s.size - (intOf jv).toNat)
    case atStart => exact ⟨0, 0, 0, Nat.zero_le _, rfl, rfl, rfl, St.start HA.out.below⟩
    case round =>
    obtain ⟨j, hi, lo, hj, rfl, rfl, rfl, hS⟩ := hrel
    have HS := hide hS
    clear hS
    by_cases hlt : j < s.size
    · have hd := HA.out.dig j hlt (Nat.zero_le _)
      have hjn : j < nd := by have := HA.out.size; omega
      obtain ⟨hi', lo', hS', hl', he'⟩ := HS.out.next hjn
      obtain ⟨d, hdd⟩ : ∃ d, pre n nd (j + 1) % 10 = d := ⟨_, rfl⟩
      have hd9 : d ≤ 9 := by omega
      rw [hdd] at he'
      rw [Nat.sub_zero, hdd] at hd
      have hc1 : (48 : Int) ≤ (s[j].toNat : Int) := by omega
      have hc2 : (s[j].toNat : Int) ≤ 57 := by omega
      have HC : Hid ((s[j].toNat : Int) - 48 = (d : Int)) := by show _ = _; omega
      have HM := hide (fun w => mul_any hi lo d hi' lo' (HS.out.hi_le (by have := HN.out; omega)) HS.out.2 hd9 hl' he' w)
      have HS' := hide hS'
      clear hd hdd he' hl' hS' hd9
      go_wp2_with fail
      rw [HC.out]
      refine (HM.out _).mono ?_
      rintro e w2 ⟨rfl, rfl⟩
      go_wp2
      go_round
      case rel => exact ⟨j + 1, hi', lo', by omega, rfl, rfl, by go_num, HS'.out⟩
      case measure => simp [intOf]; omega
    · obtain rfl : j = nd := by have := HA.out.size; omega
      have hF := HS.out.full
      have hhi : hi = 0 := by have := HN.out; omega
      have hlo : lo = n := by omega
      subst hhi
      subst hlo
      clear hF
      go_wp2
      go_ret
      exact ⟨rfl, HB.out⟩

set_option maxHeartbeats 1600000 in
theorem law_neg (n : Nat) (hn : n < 18446744073709551616) (w : World) (htab : Tab w) :
    Calls Tryd.prog 3 #[.bool true, .int .u64 n] w fun e w' => e = .returned (.bool true) ∧ Below w.heap.size w w' := by
  have HT := hide htab
  have HN := hide hn
  clear htab hn
  go_enter Tryd.func3, Tryd.ntmps3
  go_wp2_with fail
  refine (str_any true n HN.out _ HT.out).mono ?_
  rintro e w1 ⟨rfl, hb1⟩
  have HB := hide hb1
  have hA := num_neg n HN.out
  have h45 : ∀ h : 0 < (ByteArray.mk (intTxt true n).toArray).size, (ByteArray.mk (intTxt true n).toArray)[0].toNat = 45 := fun _ => rfl
  clear hb1
  obtain ⟨s, hs⟩ : ∃ s, ByteArray.mk (intTxt true n).toArray = s := ⟨_, rfl⟩
  obtain ⟨nd, hnd⟩ : ∃ nd, Lib.nDigits (n + 1) = nd := ⟨_, rfl⟩
  rw [hs] at hA h45 ⊢
  rw [hnd] at hA
  clear hs hnd
  have HA := hide hA
  have hs0 : 1 < s.size := by have h1 := HA.out.size; have h2 := HA.out.pos; omega
  have hs1 : s.size ≤ 21 := by have h1 := HA.out.size; have h2 := HA.out.few; omega
  have hd0 := HA.out.dig 1 hs0 (Nat.le_refl _)
  have t45 : ((s[0].toNat : Int) == 45) = true := by rw [h45 (by omega)]; rfl
  have hgo : (((s[1].toNat : Int) == 48) = false) ∨ (((s[1].toNat : Int) == 48) = true ∧ s.size = 2) := by
    by_cases h1 : 1 < nd
    · left
      have h2 := HA.out.lead h1
      simp at hd0 ⊢
      omega
    · cases h2 : ((s[1].toNat : Int) == 48)
      · exact .inl rfl
      · exact .inr ⟨rfl, by have h1 := HA.out.size; have h2 := HA.out.pos; omega⟩
  clear hd0 hA h45
  rcases hgo with t48 | ⟨t48, hone⟩
  · go_wp2
    go_loop [8, 9, 10] (fun hv lv jv => ∃ j hi lo : Nat, 1 ≤ j ∧ j ≤ s.size ∧ hv = .int .u64 hi ∧ lv = .int .u64 lo ∧ jv = .int .i64 j ∧ St (n + 1) nd (j - 1) hi lo) (fun _ _ jv => s.size - (intOf jv).toNat)
    case atStart => exact ⟨1, 0, 0, Nat.le_refl _, by omega, rfl, rfl, rfl, St.start HA.out.below⟩
    case round =>
    obtain ⟨j, hi, lo, hj1, hj, rfl, rfl, rfl, hS⟩ := hrel
    have HS := hide hS
    clear hS
    by_cases hlt : j < s.size
    · have hd := HA.out.dig j hlt hj1
      have hjn : j - 1 < nd := by have := HA.out.size; omega
      obtain ⟨hi', lo', hS', hl', he'⟩ := HS.out.next hjn
      rw [show j - 1 + 1 = j + 1 - 1 by omega] at hS' he'
      obtain ⟨d, hdd⟩ : ∃ d, pre (n + 1) nd (j + 1 - 1) % 10 = d := ⟨_, rfl⟩
      have hd9 : d ≤ 9 := by omega
      rw [hdd] at he'
      rw [hdd] at hd
      have hc1 : (48 : Int) ≤ (s[j].toNat : Int) := by omega
      have hc2 : (s[j].toNat : Int) ≤ 57 := by omega
      have HC : Hid ((s[j].toNat : Int) - 48 = (d : Int)) := by show _ = _; omega
      have HM := hide (fun w => mul_any hi lo d hi' lo' (HS.out.hi_le (by have := HN.out; omega)) HS.out.2 hd9 hl' he' w)
      have HS' := hide hS'
      clear hd hdd he' hl' hS' hd9
      go_wp2_with fail
      rw [HC.out]
      refine (HM.out _).mono ?_
      rintro e w2 ⟨rfl, rfl⟩
      go_wp2
      go_round
      case rel => exact ⟨j + 1, hi', lo', by omega, by omega, rfl, rfl, by go_num, HS'.out⟩
      case measure => simp [intOf]; omega
    · have hjn : j - 1 = nd := by have := HA.out.size; omega
      have hF : St (n + 1) nd nd hi lo := by rw [← hjn]; rw [hjn]; have := HS.out; rw [hjn] at this; exact this
      have hG := hF.full
      clear hF HS
      by_cases hbig : n = 18446744073709551615
      · have hhi : hi = 1 := by omega
        have hlo : lo = 0 := by omega
        have HBG : Hid ((n : Int) = 18446744073709551615) := by show _ = _; omega
        subst hhi
        subst hlo
        clear hG hbig
        have hfin : ((18446744073709551615 : Int) == (n : Int)) = true := by rw [HBG.out]; rfl
        go_wp2
        go_ret
        exact ⟨rfl, HB.out⟩
      · have hhi : hi = 0 := by have := HN.out; omega
        have hlo : lo = n + 1 := by omega
        subst hhi
        have hz : ((lo : Int) == 0) = false := by simp; omega
        have hl0 : (1 : Int) ≤ (lo : Int) := by omega
        have hl2 : (lo : Int) ≤ 18446744073709551615 := by omega
        have hfin : ((lo : Int) - 1 == (n : Int)) = true := by simp; omega
        clear hG hbig hlo
        go_wp2
        go_ret
        exact ⟨rfl, HB.out⟩
  · have hone' : (s.size : Int) ≤ 2 := by omega
    clear hone
    go_wp2
    go_loop [8, 9, 10] (fun hv lv jv => ∃ j hi lo : Nat, 1 ≤ j ∧ j ≤ s.size ∧ hv = .int .u64 hi ∧ lv = .int .u64 lo ∧ jv = .int .i64 j ∧ St (n + 1) nd (j - 1) hi lo) (fun _ _ jv => s.size - (intOf jv).toNat)
    case atStart => exact ⟨1, 0, 0, Nat.le_refl _, by omega, rfl, rfl, rfl, St.start HA.out.below⟩
    case round =>
    obtain ⟨j, hi, lo, hj1, hj, rfl, rfl, rfl, hS⟩ := hrel
    have HS := hide hS
    clear hS
    by_cases hlt : j < s.size
    · have hd := HA.out.dig j hlt hj1
      have hjn : j - 1 < nd := by have := HA.out.size; omega
      obtain ⟨hi', lo', hS', hl', he'⟩ := HS.out.next hjn
      rw [show j - 1 + 1 = j + 1 - 1 by omega] at hS' he'
      obtain ⟨d, hdd⟩ : ∃ d, pre (n + 1) nd (j + 1 - 1) % 10 = d := ⟨_, rfl⟩
      have hd9 : d ≤ 9 := by omega
      rw [hdd] at he'
      rw [hdd] at hd
      have hc1 : (48 : Int) ≤ (s[j].toNat : Int) := by omega
      have hc2 : (s[j].toNat : Int) ≤ 57 := by omega
      have HC : Hid ((s[j].toNat : Int) - 48 = (d : Int)) := by show _ = _; omega
      have HM := hide (fun w => mul_any hi lo d hi' lo' (HS.out.hi_le (by have := HN.out; omega)) HS.out.2 hd9 hl' he' w)
      have HS' := hide hS'
      clear hd hdd he' hl' hS' hd9
      go_wp2_with fail
      rw [HC.out]
      refine (HM.out _).mono ?_
      rintro e w2 ⟨rfl, rfl⟩
      go_wp2
      go_round
      case rel => exact ⟨j + 1, hi', lo', by omega, by omega, rfl, rfl, by go_num, HS'.out⟩
      case measure => simp [intOf]; omega
    · have hjn : j - 1 = nd := by have := HA.out.size; omega
      have hF : St (n + 1) nd nd hi lo := by rw [← hjn]; rw [hjn]; have := HS.out; rw [hjn] at this; exact this
      have hG := hF.full
      clear hF HS
      by_cases hbig : n = 18446744073709551615
      · have hhi : hi = 1 := by omega
        have hlo : lo = 0 := by omega
        have HBG : Hid ((n : Int) = 18446744073709551615) := by show _ = _; omega
        subst hhi
        subst hlo
        clear hG hbig
        have hfin : ((18446744073709551615 : Int) == (n : Int)) = true := by rw [HBG.out]; rfl
        go_wp2
        go_ret
        exact ⟨rfl, HB.out⟩
      · have hhi : hi = 0 := by have := HN.out; omega
        have hlo : lo = n + 1 := by omega
        subst hhi
        have hz : ((lo : Int) == 0) = false := by simp; omega
        have hl0 : (1 : Int) ≤ (lo : Int) := by omega
        have hl2 : (lo : Int) ≤ 18446744073709551615 := by omega
        have hfin : ((lo : Int) - 1 == (n : Int)) = true := by simp; omega
        clear hG hbig hlo
        go_wp2
        go_ret
        exact ⟨rfl, HB.out⟩

theorem law_any (neg : Bool) (n : Nat) (hn : n < 18446744073709551616) (w : World) (htab : Tab w) :
    Calls Tryd.prog 3 #[.bool neg, .int .u64 n] w fun e w' => e = .returned (.bool true) ∧ Below w.heap.size w w' := by
  cases neg
  · exact law_pos n hn w htab
  · exact law_neg n hn w htab
end Go.Proofs.Qxb6623396aDoor.Fm
