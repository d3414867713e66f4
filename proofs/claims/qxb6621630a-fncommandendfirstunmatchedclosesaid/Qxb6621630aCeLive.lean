/-
  Walks of 'zzLiveMask' (8) and 'zzFirstExcessClose' (10).
-/
import Derived.Test.Qxb6621630aCeWalk
import Derived.WalkLawsBesides
namespace Go.Proofs.Qxb6621630a.Ce
open Go.ChangeShapes Go.WideShapes Go.ChangeAt Go.RowKit

theorem info4 : (Try.prog.info? 4).map (fun i => (i.zero, i.size, i.bytes)) = some (some (.bool false), 1, 1) := by kernel_rfl

def bools (l : List Bool) : List Value := l.map Value.bool

/-- what the loop over the bytes keeps. -/
def LiveInv (s : ByteArray) (w wr : World) (k : Nat) : Prop :=
  wr.ownsRow w.heap.size 4 1 (.slice (some ⟨w.heap.size, 0, none⟩) s.size s.size) s.size (bools (msk s.data.toList k)) ∧ Below w.heap.size w wr ∧ Bnd s.data.toList k

theorem size_list (s : ByteArray) : s.data.toList.length = s.size := by simp

theorem live_start {s : ByteArray} {w w1 : World} (h : w1.ownsRow w.heap.size 4 1 (.slice (some ⟨w.heap.size, 0, none⟩) s.size s.size) s.size (madeCells (Value.bool false).cells (s.size * 1)).toList)
    (hg : w.grownBy w1 none) : LiveInv s w w1 0 := by
  refine ⟨?_, (Below.refl _ _).grown hg (Nat.le_refl _) (by simp), bnd_zero _⟩
  have e : (madeCells (Value.bool false).cells (s.size * 1)).toList = bools (msk s.data.toList 0) := by
    rw [Nat.mul_one]
    show (madeCells #[Value.bool false] s.size).toList = _
    rw [toList_madeCells_one, msk_zero, bools, List.map_replicate, size_list]
  rw [← e]; exact h

theorem live_lit {s : ByteArray} {w wr : World} {k : Nat} (hk : k < s.size) (h : LiveInv s w wr k) (h1 : ((s[k].toNat : Int) == 39) = false) (h2 : ((s[k].toNat : Int) == 34) = false) :
    LiveInv s w (wr.setCell ⟨w.heap.size, k, none⟩ (.bool true)) (k + 1) := by
  obtain ⟨ho, hb, hB⟩ := h
  have hL : k < s.data.toList.length := by rw [size_list]; exact hk
  have hq : ¬ (s.data.toList[k] = 39 ∨ s.data.toList[k] = 34) := no_quote (c := s[k]) ⟨h1, h2⟩
  obtain ⟨b1, b2⟩ := bnd_live _ _ hL hB hq
  obtain ⟨o1, o2⟩ := ho.stored k (.bool true)
  refine ⟨?_, hb.setCell (Nat.le_refl _) _, b1⟩
  rw [b2, bools, List.map_set]
  exact o1

theorem live_cell {s : ByteArray} {w wr : World} {k : Nat} (hk : k < s.size) (h : LiveInv s w wr k) :
    ∃ b, wr.cell? ⟨w.heap.size, k, none⟩ = some (.bool b) := by
  obtain ⟨ho, hb, hB⟩ := h
  have e := ho.cellAt k (by omega)
  have hL : k < (msk s.data.toList k).length := by rw [msk_length _ _ (by rw [size_list]; omega), size_list]; exact hk
  rw [bools, List.getElem?_map, List.getElem?_eq_getElem hL] at e
  exact ⟨_, e⟩

/-- no byte between k and j is the byte at k. -/
def Clear (s : ByteArray) (k j : Nat) : Prop := ∀ x (hx : x < s.data.toList.length) (hk : k < s.data.toList.length), k < x → x < j → s.data.toList[x] ≠ s.data.toList[k]

theorem clear_start (s : ByteArray) (k : Nat) : Clear s k (k + 1) := by intro x _ _ h1 h2; omega
theorem clear_next {s : ByteArray} {k j : Nat} (hj : j < s.size) (hk : k < s.size) (h : Clear s k j) (hne : ((s[j].toNat : Int) != (s[k].toNat : Int)) = true) : Clear s k (j + 1) := by
  intro x hx hk' h1 h2
  by_cases e : x = j
  · subst e
    intro hc
    have hc' : s[x] = s[k] := hc
    rw [hc'] at hne
    simp at hne
  · exact h x hx hk' h1 (by omega)

theorem live_span {s : ByteArray} {w wr : World} {k j : Nat} (hk : k < s.size) (hj : j < s.size) (hkj : k < j) (h : LiveInv s w wr k) (hq : (s[k].toNat : Int) = 39 ∨ (s[k].toNat : Int) = 34)
    (hc : Clear s k j) (he : ((s[j].toNat : Int) != (s[k].toNat : Int)) = false) : LiveInv s w wr (j + 1) := by
  obtain ⟨ho, hb, hB⟩ := h
  have hL : k < s.data.toList.length := by rw [size_list]; exact hk
  have hJ : j < s.data.toList.length := by rw [size_list]; exact hj
  have hq' : s.data.toList[k] = 39 ∨ s.data.toList[k] = 34 := by
    rcases hq with h | h
    · exact .inl (u8_is (a := s[k]) (n := 39) h)
    · exact .inr (u8_is (a := s[k]) (n := 34) h)
  have he' : s.data.toList[j] = s.data.toList[k] := by
    show s[j] = s[k]
    exact UInt8.toNat_inj.1 (by simp at he; omega)
  obtain ⟨b1, b2⟩ := bnd_span _ k j hkj hJ hB hq' he' (fun x hx h1 h2 => hc x hx hL h1 h2)
  exact ⟨by rw [b2]; exact ho, hb, b1⟩

theorem live_open {s : ByteArray} {w wr : World} {k j : Nat} (hk : k < s.size) (hj : ¬ j < s.size) (h : LiveInv s w wr k) (hq : (s[k].toNat : Int) = 39 ∨ (s[k].toNat : Int) = 34)
    (hc : Clear s k j) : wr.ownsRow w.heap.size 4 1 (.slice (some ⟨w.heap.size, 0, none⟩) s.size s.size) s.size (bools (lv s.data.toList 0)) := by
  obtain ⟨ho, hb, hB⟩ := h
  have hL : k < s.data.toList.length := by rw [size_list]; exact hk
  have hq' : s.data.toList[k] = 39 ∨ s.data.toList[k] = 34 := by
    rcases hq with h | h
    · exact .inl (u8_is (a := s[k]) (n := 39) h)
    · exact .inr (u8_is (a := s[k]) (n := 34) h)
  rw [← bnd_open _ k hL hB hq' (fun x hx h1 => hc x hx hL h1 (by rw [size_list] at hx; omega))]
  exact ho

theorem live_done {s : ByteArray} {w wr : World} {k : Nat} (hk : k ≤ s.size) (hk2 : ¬ k < s.size) (h : LiveInv s w wr k) :
    wr.ownsRow w.heap.size 4 1 (.slice (some ⟨w.heap.size, 0, none⟩) s.size s.size) s.size (bools (lv s.data.toList 0)) := by
  obtain ⟨ho, hb, hB⟩ := h
  obtain rfl : k = s.size := by omega
  rw [← size_list, msk_full] at ho
  rw [← size_list]
  exact ho

set_option maxHeartbeats 800000 in
theorem live_any (s : ByteArray) (w : World) (hs : s.size ≤ 65536) :
    Calls Try.prog 8 #[.string s] w fun e w' => e = .returned (.slice (some ⟨w.heap.size, 0, none⟩) s.size s.size) ∧
      w'.ownsRow w.heap.size 4 1 (.slice (some ⟨w.heap.size, 0, none⟩) s.size s.size) s.size (bools (lv s.data.toList 0)) ∧ Below w.heap.size w w' := by
  obtain ⟨i0, hi, hz0, hz1, hz2⟩ := info_parts info4
  go_enter Try.func8, Try.ntmps8
  go_wp2_with (at_make; refine wpList_make_full _ rfl _ _ 23 rfl w.heap.size 4 i0 (.bool false) 1 Try.underlying23 hi hz0 hz1 _ _ _ _ s.size rfl rfl rfl rfl (by rw [hz2]; omega) (by unfold maxLen; omega) (Nat.le_refl _) ?_; intro w1 hown1 hg1)
  have H0 := live_start hown1 hg1
  clear hown1 hg1 hi hz0 hz1 hz2
  go_loopw [4] (fun iv wr => ∃ k : Nat, k ≤ s.size ∧ iv = .int .i64 k ∧ LiveInv s w wr k) (fun iv _ => s.size - (intOf iv).toNat)
  case atStart => exact ⟨0, Nat.zero_le _, rfl, H0⟩
  case round =>
    clear H0
    obtain ⟨k, hk, rfl, hI⟩ := hrel
    by_cases hlt : k < s.size
    · have hcell := live_cell hlt hI
      obtain ⟨b0, hcell⟩ := hcell
      have hfz := hI.1.frozenAt k
      have h3 : (((s[k].toNat : Int) == 39) = true) ∨ (((s[k].toNat : Int) == 39) = false ∧ ((s[k].toNat : Int) == 34) = true) ∨ (((s[k].toNat : Int) == 39) = false ∧ ((s[k].toNat : Int) == 34) = false) := by
        cases ((s[k].toNat : Int) == 39) <;> cases ((s[k].toNat : Int) == 34) <;> simp
      rcases h3 with h39 | ⟨h39, h34⟩ | ⟨h39, h34⟩
      · have hq : Hid ((s[k].toNat : Int) = 39 ∨ (s[k].toNat : Int) = 34) := .inl (by simpa using h39)
        clear hcell hfz
        go_wp2
        go_loop [6] (fun jv => ∃ j : Nat, k + 1 ≤ j ∧ j ≤ s.size ∧ jv = .int .i64 j ∧ Clear s k j) (fun jv => s.size - (intOf jv).toNat)
        case atStart => exact ⟨k + 1, by omega, by omega, by go_num, clear_start s k⟩
        case round =>
          obtain ⟨j, hj1, hj2, rfl, hC⟩ := hrel
          by_cases hjl : j < s.size
          · have h5 : ((s[j].toNat : Int) != (s[k].toNat : Int)) = true ∨ ((s[j].toNat : Int) != (s[k].toNat : Int)) = false := by
              cases ((s[j].toNat : Int) != (s[k].toNat : Int)) <;> simp
            rcases h5 with h5 | h5
            · go_wp2
              go_round
              case rel => exact ⟨j + 1, by omega, by omega, by go_num, clear_next hjl hlt hC h5⟩
              case measure => simp [intOf]; omega
            · go_wp2
              go_roundw
              case rel => exact ⟨j + 1, by omega, by go_num, live_span hlt hjl (by omega) hI hq hC h5⟩
              case measure => simp [intOf]; omega
          · go_wp2
            go_ret
            exact ⟨rfl, live_open hlt hjl hI hq hC, hI.2.1⟩
      · have hq : Hid ((s[k].toNat : Int) = 39 ∨ (s[k].toNat : Int) = 34) := .inr (by simpa using h34)
        clear hcell hfz
        go_wp2
        go_loop [6] (fun jv => ∃ j : Nat, k + 1 ≤ j ∧ j ≤ s.size ∧ jv = .int .i64 j ∧ Clear s k j) (fun jv => s.size - (intOf jv).toNat)
        case atStart => exact ⟨k + 1, by omega, by omega, by go_num, clear_start s k⟩
        case round =>
          obtain ⟨j, hj1, hj2, rfl, hC⟩ := hrel
          by_cases hjl : j < s.size
          · have h5 : ((s[j].toNat : Int) != (s[k].toNat : Int)) = true ∨ ((s[j].toNat : Int) != (s[k].toNat : Int)) = false := by
              cases ((s[j].toNat : Int) != (s[k].toNat : Int)) <;> simp
            rcases h5 with h5 | h5
            · go_wp2
              go_round
              case rel => exact ⟨j + 1, by omega, by omega, by go_num, clear_next hjl hlt hC h5⟩
              case measure => simp [intOf]; omega
            · go_wp2
              go_roundw
              case rel => exact ⟨j + 1, by omega, by go_num, live_span hlt hjl (by omega) hI hq hC h5⟩
              case measure => simp [intOf]; omega
          · go_wp2
            go_ret
            exact ⟨rfl, live_open hlt hjl hI hq hC, hI.2.1⟩
      · go_wp2
        go_roundw
        case rel => exact ⟨k + 1, by omega, by go_num, live_lit hlt hI h39 h34⟩
        case measure => simp [intOf]; omega
    · go_wp2
      go_ret
      exact ⟨rfl, live_done hk hlt hI, hI.2.1⟩
end Go.Proofs.Qxb6621630a.Ce
