/-
  Views of []string, [][]string and of the labels; walks of 'slices.Index' (12), 'slices.Contains' (11) at []string, 'zzB1Add' (8), 'zzB1Small' (4).
-/
import Derived.Test.Qxb6623441aRows
import Derived.WalkKit
import Derived.ProofKit
import Derived.Below
import Derived.WalkLawsBesides
namespace Go.Proofs.Qxb6623441a.Mt
open Go.ChangeShapes Go.WideShapes Go.ChangeAt Go.RowKit

theorem hide {p : Prop} (h : p) : Hid p := h

/-- the strings L lie where the slice leads, in a block below B. -/
structure Strs (B : Nat) (w : World) (a : Option Addr) (len : Nat) (L : List ByteArray) : Prop where
  hlen : L.length = len
  cells : 0 < len → ∃ b off, a = some ⟨b, off, none⟩ ∧ b < B ∧ ∀ j (hj : j < L.length), w.cell? ⟨b, off + j, none⟩ = some (.string L[j])
  sizes : ∀ s ∈ L, s.size ≤ maxLen
  few : len ≤ maxLen

theorem Strs.keep {B B' : Nat} {w w' : World} {a : Option Addr} {len : Nat} {L : List ByteArray} (h : Strs B w a len L) (hb : Below B' w w') (hB : B ≤ B') : Strs B w' a len L := by
  refine ⟨h.hlen, fun h0 => ?_, h.sizes, h.few⟩
  obtain ⟨b, off, e, hlt, hc⟩ := h.cells h0
  exact ⟨b, off, e, hlt, fun j hj => (hb.cell (p := ⟨b, off + j, none⟩) (Nat.lt_of_lt_of_le hlt hB)).trans (hc j hj)⟩
theorem Strs.wider {B B' : Nat} {w : World} {a : Option Addr} {len : Nat} {L : List ByteArray} (h : Strs B w a len L) (hB : B ≤ B') : Strs B' w a len L := by
  refine ⟨h.hlen, fun h0 => ?_, h.sizes, h.few⟩
  obtain ⟨b, off, e, hlt, hc⟩ := h.cells h0
  exact ⟨b, off, e, Nat.lt_of_lt_of_le hlt hB, hc⟩
theorem Strs.nil (B : Nat) (w : World) : Strs B w none 0 [] := ⟨rfl, fun h => by omega, fun s h => by simp at h, by unfold maxLen; omega⟩

/-- the lists LL lie where the slice of slices leads, all in blocks below B. -/
structure VS (B : Nat) (w : World) (a : Option Addr) (len : Nat) (LL : List (List ByteArray)) : Prop where
  hlen : LL.length = len
  cells : 0 < len → ∃ b off, a = some ⟨b, off, none⟩ ∧ b < B ∧ ∀ j (hj : j < LL.length), ∃ x c, w.cell? ⟨b, off + j, none⟩ = some (.slice x LL[j].length c) ∧ Strs B w x LL[j].length LL[j]
  few : len ≤ maxLen

theorem VS.keep {B B' : Nat} {w w' : World} {a : Option Addr} {len : Nat} {LL : List (List ByteArray)} (h : VS B w a len LL) (hb : Below B' w w') (hB : B ≤ B') : VS B w' a len LL := by
  refine ⟨h.hlen, fun h0 => ?_, h.few⟩
  obtain ⟨b, off, e, hlt, hc⟩ := h.cells h0
  refine ⟨b, off, e, hlt, fun j hj => ?_⟩
  obtain ⟨x, c, h1, h2⟩ := hc j hj
  exact ⟨x, c, (hb.cell (p := ⟨b, off + j, none⟩) (Nat.lt_of_lt_of_le hlt hB)).trans h1, h2.keep hb hB⟩
theorem VS.wider {B B' : Nat} {w : World} {a : Option Addr} {len : Nat} {LL : List (List ByteArray)} (h : VS B w a len LL) (hB : B ≤ B') : VS B' w a len LL := by
  refine ⟨h.hlen, fun h0 => ?_, h.few⟩
  obtain ⟨b, off, e, hlt, hc⟩ := h.cells h0
  refine ⟨b, off, e, Nat.lt_of_lt_of_le hlt hB, fun j hj => ?_⟩
  obtain ⟨x, c, h1, h2⟩ := hc j hj
  exact ⟨x, c, h1, h2.wider hB⟩
theorem VS.nil (B : Nat) (w : World) : VS B w none 0 [] := ⟨rfl, fun h => by omega, by unfold maxLen; omega⟩

/-- how the labels answer, in w and in every later world. -/
structure Lab (w : World) (mv : Value) (lk : ByteArray → ByteArray × Bool) : Prop where
  look : ∀ w', Below w.heap.size w w' → ∀ k : ByteArray, k.size ≤ maxLen → (Instr.lookup 24 mv (.string k) true).run Try.prog w' = .ok (.tuple #[.string (lk k).1, .bool (lk k).2]) w'
theorem Lab.keep {w w' : World} {mv : Value} {lk : ByteArray → ByteArray × Bool} (h : Lab w mv lk) (hb : Below w.heap.size w w') : Lab w' mv lk :=
  ⟨fun w2 h2 k hk => h.look w2 (hb.trans (h2.mono hb.size)) k hk⟩

/-! ### slices.Contains -/
def hasS (L : List ByteArray) (v : ByteArray) : Bool := L.any fun s => v.toList == s.toList

theorem has_hit {L : List ByteArray} {v : ByteArray} {k : Nat} (hk : k < L.length) (h : (v.toList == L[k].toList) = true) : hasS L v = true := by
  rw [hasS, List.any_eq_true]
  exact ⟨L[k], List.getElem_mem hk, h⟩
theorem has_miss {L : List ByteArray} {v : ByteArray} {k : Nat} (hk : k < L.length) (h0 : hasS (L.take k) v = false) (h : (v.toList == L[k].toList) = false) : hasS (L.take (k + 1)) v = false := by
  rw [List.take_succ_eq_append_getElem hk]
  simp only [hasS, List.any_append, List.any_cons, List.any_nil, Bool.or_false] at h0 ⊢
  rw [h0, h]; rfl

/-- what 'slices.Index' hands back. -/
def IdxPost (L : List ByteArray) (v : ByteArray) (e : Ending) : Prop := ∃ i : Int, e = .returned (.int .i64 i) ∧ (0 ≤ i ↔ hasS L v = true)

set_option maxHeartbeats 400000 in
theorem idx_any (a : Option Addr) (n c B : Nat) (L : List ByteArray) (v : ByteArray) (w : World) (hL : Strs B w a n L) :
    Calls Try.prog 12 #[.slice a n c, .string v] w fun e w' => IdxPost L v e ∧ w' = w := by
  have hf := hL.few
  unfold maxLen at hf
  have HL := hide hL
  clear hL
  go_enter Try.func12, Try.ntmps12
  go_wp2
  go_loop [8] (fun iv => ∃ k : Nat, k ≤ n ∧ iv = .int .i64 k ∧ hasS (L.take k) v = false) (fun iv => n - (intOf iv).toNat)
  case atStart => exact ⟨0, Nat.zero_le _, rfl, rfl⟩
  case round =>
    obtain ⟨k, hk, rfl, hno⟩ := hrel
    have HNO := hide hno
    clear hno
    by_cases hlt : k < n
    · have hk' : k < L.length := by rw [HL.out.hlen]; exact hlt
      obtain ⟨b, off, rfl, hb, hc⟩ := HL.out.cells (by omega)
      have hcell := hc k hk'
      obtain ⟨s, hs⟩ : ∃ s, L[k] = s := ⟨_, rfl⟩
      rw [hs] at hcell
      have HS := hide hs
      clear hs hc
      have hh : (v.toList == s.toList) = true ∨ (v.toList == s.toList) = false := by cases (v.toList == s.toList) <;> simp
      rcases hh with hh | hh
      · have HY := hide (has_hit hk' (by rw [HS.out]; exact hh))
        go_wp2
        go_ret
        exact ⟨⟨_, rfl, ⟨fun _ => HY.out, fun _ => by omega⟩⟩, rfl⟩
      · have HY := hide (has_miss hk' HNO.out (by rw [HS.out]; exact hh))
        go_wp2
        go_round
        case rel => exact ⟨k + 1, by omega, by go_num, HY.out⟩
        case measure => simp [intOf]; omega
    · have hno := HNO.out
      rw [show L.take k = L from List.take_of_length_le (by rw [HL.out.hlen]; omega)] at hno
      have HN := hide hno
      clear hno HNO
      go_wp2
      go_ret
      exact ⟨⟨_, rfl, ⟨fun h => by omega, fun h => by rw [HN.out] at h; cases h⟩⟩, rfl⟩

theorem has_any (a : Option Addr) (n c B : Nat) (L : List ByteArray) (v : ByteArray) (w : World) (r : Bool) (hr : hasS L v = r) (hL : Strs B w a n L) :
    Calls Try.prog 11 #[.slice a n c, .string v] w fun e w' => e = .returned (.bool r) ∧ w' = w := by
  have HL := hide hL
  have HR := hide hr
  clear hL hr
  go_enter Try.func11, Try.ntmps11
  go_wp2_with fail
  refine (idx_any a n c _ L v _ HL.out).mono ?_
  rintro e w' ⟨⟨i, rfl, hi⟩, rfl⟩
  have HI := hide hi
  clear hi
  cases r
  · have hlt : i < 0 := by
      rcases Int.lt_or_le i 0 with h | h
      · exact h
      · have := HI.out.1 h; rw [HR.out] at this; cases this
    have hd : decide (0 ≤ i) = false := by simp; omega
    go_wp2
    go_ret
    exact ⟨rfl, rfl⟩
  · have hge : 0 ≤ i := HI.out.2 HR.out
    go_wp2
    go_ret
    exact ⟨rfl, rfl⟩

/-! ### the guards -/
def SomeBool (e : Ending) : Prop := ∃ v, e = .returned (.bool v)
theorem someBool (v : Bool) : SomeBool (.returned (.bool v)) := ⟨v, rfl⟩
def AddPost (e : Ending) : Prop := ∃ r : Int, 0 ≤ r ∧ r ≤ 1048577 ∧ e = .returned (.int .i64 r)

set_option maxHeartbeats 400000 in
theorem add_any (z : Int) (a : Option Addr) (n c B : Nat) (L : List ByteArray) (w : World) (hL : Strs B w a n L) (h0 : 0 ≤ z) (h1 : z ≤ 1048576) :
    Calls Try.prog 8 #[.int .i64 z, .slice a n c] w fun e w' => AddPost e ∧ w' = w := by
  have hf := hL.few
  unfold maxLen at hf
  have HL := hide hL
  clear hL
  go_enter Try.func8, Try.ntmps8
  go_wp2
  go_loop [0, 5] (fun zv iv => ∃ (k : Nat) (r : Int), k ≤ n ∧ 0 ≤ r ∧ r ≤ 1048576 ∧ zv = .int .i64 r ∧ iv = .int .i64 k) (fun _ iv => n - (intOf iv).toNat)
  case atStart => exact ⟨0, _, Nat.zero_le _, by omega, by omega, rfl, rfl⟩
  case round =>
    obtain ⟨k, r, hk, hr0, hr1, rfl, rfl⟩ := hrel
    by_cases hlt : k < n
    · have hk' : k < L.length := by rw [HL.out.hlen]; exact hlt
      obtain ⟨b, off, rfl, hb, hc⟩ := HL.out.cells (by omega)
      have hcell := hc k hk'
      have hsz := HL.out.sizes _ (List.getElem_mem hk')
      unfold maxLen at hsz
      generalize L[k] = s at hcell hsz
      clear hc
      by_cases hs : s.size ≤ 1048576
      · by_cases hz : r + 8 + (s.size : Int) ≤ 1048576
        · go_wp2
          go_round
          case rel => exact ⟨k + 1, _, by omega, by omega, by omega, rfl, by go_num⟩
          case measure => simp [intOf]; omega
        · go_wp2
          go_ret
          exact ⟨⟨_, by omega, by omega, rfl⟩, rfl⟩
      · go_wp2
        go_ret
        exact ⟨⟨_, by omega, by omega, rfl⟩, rfl⟩
    · go_wp2
      go_ret
      exact ⟨⟨_, by omega, by omega, rfl⟩, rfl⟩

set_option maxHeartbeats 800000 in
theorem small_any (a0 a1 a2 : Option Addr) (n0 c0 n1 c1 n2 c2 B : Nat) (L0 L1 : List ByteArray) (LL : List (List ByteArray)) (w : World) (h0 : Strs B w a0 n0 L0) (h1 : Strs B w a1 n1 L1) (h2 : VS B w a2 n2 LL) :
    Calls Try.prog 4 #[.int .i64 0, .slice a0 n0 c0, .slice a1 n1 c1, .slice a2 n2 c2, .slice none 0 0] w fun e w' => SomeBool e ∧ w' = w := by
  have f2 := h2.few
  unfold maxLen at f2
  have H0 := hide h0
  have H1 := hide h1
  have H2 := hide h2
  clear h0 h1 h2
  go_enter Try.func4, Try.ntmps4
  go_wp2_with fail
  refine (add_any 0 a0 n0 c0 _ L0 _ H0.out (by omega) (by omega)).mono ?_
  rintro e w' ⟨⟨r0, hr00, hr01, rfl⟩, rfl⟩
  by_cases g0 : r0 ≤ 1048576
  rotate_left
  · go_wp2_with fail
    go_ret
    exact ⟨someBool _, rfl⟩
  go_wp2_with fail
  refine (add_any r0 a1 n1 c1 _ L1 _ H1.out hr00 g0).mono ?_
  rintro e w' ⟨⟨r1, hr10, hr11, rfl⟩, rfl⟩
  by_cases g1 : r1 ≤ 1048576
  rotate_left
  · go_wp2_with fail
    go_ret
    exact ⟨someBool _, rfl⟩
  go_wp2_with fail
  refine (add_any r1 none 0 0 0 [] _ (Strs.nil _ _) hr10 g1).mono ?_
  rintro e w' ⟨⟨r2, hr20, hr21, rfl⟩, rfl⟩
  by_cases g2 : r2 ≤ 1048576
  rotate_left
  · go_wp2_with fail
    go_ret
    exact ⟨someBool _, rfl⟩
  go_wp2
  go_loop [11, 12] (fun zv iv => ∃ (k : Nat) (z : Int), k ≤ n2 ∧ 0 ≤ z ∧ z ≤ 1048576 ∧ zv = .int .i64 z ∧ iv = .int .i64 k) (fun _ iv => n2 - (intOf iv).toNat)
  case atStart => exact ⟨0, _, Nat.zero_le _, by omega, by omega, rfl, rfl⟩
  case round =>
    obtain ⟨k, z, hk, hz0, hz1, rfl, rfl⟩ := hrel
    by_cases hlt : k < n2
    · have hk' : k < LL.length := by rw [H2.out.hlen]; exact hlt
      obtain ⟨b, off, rfl, hb, hc⟩ := H2.out.cells (by omega)
      obtain ⟨x, c, hcell, hS⟩ := hc k hk'
      have HS := hide hS
      clear hc hS
      generalize LL[k] = s at hcell HS
      by_cases hz : z + 24 ≤ 1048576
      · go_wp2_with fail
        refine (add_any (z + 24) x s.length c _ s _ HS.out (by omega) hz).mono ?_
        rintro e w' ⟨⟨r, hr0, hr1, rfl⟩, rfl⟩
        by_cases g3 : r ≤ 1048576
        · go_wp2_with fail
          go_round
          case rel => exact ⟨k + 1, r, by omega, hr0, g3, rfl, by go_num⟩
          case measure => simp [intOf]; omega
        · go_wp2_with fail
          go_ret
          exact ⟨someBool _, rfl⟩
      · go_wp2_with fail
        go_ret
        exact ⟨someBool _, rfl⟩
    · go_wp2
      go_ret
      exact ⟨someBool _, rfl⟩
end Go.Proofs.Qxb6623441a.Mt
