/-
  The walks of 'zzB1Join' (6) and 'zzB1JoinV' (7).
-/
import Derived.Test.Qxb6623441aMtZZ
namespace Go.Proofs.Qxb6623441a.Mt
open Go.ChangeShapes Go.WideShapes Go.ChangeAt Go.RowKit

theorem info9 : (Try.prog.info? 9).map (fun i => (i.zero, i.size, i.bytes)) = some (some (.string ⟨#[]⟩), 1, 16) := by kernel_rfl
theorem info22 : (Try.prog.info? 22).map (fun i => (i.zero, i.size, i.bytes)) = some (some (.slice none 0 0), 1, 24) := by kernel_rfl

/-- a row of the call's own, of one-cell elements. -/
structure JInv (e : TypeId) (w wr : World) (m : Nat) (C : List Value) : Prop where
  own : wr.ownsRow w.heap.size e 1 (.slice (some ⟨w.heap.size, 0, none⟩) m m) m C
  bel : Below w.heap.size w wr

theorem JInv.hlen {e : TypeId} {w wr : World} {m : Nat} {C : List Value} (h : JInv e w wr m C) : C.length = m := by have := h.own.1; omega
theorem JInv.start {e : TypeId} {w w1 : World} {m : Nat} {C : List Value} (h : w1.ownsRow w.heap.size e 1 (.slice (some ⟨w.heap.size, 0, none⟩) m m) m C) (hg : w.grownBy w1 none) : JInv e w w1 m C :=
  ⟨h, (Below.refl _ _).grown hg (Nat.le_refl _) (by simp)⟩
theorem JInv.set {e : TypeId} {w wr : World} {m : Nat} {C : List Value} (h : JInv e w wr m C) (j : Nat) (v : Value) : JInv e w (wr.setCell ⟨w.heap.size, j, none⟩ v) m (C.set j v) :=
  ⟨(h.own.stored j v).1, h.bel.setCell (Nat.le_refl _) _⟩
theorem JInv.cell {e : TypeId} {w wr : World} {m : Nat} {C : List Value} (h : JInv e w wr m C) {j : Nat} (hj : j < m) : ∃ v, wr.cell? ⟨w.heap.size, j, none⟩ = some v ∧ C[j]? = some v := by
  have hl : j < C.length := by rw [h.hlen]; exact hj
  exact ⟨C[j], by rw [h.own.cellAt j (by omega), List.getElem?_eq_getElem hl], List.getElem?_eq_getElem hl⟩
theorem JInv.low {e : TypeId} {w wr : World} {m : Nat} {C : List Value} (h : JInv e w wr m C) : w.heap.size < wr.heap.size := (h.own.lt w.heap.size rfl).2

/-- the first k places from d on hold what A says. -/
def Upto {α : Type} (G : Value → α → Prop) (A : List α) (d k : Nat) (C : List Value) : Prop := ∀ j (hj : j < A.length), j < k → ∃ v, C[d + j]? = some v ∧ G v A[j]

theorem Upto.zero {α : Type} (G : Value → α → Prop) (A : List α) (d : Nat) (C : List Value) : Upto G A d 0 C := fun j _ h => by omega
theorem Upto.next {α : Type} {G : Value → α → Prop} {A : List α} {d k : Nat} {C : List Value} (h : Upto G A d k C) (hk : k < A.length) (hC : d + k < C.length) (v : Value) (hv : G v A[k]) : Upto G A d (k + 1) (C.set (d + k) v) := by
  intro j hj hjk
  by_cases e : j = k
  · subst e; exact ⟨v, by rw [List.getElem?_set_self hC], hv⟩
  · rw [List.getElem?_set_ne (by omega)]; exact h j hj (by omega)
theorem Upto.past {α : Type} {G : Value → α → Prop} {A : List α} {k : Nat} {C : List Value} (h : Upto G A 0 A.length C) (v : Value) : Upto G A 0 A.length (C.set (A.length + k) v) := by
  intro j hj hjk
  rw [List.getElem?_set_ne (by omega)]; exact h j hj hjk
theorem Upto.join {α : Type} {G : Value → α → Prop} {A B : List α} {C : List Value} (h : Upto G A 0 A.length C) (h2 : Upto G B A.length B.length C) : Upto G (A ++ B) 0 (A ++ B).length C := by
  intro j hj _
  rw [Nat.zero_add]
  by_cases e : j < A.length
  · obtain ⟨v, hv, hg⟩ := h j e e
    rw [Nat.zero_add] at hv
    exact ⟨v, hv, by rw [List.getElem_append_left e]; exact hg⟩
  · rw [List.length_append] at hj
    obtain ⟨v, hv, hg⟩ := h2 (j - A.length) (by omega) (by omega)
    rw [show A.length + (j - A.length) = j by omega] at hv
    exact ⟨v, hv, by rw [List.getElem_append_right (by omega)]; exact hg⟩

def GS (v : Value) (s : ByteArray) : Prop := v = .string s
def GV (w : World) (v : Value) (l : List ByteArray) : Prop := ∃ x c, v = .slice x l.length c ∧ Strs w.heap.size w x l.length l

theorem JInv.strs {w wr : World} {m : Nat} {C : List Value} {L : List ByteArray} (h : JInv 9 w wr m C) (hU : Upto GS L 0 L.length C) (hm : L.length = m) (hs : ∀ s ∈ L, s.size ≤ maxLen) (hl : m ≤ maxLen) : Strs wr.heap.size wr (some ⟨w.heap.size, 0, none⟩) m L := by
  refine ⟨hm, fun _ => ⟨w.heap.size, 0, rfl, h.low, fun j hj => ?_⟩, hs, hl⟩
  obtain ⟨v, hv, rfl⟩ := hU j hj hj
  rw [Nat.zero_add] at hv ⊢
  exact (h.own.cellAt j (by omega)).trans hv
theorem JInv.vs {w wr : World} {m : Nat} {C : List Value} {L : List (List ByteArray)} (h : JInv 22 w wr m C) (hU : Upto (GV w) L 0 L.length C) (hm : L.length = m) (hl : m ≤ maxLen) : VS wr.heap.size wr (some ⟨w.heap.size, 0, none⟩) m L := by
  refine ⟨hm, fun _ => ⟨w.heap.size, 0, rfl, h.low, fun j hj => ?_⟩, hl⟩
  obtain ⟨v, hv, x, c, rfl, hS⟩ := hU j hj hj
  rw [Nat.zero_add] at hv ⊢
  exact ⟨x, c, (h.own.cellAt j (by omega)).trans hv, (hS.keep h.bel (Nat.le_refl _)).wider h.bel.size⟩

def JoinPost (w : World) (m : Nat) (V : World → Prop) (e : Ending) (w' : World) : Prop := e = .returned (.slice (some ⟨w.heap.size, 0, none⟩) m m) ∧ V w' ∧ Below w.heap.size w w'

set_option maxHeartbeats 800000 in
theorem join_any (a0 a1 : Option Addr) (n0 c0 n1 c1 : Nat) (A B : List ByteArray) (w : World) (h0 : Strs w.heap.size w a0 n0 A) (h1 : Strs w.heap.size w a1 n1 B) (hn0 : n0 ≤ 1048576) (hn1 : n1 ≤ 1048576) :
    Calls Try.prog 6 #[.slice a0 n0 c0, .slice a1 n1 c1] w fun e w' => JoinPost w (n0 + n1) (fun w' => Strs w'.heap.size w' (some ⟨w.heap.size, 0, none⟩) (n0 + n1) (A ++ B)) e w' := by
  obtain ⟨i0, hi, hz0, hz1, hz2⟩ := info_parts info9
  have H0 := hide h0
  have H1 := hide h1
  clear h0 h1
  go_enter Try.func6, Try.ntmps6
  go_wp2_with (at_make; refine wpList_make_full _ rfl _ _ 22 rfl w.heap.size 9 i0 (.string ⟨#[]⟩) 1 Try.underlying22 hi hz0 hz1 _ _ _ _ (n0 + n1) rfl rfl (by omega) (by omega) (by rw [hz2]; omega) (by unfold maxLen; omega) (Nat.le_refl _) ?_)
  intro w1 hown hg
  have I0 := JInv.start hown hg
  clear hown hg hi hz0 hz1 hz2
  go_wp2
  go_loopw [6] (fun iv wr => ∃ (k : Nat) (C : List Value), k ≤ n0 ∧ iv = .int .i64 k ∧ JInv 9 w wr (n0 + n1) C ∧ Upto GS A 0 k C) (fun iv _ => n0 - (intOf iv).toNat)
  case atStart => exact ⟨0, _, Nat.zero_le _, rfl, I0, Upto.zero _ _ _ _⟩
  case round =>
    clear I0
    obtain ⟨k, C, hk, rfl, hI, hU⟩ := hrel
    by_cases hlt : k < n0
    · have k' : k < A.length := by rw [H0.out.hlen]; exact hlt
      obtain ⟨b, off, rfl, hb, hc⟩ := H0.out.cells (by omega)
      have d0 := (hI.bel.cell (p := ⟨b, off + k, none⟩) hb).trans (hc k k')
      have hG : GS (.string A[k]) A[k] := rfl
      obtain ⟨sv, hsv⟩ : ∃ sv, A[k] = sv := ⟨_, rfl⟩
      obtain ⟨ov, o0, -⟩ := hI.cell (j := k) (by omega)
      have z0 := hI.own.frozenAt (k)
      have R := hI.set (k) (.string A[k])
      have U' := hU.next k' (by rw [Nat.zero_add, hI.hlen]; omega) _ hG
      rw [Nat.zero_add] at U'
      rw [hsv] at d0 R U'
      have HR := hide R
      have HU' := hide U'
      clear hc hI hU R U' hG hsv
      have i1 : (k : Int) < (n0 : Int) := by omega
      have i2 : (k : Int) < (n0 : Int) + (n1 : Int) := by omega
      go_wp2
      go_roundw
      case rel => exact ⟨k + 1, _, by omega, by go_num, HR.out, HU'.out⟩
      case measure => simp [intOf]; omega
    obtain rfl : n0 = k := by omega
    clear hlt hk
    have HI := hide hI
    have HUA : Hid (Upto GS A 0 A.length C) := by have := hU; rw [← H0.out.hlen] at this; exact this
    clear hI hU
    go_wp2
    go_loopw [7] (fun iv wr => ∃ (q : Nat) (C : List Value), q ≤ n1 ∧ iv = .int .i64 q ∧ JInv 9 w wr (n0 + n1) C ∧ Upto GS A 0 A.length C ∧ Upto GS B A.length q C) (fun iv _ => n1 - (intOf iv).toNat)
    case atStart => exact ⟨0, _, Nat.zero_le _, rfl, HI.out, HUA.out, Upto.zero _ _ _ _⟩
    case round =>
    clear HI HUA
    obtain ⟨q, C, hq, rfl, hI, hU, hU2⟩ := hrel
    by_cases hlt : q < n1
    · have q' : q < B.length := by rw [H1.out.hlen]; exact hlt
      obtain ⟨b, off, rfl, hb, hc⟩ := H1.out.cells (by omega)
      have d0 := (hI.bel.cell (p := ⟨b, off + q, none⟩) hb).trans (hc q q')
      have hG : GS (.string B[q]) B[q] := rfl
      obtain ⟨sv, hsv⟩ : ∃ sv, B[q] = sv := ⟨_, rfl⟩
      obtain ⟨ov, o0, -⟩ := hI.cell (j := n0 + q) (by omega)
      have z0 := hI.own.frozenAt (n0 + q)
      have R := hI.set (n0 + q) (.string B[q])
      have U' := hU2.next q' (by rw [hI.hlen, H0.out.hlen]; omega) _ hG
      have W' := hU.past (k := q) (.string B[q])
      rw [H0.out.hlen] at U' W'
      rw [hsv] at d0 R U' W'
      have HR := hide R
      have HU' := hide U'
      have HW' := hide W'
      clear hc hI hU hU2 R U' W' hG hsv
      have i1 : (q : Int) < (n1 : Int) := by omega
      have i2 : (n0 : Int) + (q : Int) < (n0 : Int) + (n1 : Int) := by omega
      go_wp2
      go_roundw
      case rel => exact ⟨q + 1, _, by omega, by go_num, HR.out, by rw [H0.out.hlen]; exact HW'.out, by rw [H0.out.hlen]; exact HU'.out⟩
      case measure => simp [intOf]; omega
    have hU3 : Upto GS B A.length B.length C := by
      have e : q = n1 := by omega
      rw [e, ← H1.out.hlen] at hU2
      exact hU2
    have HF := hide (hI.strs (hU.join hU3) (by rw [List.length_append, H0.out.hlen, H1.out.hlen]) (fun s hs => (List.mem_append.1 hs).elim (fun h => H0.out.sizes s h) (fun h => H1.out.sizes s h)) (by unfold maxLen; omega))
    have HB := hide hI.bel
    clear hI hU hU2 hU3
    go_wp2
    go_ret
    exact ⟨rfl, HF.out, HB.out⟩

set_option maxHeartbeats 800000 in
theorem joinV_any (a0 a1 : Option Addr) (n0 c0 n1 c1 : Nat) (A B : List (List ByteArray)) (w : World) (h0 : VS w.heap.size w a0 n0 A) (h1 : VS w.heap.size w a1 n1 B) (hn0 : n0 ≤ 1048576) (hn1 : n1 ≤ 1048576) :
    Calls Try.prog 7 #[.slice a0 n0 c0, .slice a1 n1 c1] w fun e w' => JoinPost w (n0 + n1) (fun w' => VS w'.heap.size w' (some ⟨w.heap.size, 0, none⟩) (n0 + n1) (A ++ B)) e w' := by
  obtain ⟨i0, hi, hz0, hz1, hz2⟩ := info_parts info22
  have H0 := hide h0
  have H1 := hide h1
  clear h0 h1
  go_enter Try.func7, Try.ntmps7
  go_wp2_with (at_make; refine wpList_make_full _ rfl _ _ 23 rfl w.heap.size 22 i0 (.slice none 0 0) 1 Try.underlying23 hi hz0 hz1 _ _ _ _ (n0 + n1) rfl rfl (by omega) (by omega) (by rw [hz2]; omega) (by unfold maxLen; omega) (Nat.le_refl _) ?_)
  intro w1 hown hg
  have I0 := JInv.start hown hg
  clear hown hg hi hz0 hz1 hz2
  go_wp2
  go_loopw [6] (fun iv wr => ∃ (k : Nat) (C : List Value), k ≤ n0 ∧ iv = .int .i64 k ∧ JInv 22 w wr (n0 + n1) C ∧ Upto (GV w) A 0 k C) (fun iv _ => n0 - (intOf iv).toNat)
  case atStart => exact ⟨0, _, Nat.zero_le _, rfl, I0, Upto.zero _ _ _ _⟩
  case round =>
    clear I0
    obtain ⟨k, C, hk, rfl, hI, hU⟩ := hrel
    by_cases hlt : k < n0
    · have k' : k < A.length := by rw [H0.out.hlen]; exact hlt
      obtain ⟨b, off, rfl, hb, hc⟩ := H0.out.cells (by omega)
      obtain ⟨x, c, e0, hS⟩ := hc k k'
      have d0 := (hI.bel.cell (p := ⟨b, off + k, none⟩) hb).trans e0
      have hG : GV w (.slice x A[k].length c) A[k] := ⟨x, c, rfl, hS⟩
      obtain ⟨sv, hsv⟩ : ∃ sv, A[k] = sv := ⟨_, rfl⟩
      obtain ⟨ov, o0, -⟩ := hI.cell (j := k) (by omega)
      have z0 := hI.own.frozenAt (k)
      have R := hI.set (k) (.slice x A[k].length c)
      have U' := hU.next k' (by rw [Nat.zero_add, hI.hlen]; omega) _ hG
      rw [Nat.zero_add] at U'
      rw [hsv] at d0 R U'
      have HR := hide R
      have HU' := hide U'
      clear hc e0 hS hI hU R U' hG hsv
      have i1 : (k : Int) < (n0 : Int) := by omega
      have i2 : (k : Int) < (n0 : Int) + (n1 : Int) := by omega
      go_wp2
      go_roundw
      case rel => exact ⟨k + 1, _, by omega, by go_num, HR.out, HU'.out⟩
      case measure => simp [intOf]; omega
    obtain rfl : n0 = k := by omega
    clear hlt hk
    have HI := hide hI
    have HUA : Hid (Upto (GV w) A 0 A.length C) := by have := hU; rw [← H0.out.hlen] at this; exact this
    clear hI hU
    go_wp2
    go_loopw [7] (fun iv wr => ∃ (q : Nat) (C : List Value), q ≤ n1 ∧ iv = .int .i64 q ∧ JInv 22 w wr (n0 + n1) C ∧ Upto (GV w) A 0 A.length C ∧ Upto (GV w) B A.length q C) (fun iv _ => n1 - (intOf iv).toNat)
    case atStart => exact ⟨0, _, Nat.zero_le _, rfl, HI.out, HUA.out, Upto.zero _ _ _ _⟩
    case round =>
    clear HI HUA
    obtain ⟨q, C, hq, rfl, hI, hU, hU2⟩ := hrel
    by_cases hlt : q < n1
    · have q' : q < B.length := by rw [H1.out.hlen]; exact hlt
      obtain ⟨b, off, rfl, hb, hc⟩ := H1.out.cells (by omega)
      obtain ⟨x, c, e0, hS⟩ := hc q q'
      have d0 := (hI.bel.cell (p := ⟨b, off + q, none⟩) hb).trans e0
      have hG : GV w (.slice x B[q].length c) B[q] := ⟨x, c, rfl, hS⟩
      obtain ⟨sv, hsv⟩ : ∃ sv, B[q] = sv := ⟨_, rfl⟩
      obtain ⟨ov, o0, -⟩ := hI.cell (j := n0 + q) (by omega)
      have z0 := hI.own.frozenAt (n0 + q)
      have R := hI.set (n0 + q) (.slice x B[q].length c)
      have U' := hU2.next q' (by rw [hI.hlen, H0.out.hlen]; omega) _ hG
      have W' := hU.past (k := q) (.slice x B[q].length c)
      rw [H0.out.hlen] at U' W'
      rw [hsv] at d0 R U' W'
      have HR := hide R
      have HU' := hide U'
      have HW' := hide W'
      clear hc e0 hS hI hU hU2 R U' W' hG hsv
      have i1 : (q : Int) < (n1 : Int) := by omega
      have i2 : (n0 : Int) + (q : Int) < (n0 : Int) + (n1 : Int) := by omega
      go_wp2
      go_roundw
      case rel => exact ⟨q + 1, _, by omega, by go_num, HR.out, by rw [H0.out.hlen]; exact HW'.out, by rw [H0.out.hlen]; exact HU'.out⟩
      case measure => simp [intOf]; omega
    have hU3 : Upto (GV w) B A.length B.length C := by
      have e : q = n1 := by omega
      rw [e, ← H1.out.hlen] at hU2
      exact hU2
    have HF := hide (hI.vs (hU.join hU3) (by rw [List.length_append, H0.out.hlen, H1.out.hlen]) (by unfold maxLen; omega))
    have HB := hide hI.bel
    clear hI hU hU2 hU3
    go_wp2
    go_ret
    exact ⟨rfl, HF.out, HB.out⟩

end Go.Proofs.Qxb6623441a.Mt
