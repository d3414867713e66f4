/-
  'ZZplatforms' (14) by the contract of 'platforms'; what its result is good for.
-/
import Derived.Test.Qxb6621630aPlPlat
namespace Go.Proofs.Qxb6621630a.Pl
open Go.ChangeShapes Go.WideShapes Go.ChangeAt Go.RowKit

/-- a slice value at a, of n pairs of strings, leads to just the pairs l. -/
structure Pairs (w : World) (a : Option Addr) (n : Nat) (l : List (ByteArray × ByteArray)) : Prop where
  hlen : l.length = n
  cells : 0 < n → ∃ g, a = some ⟨g, 0, none⟩ ∧ g < w.heap.size ∧ ∀ i (hi : i < l.length), w.cell? ⟨g, i * 2, none⟩ = some (.string l[i].1) ∧ w.cell? ⟨g, i * 2 + 1, none⟩ = some (.string l[i].2)

theorem Pairs.keep {w w' : World} {a : Option Addr} {n : Nat} {l : List (ByteArray × ByteArray)} (h : Pairs w a n l) (hb : Below w.heap.size w w') : Pairs w' a n l := by
  refine ⟨h.hlen, fun h0 => ?_⟩
  obtain ⟨g, e, hlt, hc⟩ := h.cells h0
  refine ⟨g, e, Nat.lt_of_lt_of_le hlt hb.size, fun i hi => ⟨?_, ?_⟩⟩
  · exact (hb.cell (p := ⟨g, i * 2, none⟩) hlt).trans (hc i hi).1
  · exact (hb.cell (p := ⟨g, i * 2 + 1, none⟩) hlt).trans (hc i hi).2

theorem pcells_at : ∀ (l : List (ByteArray × ByteArray)) (i : Nat) (hi : i < l.length), (pcells l)[i * 2]? = some (.string l[i].1) ∧ (pcells l)[i * 2 + 1]? = some (.string l[i].2)
  | [], i, hi => by simp at hi
  | p :: l, 0, hi => by simp [pcells]
  | p :: l, i + 1, hi => by
    have ih := pcells_at l i (by simpa using hi)
    have e : pcells (p :: l) = .string p.1 :: .string p.2 :: pcells l := by simp [pcells]
    rw [e, show (i + 1) * 2 = i * 2 + 1 + 1 by omega]
    simpa using ih

theorem pairs_of {w : World} {B : Nat} {v : Value} {l : List (ByteArray × ByteArray)} (h : w.ownsRow B 36 2 v l.length (pcells l)) : ∃ a cap, v = .slice a l.length cap ∧ Pairs w a l.length l := by
  rcases h.2 with ⟨rfl, h0⟩ | ⟨g, cap, cur, rfl, h2, h3, h4⟩
  · exact ⟨none, 0, by rw [h0], rfl, fun hh => by omega⟩
  · refine ⟨some ⟨g, 0, none⟩, cap, rfl, rfl, fun hh => ⟨g, rfl, ?_, fun i hi => ?_⟩⟩
    · exact (h.lt g rfl).2
    · have := pcells_at l i hi
      rw [← this.1, ← this.2]
      exact ⟨h.cellAt (i * 2) (by omega), h.cellAt (i * 2 + 1) (by omega)⟩

def ZPost (w : World) (N : Nat) (l : List (ByteArray × ByteArray)) (e : Ending) (w' : World) : Prop :=
  ∃ a cap, e = .returned (.slice a N cap) ∧ Pairs w' a N l ∧ Below w.heap.size w w'

theorem zz_plat (oa aa : Option Addr) (no co na ca N : Nat) (O A : List ByteArray) (w : World) (hO : Strs w.heap.size w oa no O) (hA : Strs w.heap.size w aa na A) (hn : no ≤ 10000) (hm : na ≤ 10000) (hN : no * na = N) :
    Calls Try.prog 14 #[.agg #[.slice oa no co, .slice aa na ca]] w fun e w' => ZPost w N (plats O A) e w' := by
  have hN' : (plats O A).length = N := by rw [plats_length, hO.hlen, hA.hlen, hN]
  have hb1 : Below w.heap.size w (w.alloc (.cells #[.slice oa no co, .slice aa na ca] 34)) := (Below.refl _ _).alloc (Nat.le_refl _) _
  have HO := hide ((hO.keep hb1 (Nat.le_refl _)).wider (B' := (w.alloc (.cells #[.slice oa no co, .slice aa na ca] 34)).heap.size) (by simp))
  have HA := hide ((hA.keep hb1 (Nat.le_refl _)).wider (B' := (w.alloc (.cells #[.slice oa no co, .slice aa na ca] 34)).heap.size) (by simp))
  have HB := hide hb1
  have HN := hide hN'
  clear hO hA hb1 hN hN'
  go_enter Try.func14, Try.ntmps14
  go_wp2_with fail
  refine (plat_any oa aa no co na ca O A _ HO.out HA.out hn hm).mono ?_
  rintro e w1 ⟨v, rfl, hown, hbel⟩
  rw [← plats_length] at hown
  obtain ⟨a, cap, rfl, hp⟩ := pairs_of hown
  go_wp2
  go_ret
  have hfin : Below w.heap.size w w1 := HB.out.trans (hbel.mono (by simp))
  rw [HN.out] at hp ⊢
  exact ⟨a, cap, rfl, hp, hfin⟩

theorem prow_at (g : ByteArray) (A : List ByteArray) (y : Nat) (hy : y < A.length) : (prow g A)[y]? = some (g, A[y]) := by
  simp [prow, hy]
theorem plats_at : ∀ (O A : List ByteArray) (x y : Nat) (hx : x < O.length) (hy : y < A.length), (plats O A)[x * A.length + y]? = some (goos O[x], A[y])
  | [], _, _, _, hx, _ => by simp at hx
  | o :: O, A, 0, y, hx, hy => by
    have e : plats (o :: O) A = prow (goos o) A ++ plats O A := by simp [plats]
    rw [e, Nat.zero_mul, Nat.zero_add, List.getElem?_append_left (by simpa [prow] using hy)]
    exact prow_at _ _ _ hy
  | o :: O, A, x + 1, y, hx, hy => by
    have e : plats (o :: O) A = prow (goos o) A ++ plats O A := by simp [plats]
    have el : (prow (goos o) A).length = A.length := by simp [prow]
    rw [e, List.getElem?_append_right (by rw [el, Nat.add_mul]; omega), el]
    rw [show (x + 1) * A.length + y - A.length = x * A.length + y by rw [Nat.add_mul]; omega]
    have := plats_at O A x y (by simpa using hx) hy
    simpa using this

/-- the two cells at place i of a slice of pairs. -/
theorem Pairs.at {w : World} {a : Option Addr} {n : Nat} {l : List (ByteArray × ByteArray)} (h : Pairs w a n l) {i : Nat} {p : ByteArray × ByteArray} (hi : l[i]? = some p) :
    ∃ g, a = some ⟨g, 0, none⟩ ∧ g < w.heap.size ∧ w.cell? ⟨g, i * 2, none⟩ = some (.string p.1) ∧ w.cell? ⟨g, i * 2 + 1, none⟩ = some (.string p.2) := by
  obtain ⟨hlt, rfl⟩ := List.getElem?_eq_some_iff.1 hi
  obtain ⟨g, e, hg, hc⟩ := h.cells (by have := h.hlen; omega)
  exact ⟨g, e, hg, hc i hlt⟩

end Go.Proofs.Qxb6621630a.Pl
