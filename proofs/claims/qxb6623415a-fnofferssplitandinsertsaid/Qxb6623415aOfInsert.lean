/-
  'ZZOffers' at every slice of values; the walk of 'zzInsert' (8).
-/
import Derived.Test.Qxb6623415aOfZZ
namespace Go.Proofs.Qxb6623415a.Of
open Go.ChangeShapes Go.WideShapes Go.ChangeAt Go.RowKit

theorem zz_any (oa va da : Option Addr) (no co n c nd cd : Nat) (V : List Int) (t : Int) (w : World) (hV : Bys w.heap.size w va n V) (hnil : va = none → n = 0 ∧ c = 0) (hD : Dat w.heap.size w da nd) (hn : n ≤ 4194304) :
    Calls Try.prog 7 #[.slice oa no co, .slice va n c, .slice da nd cd, .int .u8 t] w fun e w' => e = .returned (.bool (offersB V t)) ∧ Below w.heap.size w w' := by
  cases va with
  | none =>
    obtain ⟨rfl, rfl⟩ := hnil rfl
    have hl := hV.hlen
    obtain rfl : V = [] := List.eq_nil_of_length_eq_zero hl
    exact zz_nil oa da no co nd cd t w
  | some ad => exact zz_some oa da ad no co n c nd cd V t w hV hD hn

theorem info5 : (Try.prog.info? 5).map (fun i => (i.zero, i.size, i.bytes)) = some (some (.int .u8 0), 1, 1) := by kernel_rfl

def intV (l : List Int) : List Value := l.map (Value.int .u8)

/-- a row of bytes of the call's own. -/
structure RInv (g : Nat) (w wr : World) (m : Nat) (L : List Int) : Prop where
  own : wr.ownsRow w.heap.size 5 1 (.slice (some ⟨g, 0, none⟩) m m) m (intV L)
  bel : Below w.heap.size w wr

theorem RInv.hlen {g : Nat} {w wr : World} {m : Nat} {L : List Int} (h : RInv g w wr m L) : L.length = m := by
  have := h.own.1; simpa [intV] using this
theorem RInv.start {w w1 : World} {m : Nat} (h : w1.ownsRow w.heap.size 5 1 (.slice (some ⟨w.heap.size, 0, none⟩) m m) m (madeCells #[Value.int .u8 0] m).toList) (hg : w.grownBy w1 none) :
    RInv w.heap.size w w1 m (List.replicate m 0) := by
  refine ⟨?_, (Below.refl _ _).grown hg (Nat.le_refl _) (by simp)⟩
  have e : (madeCells #[Value.int .u8 0] m).toList = intV (List.replicate m 0) := by
    rw [toList_madeCells_one, intV, List.map_replicate]
  rw [← e]; exact h
theorem RInv.low {g : Nat} {w wr : World} {m : Nat} {L : List Int} (h : RInv g w wr m L) : w.heap.size ≤ g ∧ g < wr.heap.size := h.own.lt g rfl
theorem RInv.set {g : Nat} {w wr : World} {m : Nat} {L : List Int} (h : RInv g w wr m L) (j : Nat) (v : Int) : RInv g w (wr.setCell ⟨g, j, none⟩ (.int .u8 v)) m (L.set j v) := by
  refine ⟨?_, h.bel.setCell h.low.1 _⟩
  rw [intV, List.map_set]
  exact (h.own.stored j _).1
theorem RInv.cell {g : Nat} {w wr : World} {m : Nat} {L : List Int} (h : RInv g w wr m L) {j : Nat} {v : Int} (hj : L[j]? = some v) : wr.cell? ⟨g, j, none⟩ = some (.int .u8 v) := by
  have hl : j < L.length := (List.getElem?_eq_some_iff.1 hj).1
  rw [h.own.cellAt j (by have := h.hlen; omega), intV, List.getElem?_map, hj]; rfl
theorem RInv.has {g : Nat} {w wr : World} {m : Nat} {L : List Int} (h : RInv g w wr m L) {j : Nat} (hj : j < m) : ∃ v, wr.cell? ⟨g, j, none⟩ = some (.int .u8 v) :=
  ⟨_, h.cell (List.getElem?_eq_getElem (by rw [h.hlen]; exact hj))⟩
theorem RInv.bys {g : Nat} {w wr : World} {m : Nat} {L : List Int} (h : RInv g w wr m L) (hr : ∀ v ∈ L, 0 ≤ v ∧ v ≤ 255) (hm : m ≤ maxLen) : Bys wr.heap.size wr (some ⟨g, 0, none⟩) m L := by
  refine ⟨h.hlen, fun _ => ⟨g, 0, rfl, h.low.2, fun j hj => ?_⟩, hr, hm⟩
  rw [Nat.zero_add]
  exact h.cell (List.getElem?_eq_getElem hj)

def insL (V : List Int) (k : Nat) (v : Int) : List Int := V.take k ++ v :: V.drop k

theorem insL_at {V L : List Int} {k n : Nat} {v : Int} (hV : V.length = n) (hL : L.length = n + 1) (hk : k ≤ n) (h1 : ∀ j, j < k → L[j]? = V[j]?) (h2 : L[k]? = some v) (h3 : ∀ j, k ≤ j → j < n → L[j + 1]? = V[j]?) : L = insL V k v := by
  apply List.ext_getElem?
  intro i
  unfold insL
  by_cases hi : i < k
  · rw [List.getElem?_append_left (by rw [List.length_take]; omega), List.getElem?_take, if_pos hi]; exact h1 i hi
  · have e : (V.take k).length = k := by rw [List.length_take]; omega
    rw [List.getElem?_append_right (by omega), e]
    by_cases hik : i = k
    · subst hik; simp [h2]
    · obtain ⟨j, rfl⟩ : ∃ j, i = j + 1 := ⟨i - 1, by omega⟩
      rw [show j + 1 - k = (j - k) + 1 by omega, List.getElem?_cons_succ, List.getElem?_drop, show k + (j - k) = j by omega]
      by_cases hj : j < n
      · exact h3 j (by omega) hj
      · rw [List.getElem?_eq_none (by omega), List.getElem?_eq_none (by omega)]

def InsPost (w : World) (m : Nat) (L : List Int) (e : Ending) (w' : World) : Prop := e = .returned (.slice (some ⟨w.heap.size, 0, none⟩) m m) ∧ RInv w.heap.size w w' m L

set_option maxHeartbeats 800000 in
theorem ins_any (va : Option Addr) (n c k : Nat) (V : List Int) (v : Int) (w : World) (hV : Bys w.heap.size w va n V) (hn : n ≤ 4194304) (hk : k ≤ n) :
    Calls Try.prog 8 #[.slice va n c, .int .i64 k, .int .u8 v] w fun e w' => InsPost w (n + 1) (insL V k v) e w' := by
  obtain ⟨i0, hi, hz0, hz1, hz2⟩ := info_parts info5
  have HV := hide hV
  clear hV
  go_enter Try.func8, Try.ntmps8
  go_wp2_with (at_make; refine wpList_make_full _ rfl _ _ 22 rfl w.heap.size 5 i0 (.int .u8 0) 1 Try.underlying22 hi hz0 hz1 _ _ _ _ (n + 1) rfl rfl (by omega) (by omega) (by rw [hz2]; omega) (by unfold maxLen; omega) (Nat.le_refl _) ?_)
  intro w1 hown hg
  have I0 := RInv.start hown hg
  clear hown hg hi hz0 hz1 hz2
  go_wp2
  go_loopw [8] (fun iv wr => ∃ (j : Nat) (L : List Int), j ≤ k ∧ iv = .int .i64 j ∧ RInv w.heap.size w wr (n + 1) L ∧ ∀ i, i < j → L[i]? = V[i]?) (fun iv _ => k - (intOf iv).toNat)
  case atStart => exact ⟨0, _, Nat.zero_le _, rfl, I0, fun i h => by omega⟩
  case round =>
  clear I0
  obtain ⟨j, L, hj, rfl, hI, hL⟩ := hrel
  by_cases hlt : j < k
  · have hj' : j < V.length := by rw [HV.out.hlen]; omega
    obtain ⟨b, off, rfl, hb, hc⟩ := HV.out.cells (by omega)
    have d0 := (hI.bel.cell (p := ⟨b, off + j, none⟩) hb).trans (hc j hj')
    obtain ⟨v0, m0⟩ := hI.has (j := j) (by omega)
    have z0 := hI.own.frozenAt j
    have R := hI.set j V[j]
    have hL2 : ∀ i, i < j + 1 → (L.set j V[j])[i]? = V[i]? := by
      intro i hi
      by_cases e : i = j
      · subst e; rw [List.getElem?_set_self (by rw [hI.hlen]; omega), List.getElem?_eq_getElem hj']
      · rw [List.getElem?_set_ne (by omega)]; exact hL i (by omega)
    obtain ⟨x, hx⟩ : ∃ x, V[j] = x := ⟨_, rfl⟩
    rw [hx] at d0 R hL2
    have HR := hide R
    have HL2 := hide hL2
    clear hc hI hL R hL2 hx
    have i1 : (j : Int) < (n : Int) := by omega
    have i2 : (j : Int) < (n : Int) + 1 := by omega
    go_wp2
    go_roundw
    case rel => exact ⟨j + 1, _, by omega, by go_num, HR.out, HL2.out⟩
    case measure => simp [intOf]; omega
  obtain rfl : j = k := by omega
  clear hlt hj
  obtain ⟨v0, m0⟩ := hI.has (j := j) (by omega)
  have z0 := hI.own.frozenAt j
  have R := hI.set j v
  have hl1 := hI.hlen
  have hR1 : ∀ i, i < j → (L.set j v)[i]? = V[i]? := fun i hi => by rw [List.getElem?_set_ne (by omega)]; exact hL i hi
  have hR2 : (L.set j v)[j]? = some v := by rw [List.getElem?_set_self (by omega)]
  have HR := hide R
  have HR1 := hide hR1
  have HR2 := hide hR2
  clear R hR1 hR2 hL hl1 hI
  have i3 : (j : Int) < (n : Int) + 1 := by omega
  go_wp2
  go_loopw [9] (fun iv wr => ∃ (q : Nat) (L : List Int), j ≤ q ∧ q ≤ n ∧ iv = .int .i64 q ∧ RInv w.heap.size w wr (n + 1) L ∧ (∀ i, i < j → L[i]? = V[i]?) ∧ L[j]? = some v ∧ ∀ i, j ≤ i → i < q → L[i + 1]? = V[i]?) (fun iv _ => n - (intOf iv).toNat)
  case atStart => exact ⟨j, _, Nat.le_refl _, by omega, rfl, HR.out, HR1.out, HR2.out, fun i h1 h2 => by omega⟩
  case round =>
  clear HR HR1 HR2 m0 z0
  obtain ⟨q, L, hjq, hq, rfl, hI, hL1, hL2, hL3⟩ := hrel
  by_cases hlt : q < n
  · have hq' : q < V.length := by rw [HV.out.hlen]; omega
    obtain ⟨b, off, rfl, hb, hc⟩ := HV.out.cells (by omega)
    have d0 := (hI.bel.cell (p := ⟨b, off + q, none⟩) hb).trans (hc q hq')
    obtain ⟨v1, m1⟩ := hI.has (j := q + 1) (by omega)
    have z1 := hI.own.frozenAt (q + 1)
    have R := hI.set (q + 1) V[q]
    have g1 : ∀ i, i < j → (L.set (q + 1) V[q])[i]? = V[i]? := fun i hi => by rw [List.getElem?_set_ne (by omega)]; exact hL1 i hi
    have g2 : (L.set (q + 1) V[q])[j]? = some v := by rw [List.getElem?_set_ne (by omega)]; exact hL2
    have g3 : ∀ i, j ≤ i → i < q + 1 → (L.set (q + 1) V[q])[i + 1]? = V[i]? := by
      intro i h1 h2
      by_cases e : i = q
      · subst e; rw [List.getElem?_set_self (by rw [hI.hlen]; omega), List.getElem?_eq_getElem hq']
      · rw [List.getElem?_set_ne (by omega)]; exact hL3 i h1 (by omega)
    obtain ⟨x, hx⟩ : ∃ x, V[q] = x := ⟨_, rfl⟩
    rw [hx] at d0 R g1 g2 g3
    have HR := hide R
    have G1 := hide g1
    have G2 := hide g2
    have G3 := hide g3
    clear hc hI hL1 hL2 hL3 R g1 g2 g3 hx
    have i1 : (q : Int) < (n : Int) := by omega
    have i2 : (q : Int) + 1 < (n : Int) + 1 := by omega
    go_wp2
    go_roundw
    case rel => exact ⟨q + 1, _, by omega, by omega, by go_num, HR.out, G1.out, G2.out, G3.out⟩
    case measure => simp [intOf]; omega
  obtain rfl : q = n := by omega
  have hfin := insL_at HV.out.hlen hI.hlen (by omega) hL1 hL2 hL3
  rw [hfin] at hI
  have HI := hide hI
  clear hI hL1 hL2 hL3 hfin
  go_wp2
  go_ret
  exact ⟨rfl, HI.out⟩
end Go.Proofs.Qxb6623415a.Of
