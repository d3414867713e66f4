/-
  The walk of 'ZZMatches' (5).
-/
import Derived.Test.Qxb6623441aMtHolds
import Derived.BigRegion
import Derived.RegionTactic
namespace Go.Proofs.Qxb6623441a.Mt
open Go.ChangeShapes Go.WideShapes Go.ChangeAt Go.RowKit

theorem info34 : (Try.prog.info? 34).map (fun i => (i.zero, i.size, i.bytes)) = some (some (.agg #[.string ⟨#[]⟩, .string ⟨#[]⟩, .slice none 0 0]), 3, 56) := by kernel_rfl

theorem made_at3 (a b c : Value) (n j : Nat) (hj : j < n) : (madeCells #[a, b, c] (n * 3)).toList[j * 3]? = some a ∧ (madeCells #[a, b, c] (n * 3)).toList[j * 3 + 1]? = some b ∧ (madeCells #[a, b, c] (n * 3)).toList[j * 3 + 2]? = some c := by
  have h1 : j * 3 < n * 3 := by omega
  have h2 : j * 3 + 1 < n * 3 := by omega
  have h3 : j * 3 + 2 < n * 3 := by omega
  have e1 : j * 3 % 3 = 0 := by omega
  have e2 : (j * 3 + 1) % 3 = 1 := by omega
  have e3 : (j * 3 + 2) % 3 = 2 := by omega
  simp [madeCells, h1, h2, h3, e1, e2, e3]

/-- what the loop keeps of the selector: the first k requirements are R's. -/
structure MInv (w wr : World) (n : Nat) (R : List Req) (k : Nat) (C : List Value) : Prop where
  own : wr.ownsRow w.heap.size 34 3 (.slice (some ⟨w.heap.size, 0, none⟩) n n) n C
  vals : ∀ j (hj : j < R.length), j < k → C[j * 3]? = some (.string R[j].key) ∧ C[j * 3 + 1]? = some (.string R[j].op) ∧ ∃ x c, C[j * 3 + 2]? = some (.slice x R[j].vals.length c) ∧ Strs w.heap.size w x R[j].vals.length R[j].vals
  kind : ∀ j, j < n → (∃ s, C[j * 3]? = some (.string s)) ∧ (∃ s, C[j * 3 + 1]? = some (.string s)) ∧ ∃ x l c, C[j * 3 + 2]? = some (.slice x l c)
  bel : Below w.heap.size w wr

theorem MInv.start {w w1 : World} {n : Nat} {R : List Req} (h : w1.ownsRow w.heap.size 34 3 (.slice (some ⟨w.heap.size, 0, none⟩) n n) n (madeCells #[Value.string ⟨#[]⟩, Value.string ⟨#[]⟩, Value.slice none 0 0] (n * 3)).toList)
    (hg : w.grownBy w1 none) : ∃ C, MInv w w1 n R 0 C :=
  ⟨_, h, fun j _ h0 => by omega, fun j hj => ⟨⟨_, (made_at3 _ _ _ n j hj).1⟩, ⟨_, (made_at3 _ _ _ n j hj).2.1⟩, ⟨_, _, _, (made_at3 _ _ _ n j hj).2.2⟩⟩, (Below.refl _ _).grown hg (Nat.le_refl _) (by simp)⟩

theorem MInv.step {w wr : World} {n : Nat} {R : List Req} {k : Nat} {C : List Value} (h : MInv w wr n R k C) (hk : k < n) (hkR : k < R.length) (x : Option Addr) (c : Nat) (hS : Strs w.heap.size w x R[k].vals.length R[k].vals) :
    ∃ C', MInv w (((wr.setCell ⟨w.heap.size, k * 3, none⟩ (.string R[k].key)).setCell ⟨w.heap.size, k * 3 + 1, none⟩ (.string R[k].op)).setCell ⟨w.heap.size, k * 3 + 2, none⟩ (.slice x R[k].vals.length c)).drew n R (k + 1) C' := by
  have hl : C.length = n * 3 := h.own.1
  have o1 := (h.own.stored (k * 3) (.string R[k].key)).1
  have o2 := (o1.stored (k * 3 + 1) (.string R[k].op)).1
  have o3 := (o2.stored (k * 3 + 2) (.slice x R[k].vals.length c)).1
  have g0 : (((C.set (k * 3) (.string R[k].key)).set (k * 3 + 1) (.string R[k].op)).set (k * 3 + 2) (.slice x R[k].vals.length c))[k * 3]? = some (.string R[k].key) := by
    rw [List.getElem?_set_ne (by omega), List.getElem?_set_ne (by omega), List.getElem?_set_self (by omega)]
  have g1 : (((C.set (k * 3) (.string R[k].key)).set (k * 3 + 1) (.string R[k].op)).set (k * 3 + 2) (.slice x R[k].vals.length c))[k * 3 + 1]? = some (.string R[k].op) := by
    rw [List.getElem?_set_ne (by omega), List.getElem?_set_self (by rw [List.length_set]; omega)]
  have g2 : (((C.set (k * 3) (.string R[k].key)).set (k * 3 + 1) (.string R[k].op)).set (k * 3 + 2) (.slice x R[k].vals.length c))[k * 3 + 2]? = some (.slice x R[k].vals.length c) := by
    rw [List.getElem?_set_self (by rw [List.length_set, List.length_set]; omega)]
  have go : ∀ i, i ≠ k * 3 → i ≠ k * 3 + 1 → i ≠ k * 3 + 2 → (((C.set (k * 3) (.string R[k].key)).set (k * 3 + 1) (.string R[k].op)).set (k * 3 + 2) (.slice x R[k].vals.length c))[i]? = C[i]? := by
    intro i h0 h1 h2
    rw [List.getElem?_set_ne (by omega), List.getElem?_set_ne (by omega), List.getElem?_set_ne (by omega)]
  refine ⟨_, o3.drew, fun j hj hjk => ?_, fun j hj => ?_, (((h.bel.setCell (Nat.le_refl _) _).setCell (Nat.le_refl _) _).setCell (Nat.le_refl _) _).drew⟩
  · by_cases e : j = k
    · subst e; exact ⟨g0, g1, x, c, g2, hS⟩
    · rw [go _ (by omega) (by omega) (by omega), go _ (by omega) (by omega) (by omega), go _ (by omega) (by omega) (by omega)]
      exact h.vals j hj (by omega)
  · by_cases e : j = k
    · subst e; exact ⟨⟨_, g0⟩, ⟨_, g1⟩, ⟨_, _, _, g2⟩⟩
    · rw [go _ (by omega) (by omega) (by omega), go _ (by omega) (by omega) (by omega), go _ (by omega) (by omega) (by omega)]
      exact h.kind j hj

theorem MInv.sel {w wr : World} {n : Nat} {R : List Req} {k : Nat} {C : List Value} (h : MInv w wr n R k C) (hk : ¬ k < n) (hR : R.length = n) (hs : ∀ r ∈ R, r.key.size ≤ maxLen) : Sel wr.heap.size wr (some ⟨w.heap.size, 0, none⟩) n R := by
  refine ⟨hR, fun _ => ⟨w.heap.size, rfl, fun j hj => ?_⟩⟩
  obtain ⟨v0, v1, x, c, v2, hS⟩ := h.vals j hj (by omega)
  refine ⟨(h.own.lt w.heap.size rfl).2, (h.own.cellAt (j * 3) (by omega)).trans v0, (h.own.cellAt (j * 3 + 1) (by omega)).trans v1, ⟨x, c, (h.own.cellAt (j * 3 + 2) (by omega)).trans v2, (hS.keep h.bel (Nat.le_refl _)).wider h.bel.size⟩, hs _ (List.getElem_mem hj)⟩

set_option maxHeartbeats 1600000 in
theorem zz_any (ka oa va : Option Addr) (n kc oc vc : Nat) (R : List Req) (mv : Value) (lk : ByteArray → ByteArray × Bool) (w : World) (hK : Strs w.heap.size w ka n (R.map Req.key)) (hO : Strs w.heap.size w oa n (R.map Req.op)) (hV : VS w.heap.size w va n (R.map Req.vals))
    (hn : n ≤ 4194304) (hlk : Lab w mv lk) :
    Calls Try.prog 5 #[.slice ka n kc, .slice oa n oc, .slice va n vc, mv] w fun e w' => e = .returned (.bool (matchB lk R)) ∧ Below w.heap.size w w' := by
  obtain ⟨i0, hi, hz0, hz1, hz2⟩ := info_parts info34
  have HK := hide hK
  have HO := hide hO
  have HV := hide hV
  have HL := hide hlk
  clear hK hO hV hlk
  go_enter Try.func5, Try.ntmps5
  go_wp2_with (at_make; refine wpList_make_full _ rfl _ _ 32 rfl w.heap.size 34 i0 (.agg #[.string ⟨#[]⟩, .string ⟨#[]⟩, .slice none 0 0]) 3 Try.underlying32 hi hz0 hz1 _ _ _ _ n rfl rfl rfl rfl (by rw [hz2]; omega) (by unfold maxLen; omega) (Nat.le_refl _) ?_)
  intro w1 hown hg
  obtain ⟨C0, I0⟩ := MInv.start (R := R) hown hg
  clear hown hg hi hz0 hz1 hz2
  go_wp2
  go_loopw [11] (fun iv wr => ∃ (k : Nat) (C : List Value), k ≤ n ∧ iv = .int .i64 k ∧ MInv w wr n R k C) (fun iv _ => n - (intOf iv).toNat)
  case atStart => exact ⟨0, C0, Nat.zero_le _, rfl, I0⟩
  case round =>
  clear I0
  obtain ⟨k, C, hk, rfl, hI⟩ := hrel
  by_cases hlt : k < n
  · have hkR : k < R.length := by have := HK.out.hlen; rw [List.length_map] at this; omega
    obtain ⟨b0, f0, rfl, hb0, hc0⟩ := HK.out.cells (by omega)
    obtain ⟨b1, f1, rfl, hb1, hc1⟩ := HO.out.cells (by omega)
    obtain ⟨b2, f2, rfl, hb2, hc2⟩ := HV.out.cells (by omega)
    have d0 := (hI.bel.cell (p := ⟨b0, f0 + k, none⟩) hb0).trans (hc0 k (by rw [List.length_map]; exact hkR))
    have d1 := (hI.bel.cell (p := ⟨b1, f1 + k, none⟩) hb1).trans (hc1 k (by rw [List.length_map]; exact hkR))
    obtain ⟨x, c, e2, hS⟩ := hc2 k (by rw [List.length_map]; exact hkR)
    have d2 := (hI.bel.cell (p := ⟨b2, f2 + k, none⟩) hb2).trans e2
    rw [List.getElem_map] at d0 d1 d2 hS
    obtain ⟨⟨s0, m0⟩, ⟨s1, m1⟩, ⟨x2, l2, c2, m2⟩⟩ := hI.kind k hlt
    have q0 := (hI.own.cellAt (k * 3) (by omega)).trans m0
    have q1 := (hI.own.cellAt (k * 3 + 1) (by omega)).trans m1
    have q2 := (hI.own.cellAt (k * 3 + 2) (by omega)).trans m2
    have z0 := hI.own.frozenAt (k * 3)
    have z1 := hI.own.frozenAt (k * 3 + 1)
    have z2 := hI.own.frozenAt (k * 3 + 2)
    have HI := hide hI
    have HS := hide hS
    clear hc0 hc1 hc2 e2 m0 m1 m2 hS hI
    have i1 : (k : Int) < (n : Int) := by omega
    obtain ⟨C', R'⟩ := HI.out.step hlt hkR x c HS.out
    have HR' := hide R'
    clear R'
    go_wp2
    go_region
    go_wp2
    go_roundw
    case rel => exact ⟨k + 1, C', by omega, by go_num, HR'.out⟩
    case measure => simp [intOf]; omega
  · have hR : R.length = n := by have := HK.out.hlen; rw [List.length_map] at this; exact this
    have hsz : ∀ r ∈ R, r.key.size ≤ maxLen := fun r hr => HK.out.sizes _ (List.mem_map.2 ⟨r, hr, rfl⟩)
    have HSel := hide (hI.sel hlt hR hsz)
    have HB := hide hI.bel
    clear hI hsz hR
    go_wp2_with fail
    refine (matches_any _ (some ⟨w.heap.size, 0, none⟩) n n R mv lk _ HSel.out (by omega) (HL.out.keep HB.out)).mono ?_
    rintro e w2 ⟨rfl, rfl⟩
    go_wp2
    go_ret
    exact ⟨rfl, HB.out⟩
end Go.Proofs.Qxb6623441a.Mt
