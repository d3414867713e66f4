/-
  The walk of 'ZZOffers' (7).
-/
import Derived.Test.Qxb6623415aOfOffers
import Derived.WalkSpells
namespace Go.Proofs.Qxb6623415a.Of
open Go.ChangeShapes Go.WideShapes Go.ChangeAt Go.RowKit

theorem info31 : (Try.prog.info? 31).map (fun i => (i.zero, i.size, i.bytes)) = some (some (.agg #[.int .u8 0, .slice none 0 0]), 2, 32) := by kernel_rfl

theorem zz_nil (oa da : Option Addr) (no co nd cd : Nat) (t : Int) (w : World) :
    Calls Try.prog 7 #[.slice oa no co, .slice none 0 0, .slice da nd cd, .int .u8 t] w fun e w' => e = .returned (.bool false) ∧ Below w.heap.size w w' := by
  have hnn := fun w => run_neq_slice_nil_any (P := Try.prog) w 22 5 none 0 0 0 0 Try.underlying22
  go_enter Try.func7, Try.ntmps7
  go_wp2_with fail
  refine (offers_any oa none no co 0 0 [] t _ ⟨rfl, fun h => by omega⟩ (by omega)).mono ?_
  rintro e w' ⟨rfl, hb⟩
  go_wp2
  go_ret
  exact ⟨rfl, hb⟩

/-- what the loop keeps of the slice of suboptions: the first k values are V's. -/
structure ZInv (w wr : World) (n : Nat) (V : List Int) (k : Nat) (C : List Value) : Prop where
  own : wr.ownsRow w.heap.size 31 2 (.slice (some ⟨w.heap.size, 0, none⟩) n n) n C
  vals : ∀ j (hj : j < V.length), j < k → C[j * 2]? = some (.int .u8 V[j])
  kind0 : ∀ j, j < n → ∃ v, C[j * 2]? = some (.int .u8 v)
  kind1 : ∀ j, j < n → ∃ x l c, C[j * 2 + 1]? = some (.slice x l c)
  bel : Below w.heap.size w wr

theorem made_at (a b : Value) (n j : Nat) (hj : j < n) : (madeCells #[a, b] (n * 2)).toList[j * 2]? = some a ∧ (madeCells #[a, b] (n * 2)).toList[j * 2 + 1]? = some b := by
  have h1 : j * 2 < n * 2 := by omega
  have h2 : j * 2 + 1 < n * 2 := by omega
  have e1 : j * 2 % 2 = 0 := by omega
  have e2 : (j * 2 + 1) % 2 = 1 := by omega
  simp [madeCells, h1, h2, e1, e2]

theorem ZInv.start {w w1 : World} {n : Nat} {V : List Int} (h : w1.ownsRow w.heap.size 31 2 (.slice (some ⟨w.heap.size, 0, none⟩) n n) n (madeCells #[Value.int IntKind.u8 0, Value.slice none 0 0] (n * 2)).toList)
    (hg : w.grownBy w1 none) : ∃ C, ZInv w w1 n V 0 C :=
  ⟨_, h, fun j _ h0 => by omega, fun j hj => ⟨_, (made_at _ _ n j hj).1⟩, fun j hj => ⟨_, _, _, (made_at _ _ n j hj).2⟩, (Below.refl _ _).grown hg (Nat.le_refl _) (by simp)⟩

theorem ZInv.set0 {w wr : World} {n : Nat} {V : List Int} {k : Nat} {C : List Value} (h : ZInv w wr n V k C) (hk : k < n) (hkV : k < V.length) :
    ZInv w (wr.setCell ⟨w.heap.size, k * 2, none⟩ (.int .u8 V[k])) n V (k + 1) (C.set (k * 2) (.int .u8 V[k])) := by
  have hl : k * 2 < C.length := by rw [h.own.1]; omega
  refine ⟨(h.own.stored (k * 2) _).1, fun j hj hjk => ?_, fun j hj => ?_, fun j hj => ?_, h.bel.setCell (Nat.le_refl _) _⟩
  · by_cases e : j = k
    · subst e; rw [List.getElem?_set_self hl]
    · rw [List.getElem?_set_ne (by omega)]; exact h.vals j hj (by omega)
  · by_cases e : j = k
    · subst e; exact ⟨_, by rw [List.getElem?_set_self hl]⟩
    · rw [List.getElem?_set_ne (by omega)]; exact h.kind0 j hj
  · rw [List.getElem?_set_ne (by omega)]; exact h.kind1 j hj
theorem ZInv.set1 {w wr : World} {n : Nat} {V : List Int} {k : Nat} {C : List Value} (h : ZInv w wr n V k C) (i : Nat) (hi : i < n) (x : Option Addr) (l c : Nat) :
    ZInv w (wr.setCell ⟨w.heap.size, i * 2 + 1, none⟩ (.slice x l c)) n V k (C.set (i * 2 + 1) (.slice x l c)) := by
  have hl : i * 2 + 1 < C.length := by rw [h.own.1]; omega
  refine ⟨(h.own.stored (i * 2 + 1) _).1, fun j hj hjk => ?_, fun j hj => ?_, fun j hj => ?_, h.bel.setCell (Nat.le_refl _) _⟩
  · rw [List.getElem?_set_ne (by omega)]; exact h.vals j hj hjk
  · rw [List.getElem?_set_ne (by omega)]; exact h.kind0 j hj
  · by_cases e : j = i
    · subst e; exact ⟨_, _, _, by rw [List.getElem?_set_self hl]⟩
    · rw [List.getElem?_set_ne (by omega)]; exact h.kind1 j hj
theorem ZInv.cell0 {w wr : World} {n : Nat} {V : List Int} {k : Nat} {C : List Value} (h : ZInv w wr n V k C) {i : Nat} (hi : i < n) : ∃ v, wr.cell? ⟨w.heap.size, i * 2, none⟩ = some (.int .u8 v) := by
  obtain ⟨v, hv⟩ := h.kind0 i hi
  exact ⟨v, (h.own.cellAt (i * 2) (by omega)).trans hv⟩
theorem ZInv.cell1 {w wr : World} {n : Nat} {V : List Int} {k : Nat} {C : List Value} (h : ZInv w wr n V k C) {i : Nat} (hi : i < n) : ∃ x l c, wr.cell? ⟨w.heap.size, i * 2 + 1, none⟩ = some (.slice x l c) := by
  obtain ⟨x, l, c, hv⟩ := h.kind1 i hi
  exact ⟨x, l, c, (h.own.cellAt (i * 2 + 1) (by omega)).trans hv⟩
theorem ZInv.subs {w wr : World} {n : Nat} {V : List Int} {k : Nat} {C : List Value} (h : ZInv w wr n V k C) (hV : V.length = n) (hk : ¬ k < n) : Subs wr (some ⟨w.heap.size, 0, none⟩) n V := by
  refine ⟨hV, fun _ => ⟨w.heap.size, rfl, (h.own.lt w.heap.size rfl).2, fun j hj => ⟨?_, ?_⟩⟩⟩
  · exact (h.own.cellAt (j * 2) (by omega)).trans (h.vals j hj (by omega))
  · exact h.cell1 (by omega)

set_option maxHeartbeats 800000 in
theorem zz_some (oa da : Option Addr) (ad : Addr) (no co n c nd cd : Nat) (V : List Int) (t : Int) (w : World) (hV : Bys w.heap.size w (some ad) n V) (hD : Dat w.heap.size w da nd) (hn : n ≤ 4194304) :
    Calls Try.prog 7 #[.slice oa no co, .slice (some ad) n c, .slice da nd cd, .int .u8 t] w fun e w' => e = .returned (.bool (offersB V t)) ∧ Below w.heap.size w w' := by
  have hnn := fun w => run_neq_slice_nil_any (P := Try.prog) w 22 5 (some ad) n c 0 0 Try.underlying22
  obtain ⟨i0, hi, hz0, hz1, hz2⟩ := info_parts info31
  have HV := hide hV
  have HD := hide hD
  clear hV hD
  go_enter Try.func7, Try.ntmps7
  go_wp2_with (at_make; refine wpList_make_full _ rfl _ _ 29 rfl w.heap.size 31 i0 (.agg #[.int .u8 0, .slice none 0 0]) 2 Try.underlying29 hi hz0 hz1 _ _ _ _ n rfl rfl rfl rfl (by rw [hz2]; omega) (by unfold maxLen; omega) (Nat.le_refl _) ?_)
  intro w1 hown hg
  obtain ⟨C0, I0⟩ := ZInv.start (V := V) hown hg
  clear hown hg hi hz0 hz1 hz2 hnn
  go_wp2
  go_loopw [10] (fun iv wr => ∃ (k : Nat) (C : List Value), k ≤ n ∧ iv = .int .i64 k ∧ ZInv w wr n V k C) (fun iv _ => n - (intOf iv).toNat)
  case atStart => exact ⟨0, C0, Nat.zero_le _, rfl, I0⟩
  case round =>
    clear I0
    obtain ⟨k, C, hk, rfl, hI⟩ := hrel
    by_cases hlt : k < n
    · have hk' : k < V.length := by rw [HV.out.hlen]; exact hlt
      obtain ⟨b, off, hab, hb, hc⟩ := HV.out.cells (by omega)
      obtain rfl : ad = ⟨b, off, none⟩ := Option.some.inj hab
      have d0 := (hI.bel.cell (p := ⟨b, off + k, none⟩) hb).trans (hc k hk')
      have R := hI.set0 hlt hk'
      obtain ⟨v, hv⟩ : ∃ v, V[k] = v := ⟨_, rfl⟩
      rw [hv] at d0 R
      have HVV := hide hv
      obtain ⟨v0, m0⟩ := hI.cell0 hlt
      obtain ⟨x0, l0, c0, m1⟩ := hI.cell1 hlt
      have z0 := hI.own.frozenAt (k * 2)
      have z1 := hI.own.frozenAt (k * 2 + 1)
      have HR := hide R
      have HBel := hide hI.bel
      clear hc hv hab hI R
      by_cases hd : k < nd
      · obtain ⟨b2, off2, rfl, hb2, hc2⟩ := HD.out.cells (by omega)
        obtain ⟨x, l, cc, e2, -⟩ := hc2 k hd
        have d2 := (HBel.out.cell (p := ⟨b2, off2 + k, none⟩) hb2).trans e2
        have HR2 := hide (HR.out.set1 k hlt x l cc)
        have hbne : ¬ b2 = w.heap.size := by omega
        clear hc2 e2
        go_wp2
        go_roundw
        case rel => exact ⟨k + 1, _, by omega, by go_num, HR2.out⟩
        case measure => simp [intOf]; omega
      · go_wp2
        go_roundw
        case rel => exact ⟨k + 1, _, by omega, by go_num, HR.out⟩
        case measure => simp [intOf]; omega
    · have hsub := hI.subs HV.out.hlen hlt
      have HB := hide hI.bel
      have HSub := hide hsub
      clear hI hsub
      go_wp2_with fail
      refine (offers_any oa (some ⟨w.heap.size, 0, none⟩) no co n n V t _ HSub.out (by omega)).mono ?_
      rintro e w2 ⟨rfl, hb2⟩
      go_wp2
      go_ret
      exact ⟨rfl, HB.out.trans (hb2.mono HB.out.size)⟩
end Go.Proofs.Qxb6623415a.Of
