/-
  The walk of '(ImplCond).platforms' (19) and of 'ZZplatforms' (14).
-/
import Derived.Test.Qxb6621630aPlBytes
namespace Go.Proofs.Qxb6621630a.Pl
open Go.ChangeShapes Go.WideShapes Go.ChangeAt Go.RowKit

theorem info36 : (Try.prog.info? 36).map (fun i => (i.zero, i.size, i.bytes)) = some (some (.agg #[.string ⟨#[]⟩, .string ⟨#[]⟩]), 2, 32) := by kernel_rfl

def pcells (l : List (ByteArray × ByteArray)) : List Value := l.flatMap fun p => [.string p.1, .string p.2]
def prow (g : ByteArray) (A : List ByteArray) : List (ByteArray × ByteArray) := A.map fun a => (g, a)
def plats (O A : List ByteArray) : List (ByteArray × ByteArray) := O.flatMap fun o => prow (goos o) A

theorem pcells_snoc (l : List (ByteArray × ByteArray)) (g a : ByteArray) : pcells (l ++ [(g, a)]) = pcells l ++ [.string g, .string a] := by simp [pcells]
theorem prow_succ (g : ByteArray) (A : List ByteArray) (j : Nat) (hj : j < A.length) : prow g (A.take (j + 1)) = prow g (A.take j) ++ [(g, A[j])] := by
  unfold prow; rw [List.take_succ_eq_append_getElem hj, List.map_append]; rfl
theorem plats_succ (O A : List ByteArray) (k : Nat) (hk : k < O.length) : plats (O.take (k + 1)) A = plats (O.take k) A ++ prow (goos O[k]) A := by
  unfold plats; rw [List.take_succ_eq_append_getElem hk, List.flatMap_append, List.flatMap_singleton]
theorem plats_length (O A : List ByteArray) : (plats O A).length = O.length * A.length := by
  induction O with
  | nil => simp [plats]
  | cons o O ih =>
    have e : plats (o :: O) A = prow (goos o) A ++ plats O A := by simp [plats]
    rw [e, List.length_append, ih]
    simp [prow, Nat.add_mul]; omega

/-- the slice value v holds just the pairs l, in memory of the call's own. -/
structure PInv (w w0 wr : World) (v : Value) (l : List (ByteArray × ByteArray)) : Prop where
  own : wr.ownsRow (w.heap.size + 1) 36 2 v l.length (pcells l)
  bel : Below (w.heap.size + 1) w0 wr
  big : w.heap.size + 1 ≤ wr.heap.size

theorem PInv.start (w w0 : World) (h : w.heap.size + 1 ≤ w0.heap.size) : PInv w w0 w0 (.slice none 0 0) [] :=
  ⟨World.ownsRow_nil _ _ _ _, Below.refl _ _, h⟩

theorem PInv.step {w w0 wr w1 : World} {v v' : Value} {l : List (ByteArray × ByteArray)} {g a : ByteArray} (o : Obj) (h : PInv w w0 wr v l)
    (hown : w1.ownsRow (w.heap.size + 1) 36 2 v' (l.length + 1) (pcells l ++ [.string g, .string a])) (hg : (wr.alloc o).grownBy w1 v.ownBlock) : PInv w w0 w1 v' (l ++ [(g, a)]) := by
  have hb : Below (w.heap.size + 1) w0 w1 := (h.bel.alloc h.big o).grown hg (by have := h.big; simp; omega) (fun k hk => (h.own.lt k hk).1)
  refine ⟨?_, hb, ?_⟩
  · rw [pcells_snoc, List.length_append]; exact hown
  · have := hg.size; have := h.big; simp at *; omega

theorem old_cell {w wr : World} {o : Obj} (hb : Below (w.heap.size + 1) (w.alloc o) wr) {p : Addr} (hp : p.block < w.heap.size) : wr.cell? p = w.cell? p := by
  rw [hb.cell (p := p) (by omega)]
  exact World.cell?_alloc_old _ _ _ (by omega)

theorem box_cell {w wr : World} {x y : Value} {t : TypeId} (hb : Below (w.heap.size + 1) (w.alloc (.cells #[x, y] t)) wr) : wr.cell? ⟨w.heap.size, 1, none⟩ = some y := by
  rw [hb.cell (p := ⟨w.heap.size, 1, none⟩) (by simp)]
  simp

def PlatPost (w : World) (O A : List ByteArray) (e : Ending) (w' : World) : Prop :=
  ∃ v, e = .returned v ∧ w'.ownsRow (w.heap.size + 1) 36 2 v (O.length * A.length) (pcells (plats O A)) ∧ Below w.heap.size w w'

theorem PInv.finish {w wr : World} {o : Obj} {v : Value} {O A : List ByteArray} (h : PInv w (w.alloc o) wr v (plats O A)) : PlatPost w O A (.returned v) wr :=
  ⟨v, rfl, by rw [← plats_length]; exact h.own, ((Below.refl _ _).alloc (Nat.le_refl _) o).trans (h.bel.mono (by omega))⟩

theorem len_le (O A : List ByteArray) (g : ByteArray) (k j : Nat) (hk : k ≤ O.length) (hn : O.length ≤ 10000) (hm : A.length ≤ 10000) : (plats (O.take k) A ++ prow g (A.take j)).length ≤ 100010000 := by
  rw [List.length_append, plats_length]
  have h1 : (O.take k).length ≤ 10000 := by simp; omega
  have h2 : (prow g (A.take j)).length ≤ 10000 := by simp [prow]; omega
  have h3 := Nat.mul_le_mul h1 hm
  omega

theorem news_at {wr : World} {x y : Value} {t : TypeId} : ∀ j u, [x, y][j]? = some u → (wr.alloc (.cells #[x, y] t)).cell? ((⟨wr.heap.size, 0, none⟩ : Addr).add j) = some u := by
  intro j u hj
  match j, hj with
  | 0, hj => simp at hj; subst hj; simp [Addr.add]
  | 1, hj => simp at hj; subst hj; simp [Addr.add]
theorem news_one (x y : ByteArray) : ∀ u ∈ [Value.string x, Value.string y], u.oneCell' = true := by
  intro u hu
  simp at hu
  rcases hu with rfl | rfl <;> rfl

set_option maxHeartbeats 1600000 in
theorem plat_any (oa aa : Option Addr) (no co na ca : Nat) (O A : List ByteArray) (w : World) (hO : Strs w.heap.size w oa no O) (hA : Strs w.heap.size w aa na A) (hn : no ≤ 10000) (hm : na ≤ 10000) :
    Calls Try.prog 19 #[.agg #[.slice oa no co, .slice aa na ca]] w fun e w' => PlatPost w O A e w' := by
  obtain ⟨i0, hi, hz0, hz1, hz2⟩ := info_parts info36
  have HO := hide hO
  have HA := hide hA
  clear hO hA
  have hOl : O.length ≤ 10000 := by rw [HO.out.hlen]; exact hn
  have hAl : A.length ≤ 10000 := by rw [HA.out.hlen]; exact hm
  go_enter Try.func19, Try.ntmps19
  go_wp2
  go_loopw [3, 11] (fun v iv wr => ∃ k : Nat, k ≤ no ∧ iv = .int .i64 k ∧ PInv w (w.alloc (.cells #[.slice oa no co, .slice aa na ca] 34)) wr v (plats (O.take k) A)) (fun _ iv _ => no - (intOf iv).toNat)
  case atStart => exact ⟨0, Nat.zero_le _, rfl, PInv.start _ _ (by simp)⟩
  case round =>
    obtain ⟨k, hk, rfl, hI⟩ := hrel
    by_cases hlt : k < no
    · have hk' : k < O.length := by rw [HO.out.hlen]; exact hlt
      obtain ⟨b, off, rfl, hb, hc⟩ := HO.out.cells (by omega)
      have hcell := (old_cell hI.bel (p := ⟨b, off + k, none⟩) hb).trans (hc k hk')
      have hbox := box_cell hI.bel
      clear hc
      obtain ⟨s, hs⟩ : ∃ s, O[k] = s := ⟨_, rfl⟩
      rw [hs] at hcell
      have HS := hide hs
      clear hs
      have hmac : (s.toList == [109, 97, 99, 111, 115]) = true ∨ (s.toList == [109, 97, 99, 111, 115]) = false := by cases (s.toList == [109, 97, 99, 111, 115]) <;> simp
      rcases hmac with hmac | hmac
      · have HG : Hid (goos O[k] = ByteArray.mk #[100, 97, 114, 119, 105, 110]) := by rw [HS.out]; show (if (s.toList == [109, 97, 99, 111, 115]) = true then darS else s) = _; rw [hmac]; rfl
        go_wp2
        obtain ⟨wo, hwo⟩ : ∃ wo : World, wo = wr := ⟨_, rfl⟩
        go_loopw [3, 20] (fun v jv wr => ∃ j : Nat, j ≤ na ∧ jv = .int .i64 j ∧ PInv w (w.alloc (.cells #[.slice (some ⟨b, off, none⟩) no co, .slice aa na ca] 34)) wr v (plats (O.take k) A ++ prow (ByteArray.mk #[100, 97, 114, 119, 105, 110]) (A.take j))) (fun _ jv _ => na - (intOf jv).toNat)
        case atStart => exact ⟨0, Nat.zero_le _, rfl, by simpa [prow] using hI⟩
        case round =>
          clear hI hcell hbox hwo
          obtain ⟨j, hj, rfl, hI⟩ := hrel
          by_cases hjl : j < na
          · have hj' : j < A.length := by rw [HA.out.hlen]; exact hjl
            obtain ⟨b2, off2, rfl, hb2, hc2⟩ := HA.out.cells (by omega)
            have hcell2 := (old_cell hI.bel (p := ⟨b2, off2 + j, none⟩) hb2).trans (hc2 j hj')
            clear hc2
            have hlen := len_le O A (ByteArray.mk #[100, 97, 114, 119, 105, 110]) k j (by omega) hOl hAl
            obtain ⟨l, hl⟩ : ∃ l, plats (O.take k) A ++ prow (ByteArray.mk #[100, 97, 114, 119, 105, 110]) (A.take j) = l := ⟨_, rfl⟩
            rw [hl] at hlen hI
            have HL := hide hl
            clear hl
            obtain ⟨t, ht⟩ : ∃ t, A[j] = t := ⟨_, rfl⟩
            rw [ht] at hcell2
            have HT := hide ht
            clear ht
            have hown := hI.own
            go_wp2_with (at_builtin; refine wpList_append_own _ rfl _ _ 31 rfl (w.heap.size + 1) 36 i0 (.agg #[.string ⟨#[]⟩, .string ⟨#[]⟩]) 2 32 Try.underlying31 hi hz0 hz1 hz2 rfl (by decide) _ _ _ rfl (hown.alloc _) ⟨wr.heap.size, 0, none⟩ 1 1 [.string (ByteArray.mk #[100, 97, 114, 119, 105, 110]), .string t] rfl rfl news_at (news_one _ _) (by unfold maxLen; omega) (by omega) (by have := hI.big; simp; omega) ?_)
            intro v' w1 hown' hgrow _
            have R := hI.step _ hown' hgrow
            clear hown' hgrow hown hcell2 hI
            go_wp2
            go_roundw
            case rel => exact ⟨j + 1, by omega, by go_num, by rw [prow_succ _ _ j hj', HT.out, ← List.append_assoc, HL.out]; exact R⟩
            case measure => simp [intOf]; omega
          · go_wp2
            go_roundw
            case rel =>
              refine ⟨k + 1, by omega, by go_num, ?_⟩
              rw [plats_succ O A k hk', HG.out]
              rw [show A.take j = A from List.take_of_length_le (by rw [HA.out.hlen]; omega)] at hI
              exact hI
            case measure => simp [intOf]; omega
      · have HG : Hid (goos O[k] = s) := by rw [HS.out]; show (if (s.toList == [109, 97, 99, 111, 115]) = true then darS else s) = s; rw [hmac]; rfl
        go_wp2
        obtain ⟨wo, hwo⟩ : ∃ wo : World, wo = wr := ⟨_, rfl⟩
        go_loopw [3, 20] (fun v jv wr => ∃ j : Nat, j ≤ na ∧ jv = .int .i64 j ∧ PInv w (w.alloc (.cells #[.slice (some ⟨b, off, none⟩) no co, .slice aa na ca] 34)) wr v (plats (O.take k) A ++ prow (s) (A.take j))) (fun _ jv _ => na - (intOf jv).toNat)
        case atStart => exact ⟨0, Nat.zero_le _, rfl, by simpa [prow] using hI⟩
        case round =>
          clear hI hcell hbox hwo
          obtain ⟨j, hj, rfl, hI⟩ := hrel
          by_cases hjl : j < na
          · have hj' : j < A.length := by rw [HA.out.hlen]; exact hjl
            obtain ⟨b2, off2, rfl, hb2, hc2⟩ := HA.out.cells (by omega)
            have hcell2 := (old_cell hI.bel (p := ⟨b2, off2 + j, none⟩) hb2).trans (hc2 j hj')
            clear hc2
            have hlen := len_le O A (s) k j (by omega) hOl hAl
            obtain ⟨l, hl⟩ : ∃ l, plats (O.take k) A ++ prow (s) (A.take j) = l := ⟨_, rfl⟩
            rw [hl] at hlen hI
            have HL := hide hl
            clear hl
            obtain ⟨t, ht⟩ : ∃ t, A[j] = t := ⟨_, rfl⟩
            rw [ht] at hcell2
            have HT := hide ht
            clear ht
            have hown := hI.own
            go_wp2_with (at_builtin; refine wpList_append_own _ rfl _ _ 31 rfl (w.heap.size + 1) 36 i0 (.agg #[.string ⟨#[]⟩, .string ⟨#[]⟩]) 2 32 Try.underlying31 hi hz0 hz1 hz2 rfl (by decide) _ _ _ rfl (hown.alloc _) ⟨wr.heap.size, 0, none⟩ 1 1 [.string (s), .string t] rfl rfl news_at (news_one _ _) (by unfold maxLen; omega) (by omega) (by have := hI.big; simp; omega) ?_)
            intro v' w1 hown' hgrow _
            have R := hI.step _ hown' hgrow
            clear hown' hgrow hown hcell2 hI
            go_wp2
            go_roundw
            case rel => exact ⟨j + 1, by omega, by go_num, by rw [prow_succ _ _ j hj', HT.out, ← List.append_assoc, HL.out]; exact R⟩
            case measure => simp [intOf]; omega
          · go_wp2
            go_roundw
            case rel =>
              refine ⟨k + 1, by omega, by go_num, ?_⟩
              rw [plats_succ O A k hk', HG.out]
              rw [show A.take j = A from List.take_of_length_le (by rw [HA.out.hlen]; omega)] at hI
              exact hI
            case measure => simp [intOf]; omega
    · go_wp2
      go_ret
      rw [show O.take k = O from List.take_of_length_le (by rw [HO.out.hlen]; omega)] at hI
      exact hI.finish
end Go.Proofs.Qxb6621630a.Pl
