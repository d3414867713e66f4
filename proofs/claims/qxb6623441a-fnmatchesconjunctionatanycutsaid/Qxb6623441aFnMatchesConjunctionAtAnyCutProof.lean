/-
  THE PROOF OF 'Rows.FnMatchesConjunctionAtAnyCutSaid', in the frame of the guide's shell for slices; the walk is Mt.law_any (Qxb6623441aMtLaw).
-/
import Derived.Test.Qxb6623441aRows
import Derived.Test.Qxb6623441aMtLaw
import Derived.WalkKit
import Derived.ProofKit
import Derived.OpenShut
import Derived.ShutString
import Derived.SliceStrings
import Derived.ChangeOld
import Derived.Below
import Derived.Carry
import Derived.Deep.Slices
import Derived.Maps.OwnSet
import Derived.Maps.StringElems
import Derived.StringKeys
import Derived.WideKeyArgs2
import Derived.MapViews
namespace Go.Proofs.Qxb6623441a.fnMatchesConjunctionAtAnyCut
open Go.ChangeShapes Go.WideShapes Go.ChangeAt Go.RowKit Go.WideElems Go.WideMaps
set_option linter.unusedVariables false

theorem own : ownKnob Try.prog.godebug = none := by kernel_rfl
theorem laidOut : laidOutB Try.prog = true := by kernel_rfl

/-! ### the lists -/
theorem strs_of {H : Type} {enc : TypeId × Value → H} {W : World} {a : Option Addr} {len cap fuel : Nat} {x : DataW H × List MemPlace}
    (hf : DataW.trod enc Try.prog W 0 (fun _ => true) true fuel 22 [Value.slice a len cap] = some x) : (∃ L, Mt.Strs W.heap.size W a len L) ∧ len ≤ cap := by
  rcases open_strings Try.underlying22 Try.underlying9 (by kernel_rfl) hf with ⟨hcs, _⟩ | ⟨ad, l, c, ss, hcs, _, hl, hm, hz, _, hcell, hws⟩
  · simp at hcs
    obtain ⟨rfl, rfl, rfl⟩ := hcs
    exact ⟨⟨[], Mt.Strs.nil _ _⟩, Nat.le_refl _⟩
  · simp at hcs
    obtain ⟨rfl, rfl, rfl⟩ := hcs
    simp only [if_true] at hz
    refine ⟨⟨ss.take len, ?_, fun h0 => ?_, fun s hs => hws s (List.mem_of_mem_take hs), Nat.le_trans hl hm⟩, hl⟩
    · rw [List.length_take]; omega
    · obtain ⟨b, off, spot⟩ := ad
      have hspot : spot = none := by simpa [Addr.add] using World.cell?_spot (hcell 0 (by omega))
      subst hspot
      refine ⟨b, off, rfl, ?_, fun j hj => ?_⟩
      · exact World.block_lt_of_cell? W _ (hcell 0 (by omega))
      · rw [List.length_take] at hj
        have hj2 : j < ss.length := by omega
        have := hcell j hj2
        rw [add_plain] at this
        rw [this, List.getElem_take]
        simp [hj2]

theorem inner_of {H : Type} {enc : TypeId × Value → H} {W : World} {v : Value} {fuel : Nat} {x : DataW H × List MemPlace}
    (hf : DataW.trod enc Try.prog W 0 (fun _ => true) true fuel 22 [v] = some x) : ∃ L a c, v = .slice a L.length c ∧ Mt.Strs W.heap.size W a L.length L := by
  have hv : ∃ a l c, v = .slice a l c := by
    rcases open_strings Try.underlying22 Try.underlying9 (by kernel_rfl) hf with ⟨hcs, _⟩ | ⟨ad, l, c, ss, hcs, _⟩
    · simp only [List.cons.injEq, and_true] at hcs; exact ⟨_, _, _, hcs⟩
    · simp only [List.cons.injEq, and_true] at hcs; exact ⟨_, _, _, hcs⟩
  obtain ⟨a, l, c, rfl⟩ := hv
  obtain ⟨⟨L, hL⟩, _⟩ := strs_of hf
  have e := hL.hlen
  subst e
  exact ⟨L, a, c, rfl, hL⟩

theorem lists_of : ∀ (n : Nat) (Q : Nat → List ByteArray → Prop), (∀ j, j < n → ∃ L, Q j L) → ∃ LL : List (List ByteArray), LL.length = n ∧ ∀ j (hj : j < LL.length), Q j LL[j]
  | 0, _, _ => ⟨[], rfl, fun j hj => by simp at hj⟩
  | n + 1, Q, h => by
    obtain ⟨LL, hl, hq⟩ := lists_of n Q (fun j hj => h j (by omega))
    obtain ⟨L, hL⟩ := h n (by omega)
    refine ⟨LL ++ [L], by simp [hl], fun j hj => ?_⟩
    by_cases e : j < LL.length
    · rw [List.getElem_append_left e]; exact hq j e
    · have e2 : j = n := by simp at hj; omega
      subst e2
      rw [List.getElem_append_right (by omega)]
      simpa using hL

theorem vs_of {H : Type} {enc : TypeId × Value → H} {W : World} {a : Option Addr} {len cap fuel : Nat} {x : DataW H × List MemPlace}
    (hf : DataW.trod enc Try.prog W 0 (fun _ => true) true fuel 23 [Value.slice a len cap] = some x) : (∃ LL, Mt.VS W.heap.size W a len LL) ∧ len ≤ cap := by
  rcases Go.Deep.open_slice1 Try.underlying23 (by kernel_rfl) hf with ⟨hcs, _⟩ | ⟨ad, l, c, m, n, E, D, Pl, hcs, _, hl, hm, hz, _, hcell⟩
  · simp at hcs
    obtain ⟨rfl, rfl, rfl⟩ := hcs
    exact ⟨⟨[], Mt.VS.nil _ _⟩, Nat.le_refl _⟩
  · simp at hcs
    obtain ⟨rfl, rfl, rfl⟩ := hcs
    simp only [if_true] at hz
    refine ⟨?_, hl⟩
    obtain ⟨LL, hLL, hQ⟩ := lists_of len (fun j L => ∃ x c, W.cell? (ad.add j) = some (.slice x L.length c) ∧ Mt.Strs W.heap.size W x L.length L) (fun j hj => by
      obtain ⟨h1, h2⟩ := hcell j (by omega)
      obtain ⟨L, x, c, e, hS⟩ := inner_of h2
      exact ⟨L, x, c, by rw [h1, e], hS⟩)
    refine ⟨LL, hLL, fun h0 => ?_, Nat.le_trans hl hm⟩
    obtain ⟨b, off, spot⟩ := ad
    have hspot : spot = none := by simpa [Addr.add] using World.cell?_spot (hcell 0 (by omega)).1
    subst hspot
    refine ⟨b, off, rfl, World.block_lt_of_cell? W _ (hcell 0 (by omega)).1, fun j hj => ?_⟩
    obtain ⟨x, c, h1, h2⟩ := hQ j hj
    rw [add_plain] at h1
    exact ⟨x, c, h1, h2⟩

/-! ### the labels -/
theorem law : Maps.Keyed Try.prog 9 := Maps.string_keyed Try.underlying9
theorem zero9 (w : World) : (zeroValue 9).run Try.prog w = .ok (.string ⟨#[]⟩) w := by kernel_rfl

def strOf {H : Type} : DataW H → ByteArray
  | .lit (.string l) => ⟨l.toArray⟩
  | _ => ⟨#[]⟩

theorem lab_nil (W : World) : Mt.Lab W (.map none) (fun _ => (⟨#[]⟩, false)) :=
  ⟨fun w' _ k hk => by simpa using Maps.look_nil (w := w') true law Try.underlying24 (zero9 _) (keyOf_string_mk Try.underlying9 hk)⟩

theorem lab_in {H : Type} (D : DataW H) (bm n : Nat) (W : World) (hown : W.ownsMap Try.prog 9 (plainElem Try.prog 9) bm n D) (hbm : bm < W.heap.size) :
    Mt.Lab W (.map (some bm)) (fun k => (strOf (D.atKey (.string k.data.toList) (.lit (.string []))), Maps.has D (.string k.data.toList))) := by
  refine ⟨fun wx hb k hk => ?_⟩
  have hown' : wx.ownsMap Try.prog 9 (plainElem Try.prog 9) bm n D := by
    obtain ⟨es, clock, hbk, F1, hle, hD⟩ := hown
    exact ⟨es, clock, by rw [hb.block bm hbm]; exact hbk, F1, hle, hD⟩
  obtain ⟨v, ps, hrun, hv⟩ := hown'.look_ok law Try.underlying24 (zero9 _) (plainElem_string Try.underlying9 (s := ⟨#[]⟩) (by decide)) (keyOf_string_mk Try.underlying9 hk)
  obtain ⟨val, rfl, hz, _⟩ := plainElem_string_inv Try.underlying9 hv
  have hat : D.atKey (.string k.data.toList) (.lit (.string [])) = .lit (.string val.data.toList) := congrArg Prod.fst hz
  rw [hrun, hat]
  rfl

theorem map_of {H : Type} {enc : TypeId × Value → H} {W : World} {am : Option Nat} {fuel : Nat} {x : DataW H × List MemPlace}
    (hf : DataW.trod enc Try.prog W 0 (fun _ => true) true fuel 24 (Value.map am).cells.toList = some x) :
    (∃ lk, Mt.Lab W (.map am) lk) ∧ ∃ N : Nat, ∀ ty, (Builtin.len_ #[24] ty #[.map am]).run Try.prog W = .ok (.int .i64 (N : Int)) W := by
  rcases open_map Try.underlying24 hf with ⟨hcs, hx⟩ | ⟨bm, es, clock, mm, rfl, hcs, hb, _, Ft, hx⟩
  · simp [Value.cells] at hcs
    subst hcs
    exact ⟨⟨_, lab_nil W⟩, 0, fun ty => Maps.len_nil Try.underlying24 ty⟩
  · simp [Value.cells] at hcs
    subst hcs
    have ho := World.ownsMap_of_fit (R := plainElem Try.prog 9) hb Ft (fun x _ z hz => elemAt_plainElem_string Try.underlying9 hz)
    exact ⟨⟨_, lab_in _ bm _ W ho (Array.getElem?_eq_some_iff.1 hb).1⟩, _, fun ty => ho.len Try.underlying24 ty⟩

/-! ### THE ROW's STEP -/
set_option maxRecDepth 100000 in
theorem lifted (os : Os) (started : os.Started) (H : Type) (enc : TypeId × Value → H) :
    ReturnsInHanded {} Try.checked os 3 .any (Rows.fnMatchesConjunctionAtAnyCutSpec.pre6 enc Try.prog Try.f3 Rows.fnMatchesConjunctionAtAnyCutRow.domain false) (Rows.fnMatchesConjunctionAtAnyCutSpec.post enc Try.prog Try.f3 false true false false) := by
  refine returnsInHanded_of_change (C := Try.checked) own started (by kernel_rfl) Try.func3
    (ChangeSpec.witness6 (enc := enc) (C := Try.checked) false ⟨#[], #[.slice none 0 0, .slice none 0 0, .slice none 0 0, .map none, .int .i64 0], []⟩ 8 (by kernel_rfl) (by kernel_rfl) (by kernel_rfl) (by kernel_rfl)) ?_
  intro W base args ds gs before hval0 hW hcnd _
  have hval : ∀ (j : Nat) t v, Try.f3.params[j]? = some t → args[j]? = some v → Value.okWide Try.prog W .any base t v := hval0
  have hW' := hW
  obtain ⟨p, q, hA0, hV, rfl, hfz, hnd⟩ := hW
  have hA : DataW.TrodAll enc Try.prog W 0 (fun _ => true) true Try.f3.params.toList args.toList ds p := hA0
  rw [Try.params3] at hA hval
  obtain ⟨v0, vs0, d0, ds0, p0, q0, hargs, rfl, rfl, h0, r0⟩ := trodAll_cons hA
  obtain ⟨v1, vs1, d1, ds1, p1, q1, rfl, rfl, rfl, h1, r1⟩ := trodAll_cons r0
  obtain ⟨v2, vs2, d2, ds2, p2, q2, rfl, rfl, rfl, h2, r2⟩ := trodAll_cons r1
  obtain ⟨v3, vs3, d3, ds3, p3, q3, rfl, rfl, rfl, h3, r3⟩ := trodAll_cons r2
  obtain ⟨v4, vs4, d4, ds4, p4, q4, rfl, rfl, rfl, h4, r4⟩ := trodAll_cons r3
  obtain ⟨rfl, rfl, rfl⟩ := trodAll_nil r4
  obtain rfl : args = #[v0, v1, v2, v3, v4] := by cases args; simp_all
  obtain ⟨rfl, rfl⟩ := trodVars_none hV
  obtain ⟨a0, len0, cap0, rfl⟩ := okWide_slice Try.underlying22 (hval 0 22 v0 rfl rfl)
  have k0 := h0
  have lt0 : ∀ x ∈ p0, x.block < W.heap.size := by obtain ⟨m, hm⟩ := k0; exact DataW.trod_lt m _ _ _ hm
  obtain ⟨⟨L0, w0⟩, z0⟩ : (∃ L, Mt.Strs W.heap.size W a0 len0 L) ∧ len0 ≤ cap0 := by obtain ⟨m, hm⟩ := h0; exact strs_of hm
  obtain ⟨a1, len1, cap1, rfl⟩ := okWide_slice Try.underlying22 (hval 1 22 v1 rfl rfl)
  have k1 := h1
  have lt1 : ∀ x ∈ p1, x.block < W.heap.size := by obtain ⟨m, hm⟩ := k1; exact DataW.trod_lt m _ _ _ hm
  obtain ⟨⟨L1, w1⟩, z1⟩ : (∃ L, Mt.Strs W.heap.size W a1 len1 L) ∧ len1 ≤ cap1 := by obtain ⟨m, hm⟩ := h1; exact strs_of hm
  obtain ⟨a2, len2, cap2, rfl⟩ := okWide_slice Try.underlying23 (hval 2 23 v2 rfl rfl)
  have k2 := h2
  have lt2 : ∀ x ∈ p2, x.block < W.heap.size := by obtain ⟨m, hm⟩ := k2; exact DataW.trod_lt m _ _ _ hm
  obtain ⟨⟨L2, w2⟩, z2⟩ : (∃ L, Mt.VS W.heap.size W a2 len2 L) ∧ len2 ≤ cap2 := by obtain ⟨m, hm⟩ := h2; exact vs_of hm
  obtain ⟨am, rfl⟩ := okWide_map Try.underlying24 (hval 3 24 v3 rfl rfl)
  have k3 := h3
  have lt3 : ∀ x ∈ p3, x.block < W.heap.size := by obtain ⟨m, hm⟩ := k3; exact DataW.trod_lt m _ _ _ hm
  obtain ⟨⟨lk, w3⟩, N, hN⟩ : (∃ lk, Mt.Lab W (.map am) lk) ∧ ∃ N : Nat, ∀ ty, (Builtin.len_ #[24] ty #[.map am]).run Try.prog W = .ok (.int .i64 (N : Int)) W := by obtain ⟨m, hm⟩ := h3; exact map_of hm
  obtain ⟨a4, rfl, rfl, rfl, w4⟩ := open_int Try.underlying3 (hval 4 3 v4 rfl rfl) h4
  clear hA0 hval0
  refine (Mt.law_any a0 a1 a2 len0 cap0 len1 cap1 len2 cap2 L0 L1 L2 (.map am) lk N a4 W w0 w1 w2 z0 z1 z2 w3 hN).mono fun e W' ⟨he, bel⟩ => ?_
  subst he
  exact ⟨_, rfl, _, _, _, [], _, [], hW', trodAll_mk1 (shut_bool Try.underlying4 _), (trodAll_cons_mk (Below.trod laidOut (by kernel_rfl) (of_decide_eq_true (by kernel_rfl)) k0 bel lt0) (trodAll_cons_mk (Below.trod laidOut (by kernel_rfl) (of_decide_eq_true (by kernel_rfl)) k1 bel lt1) (trodAll_cons_mk (Below.trod laidOut (by kernel_rfl) (of_decide_eq_true (by kernel_rfl)) k2 bel lt2) (trodAll_cons_mk (Below.trod laidOut (by kernel_rfl) (of_decide_eq_true (by kernel_rfl)) k3 bel lt3) (trodAll_cons_mk (shut_int Try.underlying3 w4) trodAll_mk0))))), rfl, bel.frame _, fun h => by cases h⟩

theorem over : Rows.fnMatchesConjunctionAtAnyCutRow.holds Try.pinned (OpenSpec.ofChange Rows.fnMatchesConjunctionAtAnyCutSpec) :=
  OpenClaim.holds_of_wide 3 Try.f3 rfl rfl rfl rfl rfl rfl rfl ⟨rfl, rfl, rfl, rfl, rfl⟩ rfl rfl rfl rfl rfl (by kernel_rfl) Try.func3 (by kernel_rfl)
    (of_decide_eq_true (by kernel_rfl)) (by unfold Func.isWrapper; first | (rw [if_pos (by decide +kernel)]; kernel_rfl) | (rw [if_neg (by decide +kernel)]; exact ⟨rfl, rfl⟩))
    (fun os started H enc _ => lifted os started H enc)

/-- THE STATEMENT -/
theorem proved : Rows.FnMatchesConjunctionAtAnyCutSaid :=
  over
end Go.Proofs.Qxb6623441a.fnMatchesConjunctionAtAnyCut
