/-
  THE ROW AND THE TIED CARD OF 'FnIntStringIsCanonicalDecimalOfValue', after the guide's MapyProofs and MapyCard; the walk is Fm.law_any (Qxb6623396aDoorLaw).
-/
import Derived.Test.Qxb6623396aDoorRows
import Derived.Test.Qxb6623396aDoorTie
import Derived.Test.Qxb6623396aDoorCards
import Derived.Test.Qxb6623396aDoorLaw
import Derived.ProofKit
import Derived.LaidMore
import Derived.OpenShut
import Derived.Stop.Joined
import Derived.Stop.LaidErr
import Derived.Lib.LaidTab
import Derived.SevenTiedAt
import Derived.ChangeOld
import Derived.Below
namespace Go.Proofs.Qxb6623396aDoor.Card
open Go Go.ChangeShapes Go.WideShapes Go.ChangeAt Go.WideMaps Go.WideElems Go.RowKit
set_option linter.unusedVariables false

theorem own : ownKnob Tryd.prog.godebug = none := by kernel_rfl
theorem gP : Tryd.prog.globalNamed Fm.tabN = some 0 := by kernel_rfl
theorem tP : (Tryd.prog.globals[0]?).map (·.type) = some 40 := by kernel_rfl
theorem c22 : Tryd.prog.cellsOf 22 = 1 := by kernel_rfl
theorem c40 : Tryd.prog.cellsOf 40 = 20 := by kernel_rfl

/-- The door's own heap meets the condition: closed facts. -/
theorem door_met (os : Os) (args : Array Value) : laidMetH Tryd.prog Rows.fnIntStringIsCanonicalDecimalOfValueRow.laid ((World.doorLaid Tryd.prog 24 os).forCall (fun _ _ => 0) ⟨#[], args, []⟩).memory :=
  laidMetH_of_parts3 (fuel := 8) (laidMet_of_run' 8 (by kernel_rfl) (by kernel_rfl)) (by kernel_rfl) (by kernel_rfl)

/-- WHAT THE CONDITION GIVES THE WALK: the table of powers of ten. -/
theorem tab_of_laid {W : World} (h : laidMetH Tryd.prog Rows.fnIntStringIsCanonicalDecimalOfValueRow.laid W) : Fm.Tab W := by
  rw [MakeChecks.laidMetH_plain _ _ _ (by kernel_rfl)] at h
  have h1 : laidMet Tryd.prog [(Fm.tabN, Lib.tabData .u64 Lib.pow10Tab)] W := laidMet.tail (laidMet.tail h)
  exact Lib.tabIs_of_head gP tP Tryd.underlying40 Tryd.underlying22 c22 c40 h1

set_option maxRecDepth 100000 in
theorem lifted (os : Os) (started : os.Started) (H : Type) (enc : TypeId × Value → H) :
    ReturnsInHanded {} Tryd.checked os 3 .any (fun w args => (Rows.fnIntStringIsCanonicalDecimalOfValueSpec.pre enc Tryd.prog Tryd.f3 [] false w args ∧ laidMetH Tryd.prog Rows.fnIntStringIsCanonicalDecimalOfValueRow.laid w) ∧ sizedMet enc Tryd.prog Tryd.f3 (OpenSpec.ofChange Rows.fnIntStringIsCanonicalDecimalOfValueSpec) false w args)
      (Rows.fnIntStringIsCanonicalDecimalOfValueSpec.post enc Tryd.prog Tryd.f3 false true false false) := by
  refine returnsInHanded_of_change_and (C := Tryd.checked) (X := fun w _ => laidMetH Tryd.prog Rows.fnIntStringIsCanonicalDecimalOfValueRow.laid w) (fun _ _ _ hh h => h.of_heap hh) own started (by kernel_rfl) Tryd.func3
    (ChangeSpec.witness_shaped (enc := enc) (C := Tryd.checked) (os := os) (X := fun w _ => laidMetH Tryd.prog Rows.fnIntStringIsCanonicalDecimalOfValueRow.laid w) false (World.doorLaid Tryd.prog 24 os) #[.bool false, .int .u64 0] 8 rfl (World.shaped_of_RefB (by kernel_rfl) (by kernel_rfl)) (by kernel_rfl) (by kernel_rfl) (by kernel_rfl) (door_met os _)) ?_
  intro W base args ds gs before hval0 hW _ _ hL _
  have hval : ∀ (j : Nat) t v, Tryd.f3.params[j]? = some t → args[j]? = some v → Value.okWide Tryd.prog W .any base t v := hval0
  have hW' := hW
  obtain ⟨p, q, hA0, hV, rfl, hfz, hnd⟩ := hW
  have hA : DataW.TrodAll enc Tryd.prog W 0 (fun _ => true) true Tryd.f3.params.toList args.toList ds p := hA0
  rw [Tryd.params3] at hA hval
  obtain ⟨v0, vs0, d0, ds0, p0, q0, hargs, rfl, rfl, h0, r0⟩ := trodAll_cons hA
  obtain ⟨v1, vs1, d1, ds1, p1, q1, rfl, rfl, rfl, h1, r1⟩ := trodAll_cons r0
  obtain ⟨rfl, rfl, rfl⟩ := trodAll_nil r1
  obtain rfl : args = #[v0, v1] := by cases args; simp_all
  obtain ⟨rfl, rfl⟩ := trodVars_none hV
  obtain ⟨neg, rfl, rfl, rfl⟩ := open_bool Tryd.underlying4 (hval 0 4 v0 rfl rfl) h0
  obtain ⟨x, rfl, rfl, rfl, wx⟩ := open_int Tryd.underlying22 (hval 1 22 v1 rfl rfl) h1
  clear hA0 hval0
  obtain ⟨hx0, hx1⟩ := bounds_u64 wx
  obtain ⟨n, rfl⟩ := Int.eq_ofNat_of_zero_le hx0
  refine (Fm.law_any neg n (by omega) W (tab_of_laid hL)).mono fun e W' ⟨he, bel⟩ => ?_
  subst he
  exact ⟨_, rfl, _, _, _, [], _, [], hW', trodAll_mk1 (shut_bool Tryd.underlying4 _), (trodAll_cons_mk (shut_bool Tryd.underlying4 _) (trodAll_cons_mk (shut_int Tryd.underlying22 wx) trodAll_mk0)), rfl, bel.frame _, fun h => by cases h⟩

theorem row_holds : Rows.FnIntStringIsCanonicalDecimalOfValueSaid :=
  OpenClaim.holds_of_wide 3 Tryd.f3 rfl rfl rfl rfl rfl rfl rfl ⟨rfl, rfl, rfl, rfl, rfl⟩ rfl rfl rfl rfl rfl (by kernel_rfl) Tryd.func3 (by kernel_rfl)
    (of_decide_eq_true (by kernel_rfl)) (by unfold Func.isWrapper; first | (rw [if_pos (by decide +kernel)]; kernel_rfl) | (rw [if_neg (by decide +kernel)]; exact ⟨rfl, rfl⟩))
    (fun os started H enc _ => lifted os started H enc)

/-- THE STATEMENT: the tied card. -/
theorem proved : Rows.FnIntStringIsCanonicalDecimalOfValueCardSaid :=
  Claim7.holds_tied_plain_at .later [] [.data, .data, .data] true (true, "0eefeb962c63128c8302c1e0c0e793dc5a2982df9b2f1216b46d89b159705a4c") false
    row_holds (fun _ h => by cases h) (by kernel_rfl) (fun _ h => by cases h) fnIntStringIsCanonicalDecimalOfValue_row_tie rfl ⟨rfl, rfl⟩ (by kernel_rfl) rfl
    (fun f fn hf hfn => by
      obtain rfl : f = 3 := Option.some.inj ((show Tryd.prog.funcNamed Rows.fnIntStringIsCanonicalDecimalOfValueRow.func = some 3 by kernel_rfl).symm.trans hf) |>.symm
      obtain rfl : fn = Tryd.f3 := (Option.some.inj (Tryd.func3.symm.trans hfn)).symm
      exact ⟨by kernel_rfl, fun j t ht => by
        rw [Tryd.params3] at ht
        have hm : t ∈ [4, 22] := by simpa using Array.mem_of_getElem? ht
        have hall : ([4, 22].all fun u => !Tryd.prog.wantsStandIn u) = true := by kernel_rfl
        exact (show Tryd.prog.wantsStandIn t = false by simpa using List.all_eq_true.1 hall t hm)⟩)
    (by kernel_rfl)
end Go.Proofs.Qxb6623396aDoor.Card
