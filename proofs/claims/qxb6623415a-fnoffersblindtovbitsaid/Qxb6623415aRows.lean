/-
  No cell of these rows narrows 'for every input' (looked for: loops, veiled, ifaces, maps, wideKeys, modest, calm, conditions, laid).
  DERIVED. THE GIVEN ROWS OF THIS SEAT. 2 by the template 'for every input the law returns true; each argument reads behind the call as it read before'; 0 by the template 'total and deterministic' (their statements: Qxb6623415aTotals.lean).
  GIVEN WITH THE SEED: the statements are not yours to turn. If you find one false, say at which input.
  Laid BY PROGRAM, IN A SANDBOX (cutbox-rows.mjs): the forced cells as the released guide's own fill.sh prints them over the translation 0f3d140b2752fcad… (all of the seat's roots in one cut). By AI agents, Wed Nov 11 2026. No macro, syntax, notation, axiom, sorry.
-/
import Derived.Test.Qxb6623415aChecked
import GoSem.Claim
import GoSem.ClaimJoined
import GoSem.ClaimMapViews
import Derived.JoinedTies
import Derived.KernelRfl
namespace Go.Proofs.Qxb6623415a
/- THE CELL 'sum', in the pinned program and in every row, IS THE sha256 OF THE DUMP (.gsa) THAT Qxb6623415aProg.lean LOADS. Nothing in Lean hashes anything: it is a label: what it is worth is what the hold of that sum in a sandbox is worth. -/
noncomputable def Try.pinned : Pinned := { name := "qxb6623415a", sum := "0f3d140b2752fcad05201932aab791c0b9493fbc36bdfb0c7eb0284c2cc52c79", checked := Try.checked }
namespace Rows
def none {H : Type} : Left H := { results := [], args := [] }

/-- 'zzlaws_eno_b1.FnOffersSplitAndInsert': WHATEVER THE INPUT: true; the input reads as it did. -/
def fnOffersSplitAndInsertSpec : ChangeSpec := { name := "fnOffersSplitAndInsert", fn := fun _ => fun
  | [d1, d2, d3, d4, d5, d6] => { results := [.lit (.bool true)], args := [d1, d2, d3, d4, d5, d6] }
  | _ => none }
def fnOffersSplitAndInsertRow : OpenClaim := { program := "qxb6623415a", sum := "0f3d140b2752fcad05201932aab791c0b9493fbc36bdfb0c7eb0284c2cc52c79", func := "example.com/hushwire/hushwire/zzlaws_eno_b1.FnOffersSplitAndInsert", spec := "fnOffersSplitAndInsert", apart := false }
def FnOffersSplitAndInsertSaid : Prop := fnOffersSplitAndInsertRow.holds Try.pinned (OpenSpec.ofChange fnOffersSplitAndInsertSpec)

/-- ITS FALSE NEIGHBOUR: 'it returns false'. Refute it at one input. -/
def fnOffersSplitAndInsertWrong : ChangeSpec := { name := "fnOffersSplitAndInsert", fn := fun _ => fun
  | [d1, d2, d3, d4, d5, d6] => { results := [.lit (.bool false)], args := [d1, d2, d3, d4, d5, d6] }
  | _ => none }
def FnOffersSplitAndInsertWrongFalsely : Prop := fnOffersSplitAndInsertRow.holds Try.pinned (OpenSpec.ofChange fnOffersSplitAndInsertWrong)

/-- 'zzlaws_eno_b1.FnOffersBlindToVBit': WHATEVER THE INPUT: true; the input reads as it did. -/
def fnOffersBlindToVBitSpec : ChangeSpec := { name := "fnOffersBlindToVBit", fn := fun _ => fun
  | [d1, d2, d3, d4, d5] => { results := [.lit (.bool true)], args := [d1, d2, d3, d4, d5] }
  | _ => none }
def fnOffersBlindToVBitRow : OpenClaim := { program := "qxb6623415a", sum := "0f3d140b2752fcad05201932aab791c0b9493fbc36bdfb0c7eb0284c2cc52c79", func := "example.com/hushwire/hushwire/zzlaws_eno_b1.FnOffersBlindToVBit", spec := "fnOffersBlindToVBit", apart := false }
def FnOffersBlindToVBitSaid : Prop := fnOffersBlindToVBitRow.holds Try.pinned (OpenSpec.ofChange fnOffersBlindToVBitSpec)

/-- ITS FALSE NEIGHBOUR: 'it returns false'. Refute it at one input. -/
def fnOffersBlindToVBitWrong : ChangeSpec := { name := "fnOffersBlindToVBit", fn := fun _ => fun
  | [d1, d2, d3, d4, d5] => { results := [.lit (.bool false)], args := [d1, d2, d3, d4, d5] }
  | _ => none }
def FnOffersBlindToVBitWrongFalsely : Prop := fnOffersBlindToVBitRow.holds Try.pinned (OpenSpec.ofChange fnOffersBlindToVBitWrong)

end Rows
end Go.Proofs.Qxb6623415a
