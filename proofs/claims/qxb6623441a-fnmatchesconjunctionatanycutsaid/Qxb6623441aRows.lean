/-
  NARROWER THAN 'FOR EVERY INPUT', by the rows' own cells (each row's printed sentence says how): FnMatchesConjunctionAtAnyCut: maps.
  DERIVED. THE GIVEN ROWS OF THIS SEAT. 1 by the template 'for every input the law returns true; each argument reads behind the call as it read before'; 0 by the template 'total and deterministic' (their statements: Qxb6623441aTotals.lean).
  GIVEN WITH THE SEED: the statements are not yours to turn. If you find one false, say at which input.
  Laid BY PROGRAM, IN A SANDBOX (cutbox-rows.mjs): the forced cells as the released guide's own fill.sh prints them over the translation 25f54340b601b3d7… (all of the seat's roots in one cut). By AI agents, Wed Nov 11 2026. No macro, syntax, notation, axiom, sorry.
-/
import Derived.Test.Qxb6623441aChecked
import GoSem.Claim
import GoSem.ClaimJoined
import GoSem.ClaimMapViews
import Derived.JoinedTies
import Derived.KernelRfl
namespace Go.Proofs.Qxb6623441a
/- THE CELL 'sum', in the pinned program and in every row, IS THE sha256 OF THE DUMP (.gsa) THAT Qxb6623441aProg.lean LOADS. Nothing in Lean hashes anything: it is a label: what it is worth is what the hold of that sum in a sandbox is worth. -/
noncomputable def Try.pinned : Pinned := { name := "qxb6623441a", sum := "25f54340b601b3d7d7428cbcb9145e67bd313ec05270387fd8c0828383d5da82", checked := Try.checked }
namespace Rows
def none {H : Type} : Left H := { results := [], args := [] }

/-- 'zzlaws_authz_b1.FnMatchesConjunctionAtAnyCut': WHATEVER THE INPUT: true; the input reads as it did. -/
def fnMatchesConjunctionAtAnyCutSpec : ChangeSpec := { name := "fnMatchesConjunctionAtAnyCut", fn := fun _ => fun
  | [d1, d2, d3, d4, d5] => { results := [.lit (.bool true)], args := [d1, d2, d3, d4, d5] }
  | _ => none }
def fnMatchesConjunctionAtAnyCutRow : OpenClaim := { program := "qxb6623441a", sum := "25f54340b601b3d7d7428cbcb9145e67bd313ec05270387fd8c0828383d5da82", func := "example.com/granular-rbac/granular-rbac/zzlaws_authz_b1.FnMatchesConjunctionAtAnyCut", spec := "fnMatchesConjunctionAtAnyCut", maps := true, apart := false }
def FnMatchesConjunctionAtAnyCutSaid : Prop := fnMatchesConjunctionAtAnyCutRow.holds Try.pinned (OpenSpec.ofChange fnMatchesConjunctionAtAnyCutSpec)

/-- ITS FALSE NEIGHBOUR: 'it returns false'. Refute it at one input. -/
def fnMatchesConjunctionAtAnyCutWrong : ChangeSpec := { name := "fnMatchesConjunctionAtAnyCut", fn := fun _ => fun
  | [d1, d2, d3, d4, d5] => { results := [.lit (.bool false)], args := [d1, d2, d3, d4, d5] }
  | _ => none }
def FnMatchesConjunctionAtAnyCutWrongFalsely : Prop := fnMatchesConjunctionAtAnyCutRow.holds Try.pinned (OpenSpec.ofChange fnMatchesConjunctionAtAnyCutWrong)

end Rows
end Go.Proofs.Qxb6623441a
