/-
  No cell of these rows narrows 'for every input' (looked for: loops, veiled, ifaces, maps, wideKeys, modest, calm, conditions, laid).
  DERIVED. THE GIVEN ROWS OF THIS SEAT. 4 by the template 'for every input the law returns true; each argument reads behind the call as it read before'; 0 by the template 'total and deterministic' (their statements: Qxb6621630aTotals.lean).
  GIVEN WITH THE SEED: the statements are not yours to turn. If you find one false, say at which input.
  Laid BY PROGRAM, IN A SANDBOX (cutbox-rows.mjs): the forced cells as the released guide's own fill.sh prints them over the translation dae8440b08e2a4eb… (all of the seat's roots in one cut). By AI agents, Wed Nov 11 2026. No macro, syntax, notation, axiom, sorry.
-/
import Derived.Test.Qxb6621630aChecked
import GoSem.Claim
import GoSem.ClaimJoined
import GoSem.ClaimMapViews
import Derived.JoinedTies
import Derived.KernelRfl
namespace Go.Proofs.Qxb6621630a
/- THE CELL 'sum', in the pinned program and in every row, IS THE sha256 OF THE DUMP (.gsa) THAT Qxb6621630aProg.lean LOADS. Nothing in Lean hashes anything: it is a label: what it is worth is what the hold of that sum in a sandbox is worth. -/
noncomputable def Try.pinned : Pinned := { name := "qxb6621630a", sum := "dae8440b08e2a4eb3896b932b480dde9ed161cfe534df8623985f30565963202", checked := Try.checked }
namespace Rows
def none {H : Type} : Left H := { results := [], args := [] }

/-- 'zzlaws_config_b1.FnCommandEndFirstUnmatchedClose': WHATEVER THE INPUT: true; the input reads as it did. -/
def fnCommandEndFirstUnmatchedCloseSpec : ChangeSpec := { name := "fnCommandEndFirstUnmatchedClose", fn := fun _ => fun
  | [d] => { results := [.lit (.bool true)], args := [d] }
  | _ => none }
def fnCommandEndFirstUnmatchedCloseRow : OpenClaim := { program := "qxb6621630a", sum := "dae8440b08e2a4eb3896b932b480dde9ed161cfe534df8623985f30565963202", func := "example.com/bindweave/bindweave/zzlaws_config_b1.FnCommandEndFirstUnmatchedClose", spec := "fnCommandEndFirstUnmatchedClose", apart := false }
def FnCommandEndFirstUnmatchedCloseSaid : Prop := fnCommandEndFirstUnmatchedCloseRow.holds Try.pinned (OpenSpec.ofChange fnCommandEndFirstUnmatchedCloseSpec)

/-- ITS FALSE NEIGHBOUR: 'it returns false'. Refute it at one input. -/
def fnCommandEndFirstUnmatchedCloseWrong : ChangeSpec := { name := "fnCommandEndFirstUnmatchedClose", fn := fun _ => fun
  | [d] => { results := [.lit (.bool false)], args := [d] }
  | _ => none }
def FnCommandEndFirstUnmatchedCloseWrongFalsely : Prop := fnCommandEndFirstUnmatchedCloseRow.holds Try.pinned (OpenSpec.ofChange fnCommandEndFirstUnmatchedCloseWrong)

/-- 'zzlaws_config_b1.FnCommandEndCutAndNest': WHATEVER THE INPUT: true; the input reads as it did. -/
def fnCommandEndCutAndNestSpec : ChangeSpec := { name := "fnCommandEndCutAndNest", fn := fun _ => fun
  | [d1, d2] => { results := [.lit (.bool true)], args := [d1, d2] }
  | _ => none }
def fnCommandEndCutAndNestRow : OpenClaim := { program := "qxb6621630a", sum := "dae8440b08e2a4eb3896b932b480dde9ed161cfe534df8623985f30565963202", func := "example.com/bindweave/bindweave/zzlaws_config_b1.FnCommandEndCutAndNest", spec := "fnCommandEndCutAndNest", apart := false }
def FnCommandEndCutAndNestSaid : Prop := fnCommandEndCutAndNestRow.holds Try.pinned (OpenSpec.ofChange fnCommandEndCutAndNestSpec)

/-- ITS FALSE NEIGHBOUR: 'it returns false'. Refute it at one input. -/
def fnCommandEndCutAndNestWrong : ChangeSpec := { name := "fnCommandEndCutAndNest", fn := fun _ => fun
  | [d1, d2] => { results := [.lit (.bool false)], args := [d1, d2] }
  | _ => none }
def FnCommandEndCutAndNestWrongFalsely : Prop := fnCommandEndCutAndNestRow.holds Try.pinned (OpenSpec.ofChange fnCommandEndCutAndNestWrong)

/-- 'zzlaws_config_b1.FnPlatformsJoinOS': WHATEVER THE INPUT: true; the input reads as it did. -/
def fnPlatformsJoinOSSpec : ChangeSpec := { name := "fnPlatformsJoinOS", fn := fun _ => fun
  | [d1, d2, d3] => { results := [.lit (.bool true)], args := [d1, d2, d3] }
  | _ => none }
def fnPlatformsJoinOSRow : OpenClaim := { program := "qxb6621630a", sum := "dae8440b08e2a4eb3896b932b480dde9ed161cfe534df8623985f30565963202", func := "example.com/bindweave/bindweave/zzlaws_config_b1.FnPlatformsJoinOS", spec := "fnPlatformsJoinOS", apart := false }
def FnPlatformsJoinOSSaid : Prop := fnPlatformsJoinOSRow.holds Try.pinned (OpenSpec.ofChange fnPlatformsJoinOSSpec)

/-- ITS FALSE NEIGHBOUR: 'it returns false'. Refute it at one input. -/
def fnPlatformsJoinOSWrong : ChangeSpec := { name := "fnPlatformsJoinOS", fn := fun _ => fun
  | [d1, d2, d3] => { results := [.lit (.bool false)], args := [d1, d2, d3] }
  | _ => none }
def FnPlatformsJoinOSWrongFalsely : Prop := fnPlatformsJoinOSRow.holds Try.pinned (OpenSpec.ofChange fnPlatformsJoinOSWrong)

/-- 'zzlaws_config_b1.FnPlatformsTranspose': WHATEVER THE INPUT: true; the input reads as it did. -/
def fnPlatformsTransposeSpec : ChangeSpec := { name := "fnPlatformsTranspose", fn := fun _ => fun
  | [d1, d2] => { results := [.lit (.bool true)], args := [d1, d2] }
  | _ => none }
def fnPlatformsTransposeRow : OpenClaim := { program := "qxb6621630a", sum := "dae8440b08e2a4eb3896b932b480dde9ed161cfe534df8623985f30565963202", func := "example.com/bindweave/bindweave/zzlaws_config_b1.FnPlatformsTranspose", spec := "fnPlatformsTranspose", apart := false }
def FnPlatformsTransposeSaid : Prop := fnPlatformsTransposeRow.holds Try.pinned (OpenSpec.ofChange fnPlatformsTransposeSpec)

/-- ITS FALSE NEIGHBOUR: 'it returns false'. Refute it at one input. -/
def fnPlatformsTransposeWrong : ChangeSpec := { name := "fnPlatformsTranspose", fn := fun _ => fun
  | [d1, d2] => { results := [.lit (.bool false)], args := [d1, d2] }
  | _ => none }
def FnPlatformsTransposeWrongFalsely : Prop := fnPlatformsTransposeRow.holds Try.pinned (OpenSpec.ofChange fnPlatformsTransposeWrong)

end Rows
end Go.Proofs.Qxb6621630a
