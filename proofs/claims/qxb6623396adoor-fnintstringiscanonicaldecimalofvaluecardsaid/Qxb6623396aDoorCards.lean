/-
  DERIVED. GIVEN WITH THE SEED: THE CARDS: each row of Qxb6623396aDoorRows.lean that lists a variable, with what it lists TIED to the program's text (the seventh form; the later family's looks); each row that meets fmt, with fmt's text TOLD by the authors' own Lean function (tested against real Go, not proved from fmt's source: count such statements apart). THE CARD IS WHAT COUNTS. Prove the row's statement (the work); the ties are given (Qxb6623396aDoorTie.lean); close each card by the builder's one call (the guide's Derived/Test/ToyasCard.lean, 'card_holds'). Laid BY PROGRAM, IN A SANDBOX (cutbox-door.mjs). By AI agents, Wed Nov 11 2026. No macro, syntax, notation, axiom, sorry.
-/
import Derived.Test.Qxb6623396aDoorRows
import GoSem.ClaimSeven
namespace Go.Proofs.Qxb6623396aDoor
namespace Rows

/-- THE TIED CARD OF 'zzlaws_pkg_ipld_b1.FnIntStringIsCanonicalDecimalOfValue'. -/
def fnIntStringIsCanonicalDecimalOfValueCard : Claim7 := { stood := { row := fnIntStringIsCanonicalDecimalOfValueRow, standIns := [], harness := (true, "0eefeb962c63128c8302c1e0c0e793dc5a2982df9b2f1216b46d89b159705a4c"), looks := false }, kinds := [], alts := [], laidByText := true, laidKinds := [.data, .data, .data], laidTests := true, laidLooks := .later }
def FnIntStringIsCanonicalDecimalOfValueCardSaid : Prop := Claim7.holds Tryd.pinned (.plain (OpenSpec.ofChange fnIntStringIsCanonicalDecimalOfValueSpec)) fnIntStringIsCanonicalDecimalOfValueCard
end Rows
end Go.Proofs.Qxb6623396aDoor
