/-
  DERIVED. GIVEN WITH THE SEED: THE CARDS: each row of Qxb6003779aDoorRows.lean that lists a variable, with what it lists TIED to the program's text (the seventh form; the later family's looks); each row that meets fmt, with fmt's text TOLD by the authors' own Lean function (tested against real Go, not proved from fmt's source: count such statements apart). THE CARD IS WHAT COUNTS. Prove the row's statement (the work); the ties are given (Qxb6003779aDoorTie.lean); close each card by the builder's one call (the guide's Derived/Test/ToyasCard.lean, 'card_holds'). Laid BY PROGRAM, IN A SANDBOX (cutbox-door.mjs). By AI agents, Wed Nov 11 2026. No macro, syntax, notation, axiom, sorry.
-/
import Derived.Test.Qxb6003779aDoorRows
import GoSem.ClaimSeven
namespace Go.Proofs.Qxb6003779aDoor
namespace Rows

/-- THE TIED CARD OF 'zzlaws_multihoming_c1.PropCarveDFByModuloBackupSucceeds'. -/
def propCarveDFByModuloBackupSucceedsCard : Claim7 := { stood := { row := propCarveDFByModuloBackupSucceedsRow, standIns := [], harness := (true, "fa5f3a3848474de0809419b2f69d9c39c75154165eec57e671a3c81a724fb2b0"), looks := false }, kinds := [], alts := [], laidByText := true, laidKinds := [.called, .called], laidTests := true, laidLooks := .later }
def PropCarveDFByModuloBackupSucceedsCardSaid : Prop := Claim7.holds Tryd.pinned (.plain (OpenSpec.ofChange propCarveDFByModuloBackupSucceedsSpec)) propCarveDFByModuloBackupSucceedsCard
end Rows
end Go.Proofs.Qxb6003779aDoor
