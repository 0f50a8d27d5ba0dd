/-
  DERIVED. GIVEN WITH THE SEED: THE CARDS: each row of Qxb6002619aFmtRows.lean that lists a variable, with what it lists TIED to the program's text (the seventh form; the later family's looks); each row that meets fmt, with fmt's text TOLD by the authors' own Lean function (tested against real Go, not proved from fmt's source: count such statements apart). THE CARD IS WHAT COUNTS. Prove the row's statement (the work); the ties are given (Qxb6002619aFmtTie.lean); close each card by the builder's one call (the guide's Derived/Test/ToyasCard.lean, 'card_holds'). Laid BY PROGRAM, IN A SANDBOX (cutbox-door.mjs). By AI agents, Wed Nov 11 2026. No macro, syntax, notation, axiom, sorry.
-/
import Derived.Test.Qxb6002619aFmtRows
import GoSem.ClaimSeven
namespace Go.Proofs.Qxb6002619aFmt
namespace Rows

/-- THE TOLD CARD OF 'zzlaws_internal_blocks_c1.PropEnteredIffJumpIntoBlock'. -/
def propEnteredIffJumpIntoBlockCard : Claim7 := { stood := { row := propEnteredIffJumpIntoBlockRow, standIns := [], harness := (true, "a635c9bce21810b8f34b053e8a784bae42a9eda164c67e0fd649fa600e6626f2"), looks := true }, told := true, goes := false }
def PropEnteredIffJumpIntoBlockToldSaid : Prop := Claim7.holds Tryf.pinned (.plain (OpenSpec.ofChange propEnteredIffJumpIntoBlockSpec)) propEnteredIffJumpIntoBlockCard
/-- ITS FALSE NEIGHBOUR. Refute it at one input. -/
def PropEnteredIffJumpIntoBlockToldWrongFalsely : Prop := Claim7.holds Tryf.pinned (.plain (OpenSpec.ofChange propEnteredIffJumpIntoBlockWrong)) propEnteredIffJumpIntoBlockCard

/-- THE TOLD CARD OF 'zzlaws_internal_blocks_c1.PropPairAcceptsExactlyNestedBlocksFree'. -/
def propPairAcceptsExactlyNestedBlocksFreeCard : Claim7 := { stood := { row := propPairAcceptsExactlyNestedBlocksFreeRow, standIns := [], harness := (true, "a635c9bce21810b8f34b053e8a784bae42a9eda164c67e0fd649fa600e6626f2"), looks := true }, told := true, goes := false }
def PropPairAcceptsExactlyNestedBlocksFreeToldSaid : Prop := Claim7.holds Tryf.pinned (.plain (OpenSpec.ofChange propPairAcceptsExactlyNestedBlocksFreeSpec)) propPairAcceptsExactlyNestedBlocksFreeCard
/-- ITS FALSE NEIGHBOUR. Refute it at one input. -/
def PropPairAcceptsExactlyNestedBlocksFreeToldWrongFalsely : Prop := Claim7.holds Tryf.pinned (.plain (OpenSpec.ofChange propPairAcceptsExactlyNestedBlocksFreeWrong)) propPairAcceptsExactlyNestedBlocksFreeCard

/-- THE TOLD CARD OF 'zzlaws_internal_blocks_c1.PropPairAcceptsExactlyNestedBlocks'. -/
def propPairAcceptsExactlyNestedBlocksCard : Claim7 := { stood := { row := propPairAcceptsExactlyNestedBlocksRow, standIns := [], harness := (true, "a635c9bce21810b8f34b053e8a784bae42a9eda164c67e0fd649fa600e6626f2"), looks := true }, told := true, goes := false }
def PropPairAcceptsExactlyNestedBlocksToldSaid : Prop := Claim7.holds Tryf.pinned (.plain (OpenSpec.ofChange propPairAcceptsExactlyNestedBlocksSpec)) propPairAcceptsExactlyNestedBlocksCard
/-- ITS FALSE NEIGHBOUR. Refute it at one input. -/
def PropPairAcceptsExactlyNestedBlocksToldWrongFalsely : Prop := Claim7.holds Tryf.pinned (.plain (OpenSpec.ofChange propPairAcceptsExactlyNestedBlocksWrong)) propPairAcceptsExactlyNestedBlocksCard

/-- THE TOLD CARD OF 'zzlaws_internal_blocks_c1.PropPairAtMostTwoDiagnosticsPerStmt'. -/
def propPairAtMostTwoDiagnosticsPerStmtCard : Claim7 := { stood := { row := propPairAtMostTwoDiagnosticsPerStmtRow, standIns := [], harness := (true, "a635c9bce21810b8f34b053e8a784bae42a9eda164c67e0fd649fa600e6626f2"), looks := true }, told := true, goes := false }
def PropPairAtMostTwoDiagnosticsPerStmtToldSaid : Prop := Claim7.holds Tryf.pinned (.plain (OpenSpec.ofChange propPairAtMostTwoDiagnosticsPerStmtSpec)) propPairAtMostTwoDiagnosticsPerStmtCard
/-- ITS FALSE NEIGHBOUR. Refute it at one input. -/
def PropPairAtMostTwoDiagnosticsPerStmtToldWrongFalsely : Prop := Claim7.holds Tryf.pinned (.plain (OpenSpec.ofChange propPairAtMostTwoDiagnosticsPerStmtWrong)) propPairAtMostTwoDiagnosticsPerStmtCard
end Rows
end Go.Proofs.Qxb6002619aFmt
