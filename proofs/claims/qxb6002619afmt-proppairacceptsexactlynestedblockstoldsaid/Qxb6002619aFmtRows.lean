/-
  No cell of these rows narrows 'for every input' (looked for: loops, veiled, ifaces, maps, wideKeys, modest, calm, conditions, laid).
  DERIVED. THE GIVEN ROWS OF THIS SEAT. 4 by the template 'for every input the law returns true; each argument reads behind the call as it read before'; 0 by the template 'total and deterministic' (their statements: Qxb6002619aFmtTotals.lean).
  GIVEN WITH THE SEED: the statements are not yours to turn. If you find one false, say at which input.
  Laid BY PROGRAM, IN A SANDBOX (cutbox-rows.mjs): the forced cells as the released guide's own fill.sh prints them over the translation 47408baba285bfed… (all of the seat's roots in one cut). By AI agents, Wed Nov 11 2026. No macro, syntax, notation, axiom, sorry.
-/
import Derived.Test.Qxb6002619aFmtChecked
import GoSem.Claim
import GoSem.ClaimJoined
import GoSem.ClaimMapViews
import Derived.JoinedTies
import Derived.KernelRfl
namespace Go.Proofs.Qxb6002619aFmt
/- THE CELL 'sum', in the pinned program and in every row, IS THE sha256 OF THE DUMP (.gsa) THAT Qxb6002619aFmtProg.lean LOADS. Nothing in Lean hashes anything: it is a label: what it is worth is what the hold of that sum in a sandbox is worth. -/
noncomputable def Tryf.pinned : Pinned := { name := "qxb6002619afmt", sum := "47408baba285bfedcb8ee6dc6e4ed24dc2325741dfa654e609cbc831517348fb", checked := Tryf.checked }
namespace Rows
def none {H : Type} : Left H := { results := [], args := [] }

/-- 'zzlaws_internal_blocks_c1.PropEnteredIffJumpIntoBlock': WHATEVER THE INPUT: true; the input reads as it did. -/
def propEnteredIffJumpIntoBlockSpec : ChangeSpec := { name := "propEnteredIffJumpIntoBlock", fn := fun _ => fun
  | [d1, d2, d3, d4] => { results := [.lit (.bool true)], args := [d1, d2, d3, d4] }
  | _ => none }
def propEnteredIffJumpIntoBlockRow : OpenClaim := { program := "qxb6002619afmt", sum := "47408baba285bfedcb8ee6dc6e4ed24dc2325741dfa654e609cbc831517348fb", func := "example.com/dialecta/dialecta/zzlaws_internal_blocks_c1.PropEnteredIffJumpIntoBlock", spec := "propEnteredIffJumpIntoBlock", stops := ["fmt.Sprintf, its operands' methods called"], inPlace := ["fmt.Sprintf"], unfollowed := true, recurses := true, apart := false }
/-- NO THEOREM (fmt's text is open here; it may be false): for the released tool's asking of the row's closed facts alone. THE STATEMENT IS 'PropEnteredIffJumpIntoBlockToldSaid' (Qxb6002619aFmtCards.lean). -/
def PropEnteredIffJumpIntoBlockFormAsk : Prop := propEnteredIffJumpIntoBlockRow.holds Tryf.pinned (OpenSpec.ofChange propEnteredIffJumpIntoBlockSpec)

/-- ITS FALSE NEIGHBOUR: 'it returns false'. Refute it at one input. -/
def propEnteredIffJumpIntoBlockWrong : ChangeSpec := { name := "propEnteredIffJumpIntoBlock", fn := fun _ => fun
  | [d1, d2, d3, d4] => { results := [.lit (.bool false)], args := [d1, d2, d3, d4] }
  | _ => none }
def PropEnteredIffJumpIntoBlockWrongFormAsk : Prop := propEnteredIffJumpIntoBlockRow.holds Tryf.pinned (OpenSpec.ofChange propEnteredIffJumpIntoBlockWrong)

/-- 'zzlaws_internal_blocks_c1.PropPairAcceptsExactlyNestedBlocksFree': WHATEVER THE INPUT: true; the input reads as it did. -/
def propPairAcceptsExactlyNestedBlocksFreeSpec : ChangeSpec := { name := "propPairAcceptsExactlyNestedBlocksFree", fn := fun _ => fun
  | [d1, d2] => { results := [.lit (.bool true)], args := [d1, d2] }
  | _ => none }
def propPairAcceptsExactlyNestedBlocksFreeRow : OpenClaim := { program := "qxb6002619afmt", sum := "47408baba285bfedcb8ee6dc6e4ed24dc2325741dfa654e609cbc831517348fb", func := "example.com/dialecta/dialecta/zzlaws_internal_blocks_c1.PropPairAcceptsExactlyNestedBlocksFree", spec := "propPairAcceptsExactlyNestedBlocksFree", stops := ["fmt.Sprintf, its operands' methods called"], inPlace := ["fmt.Sprintf"], unfollowed := true, recurses := true, apart := false }
/-- NO THEOREM (fmt's text is open here; it may be false): for the released tool's asking of the row's closed facts alone. THE STATEMENT IS 'PropPairAcceptsExactlyNestedBlocksFreeToldSaid' (Qxb6002619aFmtCards.lean). -/
def PropPairAcceptsExactlyNestedBlocksFreeFormAsk : Prop := propPairAcceptsExactlyNestedBlocksFreeRow.holds Tryf.pinned (OpenSpec.ofChange propPairAcceptsExactlyNestedBlocksFreeSpec)

/-- ITS FALSE NEIGHBOUR: 'it returns false'. Refute it at one input. -/
def propPairAcceptsExactlyNestedBlocksFreeWrong : ChangeSpec := { name := "propPairAcceptsExactlyNestedBlocksFree", fn := fun _ => fun
  | [d1, d2] => { results := [.lit (.bool false)], args := [d1, d2] }
  | _ => none }
def PropPairAcceptsExactlyNestedBlocksFreeWrongFormAsk : Prop := propPairAcceptsExactlyNestedBlocksFreeRow.holds Tryf.pinned (OpenSpec.ofChange propPairAcceptsExactlyNestedBlocksFreeWrong)

/-- 'zzlaws_internal_blocks_c1.PropPairAcceptsExactlyNestedBlocks': WHATEVER THE INPUT: true; the input reads as it did. -/
def propPairAcceptsExactlyNestedBlocksSpec : ChangeSpec := { name := "propPairAcceptsExactlyNestedBlocks", fn := fun _ => fun
  | [d1, d2] => { results := [.lit (.bool true)], args := [d1, d2] }
  | _ => none }
def propPairAcceptsExactlyNestedBlocksRow : OpenClaim := { program := "qxb6002619afmt", sum := "47408baba285bfedcb8ee6dc6e4ed24dc2325741dfa654e609cbc831517348fb", func := "example.com/dialecta/dialecta/zzlaws_internal_blocks_c1.PropPairAcceptsExactlyNestedBlocks", spec := "propPairAcceptsExactlyNestedBlocks", stops := ["fmt.Sprintf, its operands' methods called"], inPlace := ["fmt.Sprintf"], unfollowed := true, recurses := true, apart := false }
/-- NO THEOREM (fmt's text is open here; it may be false): for the released tool's asking of the row's closed facts alone. THE STATEMENT IS 'PropPairAcceptsExactlyNestedBlocksToldSaid' (Qxb6002619aFmtCards.lean). -/
def PropPairAcceptsExactlyNestedBlocksFormAsk : Prop := propPairAcceptsExactlyNestedBlocksRow.holds Tryf.pinned (OpenSpec.ofChange propPairAcceptsExactlyNestedBlocksSpec)

/-- ITS FALSE NEIGHBOUR: 'it returns false'. Refute it at one input. -/
def propPairAcceptsExactlyNestedBlocksWrong : ChangeSpec := { name := "propPairAcceptsExactlyNestedBlocks", fn := fun _ => fun
  | [d1, d2] => { results := [.lit (.bool false)], args := [d1, d2] }
  | _ => none }
def PropPairAcceptsExactlyNestedBlocksWrongFormAsk : Prop := propPairAcceptsExactlyNestedBlocksRow.holds Tryf.pinned (OpenSpec.ofChange propPairAcceptsExactlyNestedBlocksWrong)

/-- 'zzlaws_internal_blocks_c1.PropPairAtMostTwoDiagnosticsPerStmt': WHATEVER THE INPUT: true; the input reads as it did. -/
def propPairAtMostTwoDiagnosticsPerStmtSpec : ChangeSpec := { name := "propPairAtMostTwoDiagnosticsPerStmt", fn := fun _ => fun
  | [d1, d2] => { results := [.lit (.bool true)], args := [d1, d2] }
  | _ => none }
def propPairAtMostTwoDiagnosticsPerStmtRow : OpenClaim := { program := "qxb6002619afmt", sum := "47408baba285bfedcb8ee6dc6e4ed24dc2325741dfa654e609cbc831517348fb", func := "example.com/dialecta/dialecta/zzlaws_internal_blocks_c1.PropPairAtMostTwoDiagnosticsPerStmt", spec := "propPairAtMostTwoDiagnosticsPerStmt", stops := ["fmt.Sprintf, its operands' methods called"], inPlace := ["fmt.Sprintf"], unfollowed := true, recurses := true, apart := false }
/-- NO THEOREM (fmt's text is open here; it may be false): for the released tool's asking of the row's closed facts alone. THE STATEMENT IS 'PropPairAtMostTwoDiagnosticsPerStmtToldSaid' (Qxb6002619aFmtCards.lean). -/
def PropPairAtMostTwoDiagnosticsPerStmtFormAsk : Prop := propPairAtMostTwoDiagnosticsPerStmtRow.holds Tryf.pinned (OpenSpec.ofChange propPairAtMostTwoDiagnosticsPerStmtSpec)

/-- ITS FALSE NEIGHBOUR: 'it returns false'. Refute it at one input. -/
def propPairAtMostTwoDiagnosticsPerStmtWrong : ChangeSpec := { name := "propPairAtMostTwoDiagnosticsPerStmt", fn := fun _ => fun
  | [d1, d2] => { results := [.lit (.bool false)], args := [d1, d2] }
  | _ => none }
def PropPairAtMostTwoDiagnosticsPerStmtWrongFormAsk : Prop := propPairAtMostTwoDiagnosticsPerStmtRow.holds Tryf.pinned (OpenSpec.ofChange propPairAtMostTwoDiagnosticsPerStmtWrong)

end Rows
end Go.Proofs.Qxb6002619aFmt
