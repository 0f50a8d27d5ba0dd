/-
  No cell of these rows narrows 'for every input' (looked for: loops, veiled, ifaces, maps, wideKeys, modest, calm, conditions, laid).
  DERIVED. THE GIVEN ROWS OF THIS SEAT. 3 by the template 'for every input the law returns true; each argument reads behind the call as it read before'; 0 by the template 'total and deterministic' (their statements: Qxb6002608aTotals.lean).
  GIVEN WITH THE SEED: the statements are not yours to turn. If you find one false, say at which input.
  Laid BY PROGRAM, IN A SANDBOX (cutbox-rows.mjs): the forced cells as the released guide's own fill.sh prints them over the translation 4cc33eb0f3acd6ee… (all of the seat's roots in one cut). By AI agents, Wed Nov 11 2026. No macro, syntax, notation, axiom, sorry.
-/
import Derived.Test.Qxb6002608aChecked
import GoSem.Claim
import GoSem.ClaimJoined
import GoSem.ClaimMapViews
import Derived.JoinedTies
import Derived.KernelRfl
namespace Go.Proofs.Qxb6002608a
/- THE CELL 'sum', in the pinned program and in every row, IS THE sha256 OF THE DUMP (.gsa) THAT Qxb6002608aProg.lean LOADS. Nothing in Lean hashes anything: it is a label: what it is worth is what the hold of that sum in a sandbox is worth. -/
noncomputable def Try.pinned : Pinned := { name := "qxb6002608a", sum := "4cc33eb0f3acd6ee1c9501b9e61dadc824c435bc3ba7a1bb070eb02be5fd4a39", checked := Try.checked }
namespace Rows
def none {H : Type} : Left H := { results := [], args := [] }

/-- 'zzlaws_root_c3.PropDisjointKeepsUnionSortedApart': WHATEVER THE INPUT: true; the input reads as it did. -/
def propDisjointKeepsUnionSortedApartSpec : ChangeSpec := { name := "propDisjointKeepsUnionSortedApart", fn := fun _ => fun
  | [d] => { results := [.lit (.bool true)], args := [d] }
  | _ => none }
def propDisjointKeepsUnionSortedApartRow : OpenClaim := { program := "qxb6002608a", sum := "4cc33eb0f3acd6ee1c9501b9e61dadc824c435bc3ba7a1bb070eb02be5fd4a39", func := "example.com/sanguine/sanguine/zzlaws_root_c3.PropDisjointKeepsUnionSortedApart", spec := "propDisjointKeepsUnionSortedApart", inPlace := ["internal/bytealg.abigen_runtime_cmpstring"], unfollowed := true, recurses := true, apart := false }
def PropDisjointKeepsUnionSortedApartSaid : Prop := propDisjointKeepsUnionSortedApartRow.holds Try.pinned (OpenSpec.ofChange propDisjointKeepsUnionSortedApartSpec)

/-- ITS FALSE NEIGHBOUR: 'it returns false'. Refute it at one input. -/
def propDisjointKeepsUnionSortedApartWrong : ChangeSpec := { name := "propDisjointKeepsUnionSortedApart", fn := fun _ => fun
  | [d] => { results := [.lit (.bool false)], args := [d] }
  | _ => none }
def PropDisjointKeepsUnionSortedApartWrongFalsely : Prop := propDisjointKeepsUnionSortedApartRow.holds Try.pinned (OpenSpec.ofChange propDisjointKeepsUnionSortedApartWrong)

/-- 'zzlaws_root_c3.PropRangeSetContainsIffAddedRangeDoes': WHATEVER THE INPUT: true; the input reads as it did. -/
def propRangeSetContainsIffAddedRangeDoesSpec : ChangeSpec := { name := "propRangeSetContainsIffAddedRangeDoes", fn := fun _ => fun
  | [d] => { results := [.lit (.bool true)], args := [d] }
  | _ => none }
def propRangeSetContainsIffAddedRangeDoesRow : OpenClaim := { program := "qxb6002608a", sum := "4cc33eb0f3acd6ee1c9501b9e61dadc824c435bc3ba7a1bb070eb02be5fd4a39", func := "example.com/sanguine/sanguine/zzlaws_root_c3.PropRangeSetContainsIffAddedRangeDoes", spec := "propRangeSetContainsIffAddedRangeDoes", inPlace := ["slices.overlaps[example.com/sanguine/sanguine.item[example.com/sanguine/sanguine.keyRange]]", "slices.overlaps[*example.com/sanguine/sanguine.btreeNode[example.com/sanguine/sanguine.keyRange]]", "internal/bytealg.abigen_runtime_cmpstring"], unfollowed := true, recurses := true, apart := false }
def PropRangeSetContainsIffAddedRangeDoesSaid : Prop := propRangeSetContainsIffAddedRangeDoesRow.holds Try.pinned (OpenSpec.ofChange propRangeSetContainsIffAddedRangeDoesSpec)

/-- ITS FALSE NEIGHBOUR: 'it returns false'. Refute it at one input. -/
def propRangeSetContainsIffAddedRangeDoesWrong : ChangeSpec := { name := "propRangeSetContainsIffAddedRangeDoes", fn := fun _ => fun
  | [d] => { results := [.lit (.bool false)], args := [d] }
  | _ => none }
def PropRangeSetContainsIffAddedRangeDoesWrongFalsely : Prop := propRangeSetContainsIffAddedRangeDoesRow.holds Try.pinned (OpenSpec.ofChange propRangeSetContainsIffAddedRangeDoesWrong)

/-- 'zzlaws_root_c3.PropRangeChecksKeepWriteSetsSince': WHATEVER THE INPUT: true; the input reads as it did. -/
def propRangeChecksKeepWriteSetsSinceSpec : ChangeSpec := { name := "propRangeChecksKeepWriteSetsSince", fn := fun _ => fun
  | [d1, d2] => { results := [.lit (.bool true)], args := [d1, d2] }
  | _ => none }
def propRangeChecksKeepWriteSetsSinceRow : OpenClaim := { program := "qxb6002608a", sum := "4cc33eb0f3acd6ee1c9501b9e61dadc824c435bc3ba7a1bb070eb02be5fd4a39", func := "example.com/sanguine/sanguine/zzlaws_root_c3.PropRangeChecksKeepWriteSetsSince", spec := "propRangeChecksKeepWriteSetsSince", inPlace := ["slices.overlaps[example.com/sanguine/sanguine.item[*example.com/sanguine/sanguine.version]]", "slices.overlaps[*example.com/sanguine/sanguine.btreeNode[*example.com/sanguine/sanguine.version]]", "internal/bytealg.abigen_runtime_cmpstring"], unfollowed := true, recurses := true, apart := false }
def PropRangeChecksKeepWriteSetsSinceSaid : Prop := propRangeChecksKeepWriteSetsSinceRow.holds Try.pinned (OpenSpec.ofChange propRangeChecksKeepWriteSetsSinceSpec)

/-- ITS FALSE NEIGHBOUR: 'it returns false'. Refute it at one input. -/
def propRangeChecksKeepWriteSetsSinceWrong : ChangeSpec := { name := "propRangeChecksKeepWriteSetsSince", fn := fun _ => fun
  | [d1, d2] => { results := [.lit (.bool false)], args := [d1, d2] }
  | _ => none }
def PropRangeChecksKeepWriteSetsSinceWrongFalsely : Prop := propRangeChecksKeepWriteSetsSinceRow.holds Try.pinned (OpenSpec.ofChange propRangeChecksKeepWriteSetsSinceWrong)

end Rows
end Go.Proofs.Qxb6002608a
