/-
  DERIVED. GIVEN WITH THE SEED: THE CARDS: each row of Qxb6002676aDoorRows.lean that lists a variable, with what it lists TIED to the program's text (the seventh form; the later family's looks); each row that meets fmt, with fmt's text TOLD by the authors' own Lean function (tested against real Go, not proved from fmt's source: count such statements apart). THE CARD IS WHAT COUNTS. Prove the row's statement (the work); the ties are given (Qxb6002676aDoorTie.lean); close each card by the builder's one call (the guide's Derived/Test/ToyasCard.lean, 'card_holds'). Laid BY PROGRAM, IN A SANDBOX (cutbox-door.mjs). By AI agents, Wed Nov 11 2026. No macro, syntax, notation, axiom, sorry.
-/
import Derived.Test.Qxb6002676aDoorRows
import GoSem.ClaimSeven
namespace Go.Proofs.Qxb6002676aDoor
namespace Rows

/-- THE TIED CARD OF 'zzlaws_internal_raft_b1.FnMessageTypeStringRoundTrip'. -/
def fnMessageTypeStringRoundTripCard : Claim7 := { stood := { row := fnMessageTypeStringRoundTripRow, standIns := [], harness := (true, "211545d043fcb581b9cefe13616c90189c2745d6c7be2acf7b0510b878cf83cc"), looks := false }, kinds := [], alts := [], laidByText := true, laidKinds := [.data, .data, .data], laidTests := true, laidLooks := .later }
def FnMessageTypeStringRoundTripCardSaid : Prop := Claim7.holds Tryd.pinned (.plain (OpenSpec.ofChange fnMessageTypeStringRoundTripSpec)) fnMessageTypeStringRoundTripCard

/-- THE TIED CARD OF 'zzlaws_internal_raft_b1.FnMessageTypeStringInjective'. -/
def fnMessageTypeStringInjectiveCard : Claim7 := { stood := { row := fnMessageTypeStringInjectiveRow, standIns := [], harness := (true, "211545d043fcb581b9cefe13616c90189c2745d6c7be2acf7b0510b878cf83cc"), looks := false }, kinds := [], alts := [], laidByText := true, laidKinds := [.data, .data, .data], laidTests := true, laidLooks := .later }
def FnMessageTypeStringInjectiveCardSaid : Prop := Claim7.holds Tryd.pinned (.plain (OpenSpec.ofChange fnMessageTypeStringInjectiveSpec)) fnMessageTypeStringInjectiveCard

/-- THE TIED CARD OF 'zzlaws_internal_raft_b1.FnMessageTypeStringNamedExactlyTheKinds'. -/
def fnMessageTypeStringNamedExactlyTheKindsCard : Claim7 := { stood := { row := fnMessageTypeStringNamedExactlyTheKindsRow, standIns := [], harness := (true, "211545d043fcb581b9cefe13616c90189c2745d6c7be2acf7b0510b878cf83cc"), looks := false }, kinds := [], alts := [], laidByText := true, laidKinds := [.data, .data, .data], laidTests := true, laidLooks := .later }
def FnMessageTypeStringNamedExactlyTheKindsCardSaid : Prop := Claim7.holds Tryd.pinned (.plain (OpenSpec.ofChange fnMessageTypeStringNamedExactlyTheKindsSpec)) fnMessageTypeStringNamedExactlyTheKindsCard
end Rows
end Go.Proofs.Qxb6002676aDoor
