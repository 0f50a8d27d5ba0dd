/-
  NARROWER THAN 'FOR EVERY INPUT', by the rows' own cells (each row's printed sentence says how): PropCarveDFByModuloBackupSucceeds: laid.
  DERIVED. THE GIVEN ROWS OF THIS SEAT. 1 by the template 'for every input the law returns true; each argument reads behind the call as it read before'; 0 by the template 'total and deterministic' (their statements: Qxb6003779aDoorTotals.lean).
  GIVEN WITH THE SEED: the statements are not yours to turn. If you find one false, say at which input.
  Laid BY PROGRAM, IN A SANDBOX (cutbox-rows.mjs): the forced cells as the released guide's own fill.sh prints them over the translation 668bdcce78dbe466… (all of the seat's roots in one cut). By AI agents, Wed Nov 11 2026. No macro, syntax, notation, axiom, sorry.
-/
import Derived.Test.Qxb6003779aDoorChecked
import GoSem.Claim
import GoSem.ClaimJoined
import GoSem.ClaimMapViews
import Derived.JoinedTies
import Derived.KernelRfl
namespace Go.Proofs.Qxb6003779aDoor
/- THE CELL 'sum', in the pinned program and in every row, IS THE sha256 OF THE DUMP (.gsa) THAT Qxb6003779aDoorProg.lean LOADS. Nothing in Lean hashes anything: it is a label: what it is worth is what the hold of that sum in a sandbox is worth. -/
noncomputable def Tryd.pinned : Pinned := { name := "qxb6003779adoor", sum := "668bdcce78dbe46667392e19ce284e9d2e4deb4837b2e4349f060ecb8dec0da5", checked := Tryd.checked }
namespace Rows
def none {H : Type} : Left H := { results := [], args := [] }

/- WHAT THE LISTED PACKAGE-LEVEL VARIABLES READ AS WHEN THE CALL BEGINS. Each datum BY PROGRAM (the guide's laid-datum.mjs) off the statement by which the dump's own 'gosem.cut.vars' lays the variable. In a bare row this is a premise. The card (Qxb6003779aDoorCards.lean) ties it to the program's text. -/
def laid_net_netip_z4 {H : Type} : DataW H := .agg [.ptr (.agg [.lit (.bool false), .lit (.string [])])]
def laid_net_netip_z6noz {H : Type} : DataW H := .agg [.ptr (.agg [.lit (.bool true), .lit (.string [])])]

/-- 'zzlaws_multihoming_c1.PropCarveDFByModuloBackupSucceeds': WHATEVER THE INPUT: true; the input reads as it did. -/
def propCarveDFByModuloBackupSucceedsSpec : ChangeSpec := { name := "propCarveDFByModuloBackupSucceeds", fn := fun _ => fun
  | [d1, d2] => { results := [.lit (.bool true)], args := [d1, d2] }
  | _ => none }
def propCarveDFByModuloBackupSucceedsRow : OpenClaim := { program := "qxb6003779adoor", sum := "668bdcce78dbe46667392e19ce284e9d2e4deb4837b2e4349f060ecb8dec0da5", func := "example.com/weftwire/weftwire/zzlaws_multihoming_c1.PropCarveDFByModuloBackupSucceeds", spec := "propCarveDFByModuloBackupSucceeds", named := ["net/netip.z4", "net/netip.z6noz"], apart := false, laid := [("net/netip.z4", laid_net_netip_z4), ("net/netip.z6noz", laid_net_netip_z6noz)] }
def PropCarveDFByModuloBackupSucceedsSaid : Prop := propCarveDFByModuloBackupSucceedsRow.holds Tryd.pinned (OpenSpec.ofChange propCarveDFByModuloBackupSucceedsSpec)

/-- ITS FALSE NEIGHBOUR: 'it returns false'. Refute it at one input. -/
def propCarveDFByModuloBackupSucceedsWrong : ChangeSpec := { name := "propCarveDFByModuloBackupSucceeds", fn := fun _ => fun
  | [d1, d2] => { results := [.lit (.bool false)], args := [d1, d2] }
  | _ => none }
def PropCarveDFByModuloBackupSucceedsWrongFalsely : Prop := propCarveDFByModuloBackupSucceedsRow.holds Tryd.pinned (OpenSpec.ofChange propCarveDFByModuloBackupSucceedsWrong)

end Rows
end Go.Proofs.Qxb6003779aDoor
