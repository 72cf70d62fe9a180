/-
  No cell of these rows narrows 'for every input' (looked for: loops, veiled, ifaces, maps, wideKeys, modest, calm, conditions, laid).
  DERIVED. THE GIVEN ROWS OF THIS SEAT. 1 by the template 'for every input the law returns true; each argument reads behind the call as it read before'; 0 by the template 'total and deterministic' (their statements: Qxb6609276aTotals.lean).
  GIVEN WITH THE SEED: the statements are not yours to turn. If you find one false, say at which input.
  Laid BY PROGRAM, IN A SANDBOX (cutbox-rows.mjs): the forced cells as the released guide's own fill.sh prints them over the translation 37abba28a5d8f6a6… (all of the seat's roots in one cut). By AI agents, Wed Nov 11 2026. No macro, syntax, notation, axiom, sorry.
-/
import Derived.Test.Qxb6609276aChecked
import GoSem.Claim
import GoSem.ClaimJoined
import GoSem.ClaimMapViews
import Derived.JoinedTies
import Derived.KernelRfl
namespace Go.Proofs.Qxb6609276a
/- THE CELL 'sum', in the pinned program and in every row, IS THE sha256 OF THE DUMP (.gsa) THAT Qxb6609276aProg.lean LOADS. Nothing in Lean hashes anything: it is a label: what it is worth is what the hold of that sum in a sandbox is worth. -/
noncomputable def Try.pinned : Pinned := { name := "qxb6609276a", sum := "37abba28a5d8f6a6217f43f6c34368ddce7ef606a60e22ec52aa4173eb56c3bc", checked := Try.checked }
namespace Rows
def none {H : Type} : Left H := { results := [], args := [] }

/-- 'zzlaws_root_b1.FnSharedCodesGroupsReadableFoldersByCode': WHATEVER THE INPUT: true; the input reads as it did. -/
def fnSharedCodesGroupsReadableFoldersByCodeSpec : ChangeSpec := { name := "fnSharedCodesGroupsReadableFoldersByCode", fn := fun _ => fun
  | [d1, d2, d3] => { results := [.lit (.bool true)], args := [d1, d2, d3] }
  | _ => none }
def fnSharedCodesGroupsReadableFoldersByCodeRow : OpenClaim := { program := "qxb6609276a", sum := "37abba28a5d8f6a6217f43f6c34368ddce7ef606a60e22ec52aa4173eb56c3bc", func := "example.com/tuoguan/tuoguan/zzlaws_root_b1.FnSharedCodesGroupsReadableFoldersByCode", spec := "fnSharedCodesGroupsReadableFoldersByCode", inPlace := ["internal/bytealg.Compare"], unfollowed := true, recurses := true, apart := false }
def FnSharedCodesGroupsReadableFoldersByCodeSaid : Prop := fnSharedCodesGroupsReadableFoldersByCodeRow.holds Try.pinned (OpenSpec.ofChange fnSharedCodesGroupsReadableFoldersByCodeSpec)

/-- ITS FALSE NEIGHBOUR: 'it returns false'. Refute it at one input. -/
def fnSharedCodesGroupsReadableFoldersByCodeWrong : ChangeSpec := { name := "fnSharedCodesGroupsReadableFoldersByCode", fn := fun _ => fun
  | [d1, d2, d3] => { results := [.lit (.bool false)], args := [d1, d2, d3] }
  | _ => none }
def FnSharedCodesGroupsReadableFoldersByCodeWrongFalsely : Prop := fnSharedCodesGroupsReadableFoldersByCodeRow.holds Try.pinned (OpenSpec.ofChange fnSharedCodesGroupsReadableFoldersByCodeWrong)

end Rows
end Go.Proofs.Qxb6609276a
