/-
  No cell of these rows narrows 'for every input' (looked for: loops, veiled, ifaces, maps, wideKeys, modest, calm, conditions, laid).
  DERIVED. THE GIVEN ROWS OF THIS SEAT. 2 by the template 'for every input the law returns true; each argument reads behind the call as it read before'; 0 by the template 'total and deterministic' (their statements: Qxb6612463aTotals.lean).
  GIVEN WITH THE SEED: the statements are not yours to turn. If you find one false, say at which input.
  Laid BY PROGRAM, IN A SANDBOX (cutbox-rows.mjs): the forced cells as the released guide's own fill.sh prints them over the translation 9880f3b78869eef4… (all of the seat's roots in one cut). By AI agents, Wed Nov 11 2026. No macro, syntax, notation, axiom, sorry.
-/
import Derived.Test.Qxb6612463aChecked
import GoSem.Claim
import GoSem.ClaimJoined
import GoSem.ClaimMapViews
import Derived.JoinedTies
import Derived.KernelRfl
namespace Go.Proofs.Qxb6612463a
/- THE CELL 'sum', in the pinned program and in every row, IS THE sha256 OF THE DUMP (.gsa) THAT Qxb6612463aProg.lean LOADS. Nothing in Lean hashes anything: it is a label: what it is worth is what the hold of that sum in a sandbox is worth. -/
noncomputable def Try.pinned : Pinned := { name := "qxb6612463a", sum := "9880f3b78869eef479a2ce7c1ebeafb846b8583b3d94d7410a0e435783529866", checked := Try.checked }
namespace Rows
def none {H : Type} : Left H := { results := [], args := [] }

/-- 'zzlaws_pkg_exchange_b1.FnByReceiverPartition': WHATEVER THE INPUT: true; the input reads as it did. -/
def fnByReceiverPartitionSpec : ChangeSpec := { name := "fnByReceiverPartition", fn := fun _ => fun
  | [d] => { results := [.lit (.bool true)], args := [d] }
  | _ => none }
def fnByReceiverPartitionRow : OpenClaim := { program := "qxb6612463a", sum := "9880f3b78869eef479a2ce7c1ebeafb846b8583b3d94d7410a0e435783529866", func := "example.com/zhaomu/zhaomu/zzlaws_pkg_exchange_b1.FnByReceiverPartition", spec := "fnByReceiverPartition", unfollowed := true, recurses := true, apart := false }
def FnByReceiverPartitionSaid : Prop := fnByReceiverPartitionRow.holds Try.pinned (OpenSpec.ofChange fnByReceiverPartitionSpec)

/-- ITS FALSE NEIGHBOUR: 'it returns false'. Refute it at one input. -/
def fnByReceiverPartitionWrong : ChangeSpec := { name := "fnByReceiverPartition", fn := fun _ => fun
  | [d] => { results := [.lit (.bool false)], args := [d] }
  | _ => none }
def FnByReceiverPartitionWrongFalsely : Prop := fnByReceiverPartitionRow.holds Try.pinned (OpenSpec.ofChange fnByReceiverPartitionWrong)

/-- 'zzlaws_pkg_exchange_b1.FnByReceiverStableSortOneArray': WHATEVER THE INPUT: true; the input reads as it did. -/
def fnByReceiverStableSortOneArraySpec : ChangeSpec := { name := "fnByReceiverStableSortOneArray", fn := fun _ => fun
  | [d] => { results := [.lit (.bool true)], args := [d] }
  | _ => none }
def fnByReceiverStableSortOneArrayRow : OpenClaim := { program := "qxb6612463a", sum := "9880f3b78869eef479a2ce7c1ebeafb846b8583b3d94d7410a0e435783529866", func := "example.com/zhaomu/zhaomu/zzlaws_pkg_exchange_b1.FnByReceiverStableSortOneArray", spec := "fnByReceiverStableSortOneArray", unfollowed := true, recurses := true, apart := false }
def FnByReceiverStableSortOneArraySaid : Prop := fnByReceiverStableSortOneArrayRow.holds Try.pinned (OpenSpec.ofChange fnByReceiverStableSortOneArraySpec)

/-- ITS FALSE NEIGHBOUR: 'it returns false'. Refute it at one input. -/
def fnByReceiverStableSortOneArrayWrong : ChangeSpec := { name := "fnByReceiverStableSortOneArray", fn := fun _ => fun
  | [d] => { results := [.lit (.bool false)], args := [d] }
  | _ => none }
def FnByReceiverStableSortOneArrayWrongFalsely : Prop := fnByReceiverStableSortOneArrayRow.holds Try.pinned (OpenSpec.ofChange fnByReceiverStableSortOneArrayWrong)

end Rows
end Go.Proofs.Qxb6612463a
