/-
  NARROWER THAN 'FOR EVERY INPUT', by the rows' own cells (each row's printed sentence says how): FnTxnEncodeKeepsOnlyKeptFields: loops.
  DERIVED. THE GIVEN ROWS OF THIS SEAT. 1 by the template 'for every input the law returns true; each argument reads behind the call as it read before'; 0 by the template 'total and deterministic' (their statements: Qxb6609425aTotals.lean).
  GIVEN WITH THE SEED: the statements are not yours to turn. If you find one false, say at which input.
  Laid BY PROGRAM, IN A SANDBOX (cutbox-rows.mjs): the forced cells as the released guide's own fill.sh prints them over the translation aee34790f9632eca… (all of the seat's roots in one cut). By AI agents, Wed Nov 11 2026. No macro, syntax, notation, axiom, sorry.
-/
import Derived.Test.Qxb6609425aChecked
import GoSem.Claim
import GoSem.ClaimJoined
import GoSem.ClaimMapViews
import Derived.JoinedTies
import Derived.KernelRfl
namespace Go.Proofs.Qxb6609425a
/- THE CELL 'sum', in the pinned program and in every row, IS THE sha256 OF THE DUMP (.gsa) THAT Qxb6609425aProg.lean LOADS. Nothing in Lean hashes anything: it is a label: what it is worth is what the hold of that sum in a sandbox is worth. -/
noncomputable def Try.pinned : Pinned := { name := "qxb6609425a", sum := "aee34790f9632eca7761704828fe34d9d4adbffa91b4f6644703a6043c8a95f2", checked := Try.checked }
namespace Rows
def none {H : Type} : Left H := { results := [], args := [] }

/-- 'zzlaws_tree_b1.FnTxnEncodeKeepsOnlyKeptFields': WHATEVER THE INPUT: true; the input reads as it did. -/
def fnTxnEncodeKeepsOnlyKeptFieldsSpec : ChangeSpec := { name := "fnTxnEncodeKeepsOnlyKeptFields", fn := fun _ => fun
  | [d1, d2] => { results := [.lit (.bool true)], args := [d1, d2] }
  | _ => none }
def fnTxnEncodeKeepsOnlyKeptFieldsRow : OpenClaim := { program := "qxb6609425a", sum := "aee34790f9632eca7761704828fe34d9d4adbffa91b4f6644703a6043c8a95f2", func := "example.com/quorumroost/quorumroost/zzlaws_tree_b1.FnTxnEncodeKeepsOnlyKeptFields", spec := "fnTxnEncodeKeepsOnlyKeptFields", recurses := true, named := ["encoding/binary.BigEndian"], loops := true, apart := false }
def FnTxnEncodeKeepsOnlyKeptFieldsSaid : Prop := fnTxnEncodeKeepsOnlyKeptFieldsRow.holds Try.pinned (OpenSpec.ofChange fnTxnEncodeKeepsOnlyKeptFieldsSpec)

/-- ITS FALSE NEIGHBOUR: 'it returns false'. Refute it at one input. -/
def fnTxnEncodeKeepsOnlyKeptFieldsWrong : ChangeSpec := { name := "fnTxnEncodeKeepsOnlyKeptFields", fn := fun _ => fun
  | [d1, d2] => { results := [.lit (.bool false)], args := [d1, d2] }
  | _ => none }
def FnTxnEncodeKeepsOnlyKeptFieldsWrongFalsely : Prop := fnTxnEncodeKeepsOnlyKeptFieldsRow.holds Try.pinned (OpenSpec.ofChange fnTxnEncodeKeepsOnlyKeptFieldsWrong)

end Rows
end Go.Proofs.Qxb6609425a
