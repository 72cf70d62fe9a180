/-
  No cell of these rows narrows 'for every input' (looked for: loops, veiled, ifaces, maps, wideKeys, modest, calm, conditions, laid).
  DERIVED. THE GIVEN ROWS OF THIS SEAT. 1 by the template 'for every input the law returns true; each argument reads behind the call as it read before'; 0 by the template 'total and deterministic' (their statements: Qxb6609470aFmtTotals.lean).
  GIVEN WITH THE SEED: the statements are not yours to turn. If you find one false, say at which input.
  Laid BY PROGRAM, IN A SANDBOX (cutbox-rows.mjs): the forced cells as the released guide's own fill.sh prints them over the translation 724296b19ec44ef3… (all of the seat's roots in one cut). By AI agents, Wed Nov 11 2026. No macro, syntax, notation, axiom, sorry.
-/
import Derived.Test.Qxb6609470aFmtChecked
import GoSem.Claim
import GoSem.ClaimJoined
import GoSem.ClaimMapViews
import Derived.JoinedTies
import Derived.KernelRfl
namespace Go.Proofs.Qxb6609470aFmt
/- THE CELL 'sum', in the pinned program and in every row, IS THE sha256 OF THE DUMP (.gsa) THAT Qxb6609470aFmtProg.lean LOADS. Nothing in Lean hashes anything: it is a label: what it is worth is what the hold of that sum in a sandbox is worth. -/
noncomputable def Tryf.pinned : Pinned := { name := "qxb6609470afmt", sum := "724296b19ec44ef3d8980e786ca8b4c4fa916c1953fd360d0ec41d825e871cb8", checked := Tryf.checked }
namespace Rows
def none {H : Type} : Left H := { results := [], args := [] }

/-- 'zzlaws_internal_server_b1.FnErrStoppingIsInternalAPIError': WHATEVER THE INPUT: true; the input reads as it did. -/
def fnErrStoppingIsInternalAPIErrorSpec : ChangeSpec := { name := "fnErrStoppingIsInternalAPIError", fn := fun _ => fun
  | [] => { results := [.lit (.bool true)], args := [] }
  | _ => none }
def fnErrStoppingIsInternalAPIErrorRow : OpenClaim := { program := "qxb6609470afmt", sum := "724296b19ec44ef3d8980e786ca8b4c4fa916c1953fd360d0ec41d825e871cb8", func := "example.com/resumara/resumara/zzlaws_internal_server_b1.FnErrStoppingIsInternalAPIError", spec := "fnErrStoppingIsInternalAPIError", stops := ["fmt.Sprintf, its operands' methods called"], inPlace := ["fmt.Sprintf"], unfollowed := true, recurses := true, apart := false }
/-- NO THEOREM (fmt's text is open here; it may be false): for the released tool's asking of the row's closed facts alone. THE STATEMENT IS 'FnErrStoppingIsInternalAPIErrorToldSaid' (Qxb6609470aFmtCards.lean). -/
def FnErrStoppingIsInternalAPIErrorFormAsk : Prop := fnErrStoppingIsInternalAPIErrorRow.holds Tryf.pinned (OpenSpec.ofChange fnErrStoppingIsInternalAPIErrorSpec)

/-- ITS FALSE NEIGHBOUR: 'it returns false'. Refute it at one input. -/
def fnErrStoppingIsInternalAPIErrorWrong : ChangeSpec := { name := "fnErrStoppingIsInternalAPIError", fn := fun _ => fun
  | [] => { results := [.lit (.bool false)], args := [] }
  | _ => none }
def FnErrStoppingIsInternalAPIErrorWrongFormAsk : Prop := fnErrStoppingIsInternalAPIErrorRow.holds Tryf.pinned (OpenSpec.ofChange fnErrStoppingIsInternalAPIErrorWrong)

end Rows
end Go.Proofs.Qxb6609470aFmt
