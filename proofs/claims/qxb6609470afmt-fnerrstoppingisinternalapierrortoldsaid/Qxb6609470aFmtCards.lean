/-
  DERIVED. GIVEN WITH THE SEED: THE CARDS: each row of Qxb6609470aFmtRows.lean that lists a variable, with what it lists TIED to the program's text (the seventh form; the later family's looks); each row that meets fmt, with fmt's text TOLD by the authors' own Lean function (tested against real Go, not proved from fmt's source: count such statements apart). THE CARD IS WHAT COUNTS. Prove the row's statement (the work); the ties are given (Qxb6609470aFmtTie.lean); close each card by the builder's one call (the guide's Derived/Test/ToyasCard.lean, 'card_holds'). Laid BY PROGRAM, IN A SANDBOX (cutbox-door.mjs). By AI agents, Wed Nov 11 2026. No macro, syntax, notation, axiom, sorry.
-/
import Derived.Test.Qxb6609470aFmtRows
import GoSem.ClaimSeven
namespace Go.Proofs.Qxb6609470aFmt
namespace Rows

/-- THE TOLD CARD OF 'zzlaws_internal_server_b1.FnErrStoppingIsInternalAPIError'. -/
def fnErrStoppingIsInternalAPIErrorCard : Claim7 := { stood := { row := fnErrStoppingIsInternalAPIErrorRow, standIns := [], harness := (true, "55854f843018d290345405de52eb129f9ad2f586a4d6cf010543995726876165"), looks := true }, told := true, goes := false }
def FnErrStoppingIsInternalAPIErrorToldSaid : Prop := Claim7.holds Tryf.pinned (.plain (OpenSpec.ofChange fnErrStoppingIsInternalAPIErrorSpec)) fnErrStoppingIsInternalAPIErrorCard
/-- ITS FALSE NEIGHBOUR. Refute it at one input. -/
def FnErrStoppingIsInternalAPIErrorToldWrongFalsely : Prop := Claim7.holds Tryf.pinned (.plain (OpenSpec.ofChange fnErrStoppingIsInternalAPIErrorWrong)) fnErrStoppingIsInternalAPIErrorCard
end Rows
end Go.Proofs.Qxb6609470aFmt
