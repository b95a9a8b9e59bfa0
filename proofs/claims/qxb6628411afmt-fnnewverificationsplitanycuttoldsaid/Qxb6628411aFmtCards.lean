/-
  DERIVED. GIVEN WITH THE SEED: THE CARDS: each row of Qxb6628411aFmtRows.lean that lists a variable, with what it lists TIED to the program's text (the seventh form; the later family's looks); each row that meets fmt, with fmt's text TOLD by the authors' own Lean function (tested against real Go, not proved from fmt's source: count such statements apart). THE CARD IS WHAT COUNTS. Prove the row's statement (the work); the ties are given (Qxb6628411aFmtTie.lean); close each card by the builder's one call (the guide's Derived/Test/ToyasCard.lean, 'card_holds'). Laid BY PROGRAM, IN A SANDBOX (cutbox-door.mjs). By AI agents, Wed Nov 11 2026. No macro, syntax, notation, axiom, sorry.
-/
import Derived.Test.Qxb6628411aFmtRows
import GoSem.ClaimSeven
namespace Go.Proofs.Qxb6628411aFmt
namespace Rows

/-- THE TOLD CARD OF 'zzlaws_report_b1.FnNewVerificationSplitAnyCut'. -/
def fnNewVerificationSplitAnyCutCard : Claim7 := { stood := { row := fnNewVerificationSplitAnyCutRow, standIns := [], harness := (true, "8616905d2755183f6e3a8b898b5851225cee5dddd253c7f380b79300ddc30a8f"), looks := false }, told := true, goes := false }
def FnNewVerificationSplitAnyCutToldSaid : Prop := Claim7.holds Tryf.pinned (.plain (OpenSpec.ofChange fnNewVerificationSplitAnyCutSpec)) fnNewVerificationSplitAnyCutCard
/-- ITS FALSE NEIGHBOUR. Refute it at one input. -/
def FnNewVerificationSplitAnyCutToldWrongFalsely : Prop := Claim7.holds Tryf.pinned (.plain (OpenSpec.ofChange fnNewVerificationSplitAnyCutWrong)) fnNewVerificationSplitAnyCutCard

/-- THE TOLD CARD OF 'zzlaws_report_b1.FnNewVerificationIdempotentWithinBounds'. -/
def fnNewVerificationIdempotentWithinBoundsCard : Claim7 := { stood := { row := fnNewVerificationIdempotentWithinBoundsRow, standIns := [], harness := (true, "8616905d2755183f6e3a8b898b5851225cee5dddd253c7f380b79300ddc30a8f"), looks := false }, told := true, goes := false }
def FnNewVerificationIdempotentWithinBoundsToldSaid : Prop := Claim7.holds Tryf.pinned (.plain (OpenSpec.ofChange fnNewVerificationIdempotentWithinBoundsSpec)) fnNewVerificationIdempotentWithinBoundsCard
/-- ITS FALSE NEIGHBOUR. Refute it at one input. -/
def FnNewVerificationIdempotentWithinBoundsToldWrongFalsely : Prop := Claim7.holds Tryf.pinned (.plain (OpenSpec.ofChange fnNewVerificationIdempotentWithinBoundsWrong)) fnNewVerificationIdempotentWithinBoundsCard
end Rows
end Go.Proofs.Qxb6628411aFmt
