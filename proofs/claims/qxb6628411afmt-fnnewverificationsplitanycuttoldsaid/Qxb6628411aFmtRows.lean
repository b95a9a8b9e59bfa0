/-
  No cell of these rows narrows 'for every input' (looked for: loops, veiled, ifaces, maps, wideKeys, modest, calm, conditions, laid).
  DERIVED. THE GIVEN ROWS OF THIS SEAT. 2 by the template 'for every input the law returns true; each argument reads behind the call as it read before'; 0 by the template 'total and deterministic' (their statements: Qxb6628411aFmtTotals.lean).
  GIVEN WITH THE SEED: the statements are not yours to turn. If you find one false, say at which input.
  Laid BY PROGRAM, IN A SANDBOX (cutbox-rows.mjs): the forced cells as the released guide's own fill.sh prints them over the translation 8bccbc007bebdc9e… (all of the seat's roots in one cut). By AI agents, Wed Nov 11 2026. No macro, syntax, notation, axiom, sorry.
-/
import Derived.Test.Qxb6628411aFmtChecked
import GoSem.Claim
import GoSem.ClaimJoined
import GoSem.ClaimMapViews
import Derived.JoinedTies
import Derived.KernelRfl
namespace Go.Proofs.Qxb6628411aFmt
/- THE CELL 'sum', in the pinned program and in every row, IS THE sha256 OF THE DUMP (.gsa) THAT Qxb6628411aFmtProg.lean LOADS. Nothing in Lean hashes anything: it is a label: what it is worth is what the hold of that sum in a sandbox is worth. -/
noncomputable def Tryf.pinned : Pinned := { name := "qxb6628411afmt", sum := "8bccbc007bebdc9e37ea0f8a4226cfa53b2459f59df616d0f5e94668b2b6c95b", checked := Tryf.checked }
namespace Rows
def none {H : Type} : Left H := { results := [], args := [] }

/-- 'zzlaws_report_b1.FnNewVerificationSplitAnyCut': WHATEVER THE INPUT: true; the input reads as it did. -/
def fnNewVerificationSplitAnyCutSpec : ChangeSpec := { name := "fnNewVerificationSplitAnyCut", fn := fun _ => fun
  | [d1, d2, d3] => { results := [.lit (.bool true)], args := [d1, d2, d3] }
  | _ => none }
def fnNewVerificationSplitAnyCutRow : OpenClaim := { program := "qxb6628411afmt", sum := "8bccbc007bebdc9e37ea0f8a4226cfa53b2459f59df616d0f5e94668b2b6c95b", func := "example.com/baton/baton/zzlaws_report_b1.FnNewVerificationSplitAnyCut", spec := "fnNewVerificationSplitAnyCut", stops := ["fmt.Sprintf"], inPlace := ["fmt.Sprintf"], apart := false }
/-- NO THEOREM (fmt's text is open here; it may be false): for the released tool's asking of the row's closed facts alone. THE STATEMENT IS 'FnNewVerificationSplitAnyCutToldSaid' (Qxb6628411aFmtCards.lean). -/
def FnNewVerificationSplitAnyCutFormAsk : Prop := fnNewVerificationSplitAnyCutRow.holds Tryf.pinned (OpenSpec.ofChange fnNewVerificationSplitAnyCutSpec)

/-- ITS FALSE NEIGHBOUR: 'it returns false'. Refute it at one input. -/
def fnNewVerificationSplitAnyCutWrong : ChangeSpec := { name := "fnNewVerificationSplitAnyCut", fn := fun _ => fun
  | [d1, d2, d3] => { results := [.lit (.bool false)], args := [d1, d2, d3] }
  | _ => none }
def FnNewVerificationSplitAnyCutWrongFormAsk : Prop := fnNewVerificationSplitAnyCutRow.holds Tryf.pinned (OpenSpec.ofChange fnNewVerificationSplitAnyCutWrong)

/-- 'zzlaws_report_b1.FnNewVerificationIdempotentWithinBounds': WHATEVER THE INPUT: true; the input reads as it did. -/
def fnNewVerificationIdempotentWithinBoundsSpec : ChangeSpec := { name := "fnNewVerificationIdempotentWithinBounds", fn := fun _ => fun
  | [d1, d2] => { results := [.lit (.bool true)], args := [d1, d2] }
  | _ => none }
def fnNewVerificationIdempotentWithinBoundsRow : OpenClaim := { program := "qxb6628411afmt", sum := "8bccbc007bebdc9e37ea0f8a4226cfa53b2459f59df616d0f5e94668b2b6c95b", func := "example.com/baton/baton/zzlaws_report_b1.FnNewVerificationIdempotentWithinBounds", spec := "fnNewVerificationIdempotentWithinBounds", stops := ["fmt.Sprintf"], inPlace := ["fmt.Sprintf"], apart := false }
/-- NO THEOREM (fmt's text is open here; it may be false): for the released tool's asking of the row's closed facts alone. THE STATEMENT IS 'FnNewVerificationIdempotentWithinBoundsToldSaid' (Qxb6628411aFmtCards.lean). -/
def FnNewVerificationIdempotentWithinBoundsFormAsk : Prop := fnNewVerificationIdempotentWithinBoundsRow.holds Tryf.pinned (OpenSpec.ofChange fnNewVerificationIdempotentWithinBoundsSpec)

/-- ITS FALSE NEIGHBOUR: 'it returns false'. Refute it at one input. -/
def fnNewVerificationIdempotentWithinBoundsWrong : ChangeSpec := { name := "fnNewVerificationIdempotentWithinBounds", fn := fun _ => fun
  | [d1, d2] => { results := [.lit (.bool false)], args := [d1, d2] }
  | _ => none }
def FnNewVerificationIdempotentWithinBoundsWrongFormAsk : Prop := fnNewVerificationIdempotentWithinBoundsRow.holds Tryf.pinned (OpenSpec.ofChange fnNewVerificationIdempotentWithinBoundsWrong)

end Rows
end Go.Proofs.Qxb6628411aFmt
