/-
  No cell of these rows narrows 'for every input' (looked for: loops, veiled, ifaces, maps, wideKeys, modest, calm, conditions, laid).
  DERIVED. THE GIVEN ROWS OF THIS SEAT. 1 by the template 'for every input the law returns true; each argument reads behind the call as it read before'; 0 by the template 'total and deterministic' (their statements: Qxb6628399aTotals.lean).
  GIVEN WITH THE SEED: the statements are not yours to turn. If you find one false, say at which input.
  Laid BY PROGRAM, IN A SANDBOX (cutbox-rows.mjs): the forced cells as the released guide's own fill.sh prints them over the translation ba765218542ac3f1… (all of the seat's roots in one cut). By AI agents, Wed Nov 11 2026. No macro, syntax, notation, axiom, sorry.
-/
import Derived.Test.Qxb6628399aChecked
import GoSem.Claim
import GoSem.ClaimJoined
import GoSem.ClaimMapViews
import Derived.JoinedTies
import Derived.KernelRfl
namespace Go.Proofs.Qxb6628399a
/- THE CELL 'sum', in the pinned program and in every row, IS THE sha256 OF THE DUMP (.gsa) THAT Qxb6628399aProg.lean LOADS. Nothing in Lean hashes anything: it is a label: what it is worth is what the hold of that sum in a sandbox is worth. -/
noncomputable def Try.pinned : Pinned := { name := "qxb6628399a", sum := "ba765218542ac3f1902735e9ba9a99fe7f53a57b744d54f29715806401032ea6", checked := Try.checked }
namespace Rows
def none {H : Type} : Left H := { results := [], args := [] }

/-- 'zzlaws_internal_rate_b1.FnDeltasFirstRecordAndSelf': WHATEVER THE INPUT: true; the input reads as it did. -/
def fnDeltasFirstRecordAndSelfSpec : ChangeSpec := { name := "fnDeltasFirstRecordAndSelf", fn := fun _ => fun
  | [d] => { results := [.lit (.bool true)], args := [d] }
  | _ => none }
def fnDeltasFirstRecordAndSelfRow : OpenClaim := { program := "qxb6628399a", sum := "ba765218542ac3f1902735e9ba9a99fe7f53a57b744d54f29715806401032ea6", func := "example.com/bantay/bantay/zzlaws_internal_rate_b1.FnDeltasFirstRecordAndSelf", spec := "fnDeltasFirstRecordAndSelf", unfollowed := true, recurses := true, apart := false }
def FnDeltasFirstRecordAndSelfSaid : Prop := fnDeltasFirstRecordAndSelfRow.holds Try.pinned (OpenSpec.ofChange fnDeltasFirstRecordAndSelfSpec)

/-- ITS FALSE NEIGHBOUR: 'it returns false'. Refute it at one input. -/
def fnDeltasFirstRecordAndSelfWrong : ChangeSpec := { name := "fnDeltasFirstRecordAndSelf", fn := fun _ => fun
  | [d] => { results := [.lit (.bool false)], args := [d] }
  | _ => none }
def FnDeltasFirstRecordAndSelfWrongFalsely : Prop := fnDeltasFirstRecordAndSelfRow.holds Try.pinned (OpenSpec.ofChange fnDeltasFirstRecordAndSelfWrong)

end Rows
end Go.Proofs.Qxb6628399a
