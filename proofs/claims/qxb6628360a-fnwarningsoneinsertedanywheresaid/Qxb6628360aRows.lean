/-
  No cell of these rows narrows 'for every input' (looked for: loops, veiled, ifaces, maps, wideKeys, modest, calm, conditions, laid).
  DERIVED. THE GIVEN ROWS OF THIS SEAT. 2 by the template 'for every input the law returns true; each argument reads behind the call as it read before'; 0 by the template 'total and deterministic' (their statements: Qxb6628360aTotals.lean).
  GIVEN WITH THE SEED: the statements are not yours to turn. If you find one false, say at which input.
  Laid BY PROGRAM, IN A SANDBOX (cutbox-rows.mjs): the forced cells as the released guide's own fill.sh prints them over the translation 7746b05148e27795… (all of the seat's roots in one cut). By AI agents, Wed Nov 11 2026. No macro, syntax, notation, axiom, sorry.
-/
import Derived.Test.Qxb6628360aChecked
import GoSem.Claim
import GoSem.ClaimJoined
import GoSem.ClaimMapViews
import Derived.JoinedTies
import Derived.KernelRfl
namespace Go.Proofs.Qxb6628360a
/- THE CELL 'sum', in the pinned program and in every row, IS THE sha256 OF THE DUMP (.gsa) THAT Qxb6628360aProg.lean LOADS. Nothing in Lean hashes anything: it is a label: what it is worth is what the hold of that sum in a sandbox is worth. -/
noncomputable def Try.pinned : Pinned := { name := "qxb6628360a", sum := "7746b05148e27795721354cb0ca50b14cceab2f2b001ba904cd914b62df930b5", checked := Try.checked }
namespace Rows
def none {H : Type} : Left H := { results := [], args := [] }

/-- 'zzlaws_fleet_b1.FnWarningsSplitsOverAnyCut': WHATEVER THE INPUT: true; the input reads as it did. -/
def fnWarningsSplitsOverAnyCutSpec : ChangeSpec := { name := "fnWarningsSplitsOverAnyCut", fn := fun _ => fun
  | [d1, d2] => { results := [.lit (.bool true)], args := [d1, d2] }
  | _ => none }
def fnWarningsSplitsOverAnyCutRow : OpenClaim := { program := "qxb6628360a", sum := "7746b05148e27795721354cb0ca50b14cceab2f2b001ba904cd914b62df930b5", func := "example.com/cartulary/cartulary/zzlaws_fleet_b1.FnWarningsSplitsOverAnyCut", spec := "fnWarningsSplitsOverAnyCut", apart := false }
def FnWarningsSplitsOverAnyCutSaid : Prop := fnWarningsSplitsOverAnyCutRow.holds Try.pinned (OpenSpec.ofChange fnWarningsSplitsOverAnyCutSpec)

/-- ITS FALSE NEIGHBOUR: 'it returns false'. Refute it at one input. -/
def fnWarningsSplitsOverAnyCutWrong : ChangeSpec := { name := "fnWarningsSplitsOverAnyCut", fn := fun _ => fun
  | [d1, d2] => { results := [.lit (.bool false)], args := [d1, d2] }
  | _ => none }
def FnWarningsSplitsOverAnyCutWrongFalsely : Prop := fnWarningsSplitsOverAnyCutRow.holds Try.pinned (OpenSpec.ofChange fnWarningsSplitsOverAnyCutWrong)

/-- 'zzlaws_fleet_b1.FnWarningsOneInsertedAnywhere': WHATEVER THE INPUT: true; the input reads as it did. -/
def fnWarningsOneInsertedAnywhereSpec : ChangeSpec := { name := "fnWarningsOneInsertedAnywhere", fn := fun _ => fun
  | [d1, d2, d3] => { results := [.lit (.bool true)], args := [d1, d2, d3] }
  | _ => none }
def fnWarningsOneInsertedAnywhereRow : OpenClaim := { program := "qxb6628360a", sum := "7746b05148e27795721354cb0ca50b14cceab2f2b001ba904cd914b62df930b5", func := "example.com/cartulary/cartulary/zzlaws_fleet_b1.FnWarningsOneInsertedAnywhere", spec := "fnWarningsOneInsertedAnywhere", apart := false }
def FnWarningsOneInsertedAnywhereSaid : Prop := fnWarningsOneInsertedAnywhereRow.holds Try.pinned (OpenSpec.ofChange fnWarningsOneInsertedAnywhereSpec)

/-- ITS FALSE NEIGHBOUR: 'it returns false'. Refute it at one input. -/
def fnWarningsOneInsertedAnywhereWrong : ChangeSpec := { name := "fnWarningsOneInsertedAnywhere", fn := fun _ => fun
  | [d1, d2, d3] => { results := [.lit (.bool false)], args := [d1, d2, d3] }
  | _ => none }
def FnWarningsOneInsertedAnywhereWrongFalsely : Prop := fnWarningsOneInsertedAnywhereRow.holds Try.pinned (OpenSpec.ofChange fnWarningsOneInsertedAnywhereWrong)

end Rows
end Go.Proofs.Qxb6628360a
