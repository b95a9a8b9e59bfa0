/-
  No cell of these rows narrows 'for every input' (looked for: loops, veiled, ifaces, maps, wideKeys, modest, calm, conditions, laid).
  DERIVED. THE GIVEN ROWS OF THIS SEAT. 2 by the template 'for every input the law returns true; each argument reads behind the call as it read before'; 0 by the template 'total and deterministic' (their statements: Qxb6628323aTotals.lean).
  GIVEN WITH THE SEED: the statements are not yours to turn. If you find one false, say at which input.
  Laid BY PROGRAM, IN A SANDBOX (cutbox-rows.mjs): the forced cells as the released guide's own fill.sh prints them over the translation 6b14c787a4e0e7f0… (all of the seat's roots in one cut). By AI agents, Wed Nov 11 2026. No macro, syntax, notation, axiom, sorry.
-/
import Derived.Test.Qxb6628323aChecked
import GoSem.Claim
import GoSem.ClaimJoined
import GoSem.ClaimMapViews
import Derived.JoinedTies
import Derived.KernelRfl
namespace Go.Proofs.Qxb6628323a
/- THE CELL 'sum', in the pinned program and in every row, IS THE sha256 OF THE DUMP (.gsa) THAT Qxb6628323aProg.lean LOADS. Nothing in Lean hashes anything: it is a label: what it is worth is what the hold of that sum in a sandbox is worth. -/
noncomputable def Try.pinned : Pinned := { name := "qxb6628323a", sum := "6b14c787a4e0e7f029df364aa3161dc6ba18ee038304ae19b5b0001fa585a278", checked := Try.checked }
namespace Rows
def none {H : Type} : Left H := { results := [], args := [] }

/-- 'zzlaws_internal_history_b1.FnValidKeyConcatAtAnyCut': WHATEVER THE INPUT: true; the input reads as it did. -/
def fnValidKeyConcatAtAnyCutSpec : ChangeSpec := { name := "fnValidKeyConcatAtAnyCut", fn := fun _ => fun
  | [d1, d2] => { results := [.lit (.bool true)], args := [d1, d2] }
  | _ => none }
def fnValidKeyConcatAtAnyCutRow : OpenClaim := { program := "qxb6628323a", sum := "6b14c787a4e0e7f029df364aa3161dc6ba18ee038304ae19b5b0001fa585a278", func := "example.com/tidelock/tidelock/zzlaws_internal_history_b1.FnValidKeyConcatAtAnyCut", spec := "fnValidKeyConcatAtAnyCut", apart := false }
def FnValidKeyConcatAtAnyCutSaid : Prop := fnValidKeyConcatAtAnyCutRow.holds Try.pinned (OpenSpec.ofChange fnValidKeyConcatAtAnyCutSpec)

/-- ITS FALSE NEIGHBOUR: 'it returns false'. Refute it at one input. -/
def fnValidKeyConcatAtAnyCutWrong : ChangeSpec := { name := "fnValidKeyConcatAtAnyCut", fn := fun _ => fun
  | [d1, d2] => { results := [.lit (.bool false)], args := [d1, d2] }
  | _ => none }
def FnValidKeyConcatAtAnyCutWrongFalsely : Prop := fnValidKeyConcatAtAnyCutRow.holds Try.pinned (OpenSpec.ofChange fnValidKeyConcatAtAnyCutWrong)

/-- 'zzlaws_internal_history_b1.FnValidKeyCaseSwapDoubleAndWordTail': WHATEVER THE INPUT: true; the input reads as it did. -/
def fnValidKeyCaseSwapDoubleAndWordTailSpec : ChangeSpec := { name := "fnValidKeyCaseSwapDoubleAndWordTail", fn := fun _ => fun
  | [d] => { results := [.lit (.bool true)], args := [d] }
  | _ => none }
def fnValidKeyCaseSwapDoubleAndWordTailRow : OpenClaim := { program := "qxb6628323a", sum := "6b14c787a4e0e7f029df364aa3161dc6ba18ee038304ae19b5b0001fa585a278", func := "example.com/tidelock/tidelock/zzlaws_internal_history_b1.FnValidKeyCaseSwapDoubleAndWordTail", spec := "fnValidKeyCaseSwapDoubleAndWordTail", apart := false }
def FnValidKeyCaseSwapDoubleAndWordTailSaid : Prop := fnValidKeyCaseSwapDoubleAndWordTailRow.holds Try.pinned (OpenSpec.ofChange fnValidKeyCaseSwapDoubleAndWordTailSpec)

/-- ITS FALSE NEIGHBOUR: 'it returns false'. Refute it at one input. -/
def fnValidKeyCaseSwapDoubleAndWordTailWrong : ChangeSpec := { name := "fnValidKeyCaseSwapDoubleAndWordTail", fn := fun _ => fun
  | [d] => { results := [.lit (.bool false)], args := [d] }
  | _ => none }
def FnValidKeyCaseSwapDoubleAndWordTailWrongFalsely : Prop := fnValidKeyCaseSwapDoubleAndWordTailRow.holds Try.pinned (OpenSpec.ofChange fnValidKeyCaseSwapDoubleAndWordTailWrong)

end Rows
end Go.Proofs.Qxb6628323a
