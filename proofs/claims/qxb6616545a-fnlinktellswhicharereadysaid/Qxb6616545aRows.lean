/-
  No cell of these rows narrows 'for every input' (looked for: loops, veiled, ifaces, maps, wideKeys, modest, calm, conditions, laid).
  DERIVED. THE GIVEN ROWS OF THIS SEAT. 2 by the template 'for every input the law returns true; each argument reads behind the call as it read before'; 0 by the template 'total and deterministic' (their statements: Qxb6616545aTotals.lean).
  GIVEN WITH THE SEED: the statements are not yours to turn. If you find one false, say at which input.
  Laid BY PROGRAM, IN A SANDBOX (cutbox-rows.mjs): the forced cells as the released guide's own fill.sh prints them over the translation aa0d9b63d82a68d2… (all of the seat's roots in one cut). By AI agents, Wed Nov 11 2026. No macro, syntax, notation, axiom, sorry.
-/
import Derived.Test.Qxb6616545aChecked
import GoSem.Claim
import GoSem.ClaimJoined
import GoSem.ClaimMapViews
import Derived.JoinedTies
import Derived.KernelRfl
namespace Go.Proofs.Qxb6616545a
/- THE CELL 'sum', in the pinned program and in every row, IS THE sha256 OF THE DUMP (.gsa) THAT Qxb6616545aProg.lean LOADS. Nothing in Lean hashes anything: it is a label: what it is worth is what the hold of that sum in a sandbox is worth. -/
noncomputable def Try.pinned : Pinned := { name := "qxb6616545a", sum := "aa0d9b63d82a68d2693a232b662ffd3f2d4583bde6a1425651ccee6d4c207416", checked := Try.checked }
namespace Rows
def none {H : Type} : Left H := { results := [], args := [] }

/-- 'zzlaws_root_b1.FnLinkKeepsHeadsAndMissing': WHATEVER THE INPUT: true; the input reads as it did. -/
def fnLinkKeepsHeadsAndMissingSpec : ChangeSpec := { name := "fnLinkKeepsHeadsAndMissing", fn := fun _ => fun
  | [d1, d2] => { results := [.lit (.bool true)], args := [d1, d2] }
  | _ => none }
def fnLinkKeepsHeadsAndMissingRow : OpenClaim := { program := "qxb6616545a", sum := "aa0d9b63d82a68d2693a232b662ffd3f2d4583bde6a1425651ccee6d4c207416", func := "example.com/weftline/weftline/zzlaws_root_b1.FnLinkKeepsHeadsAndMissing", spec := "fnLinkKeepsHeadsAndMissing", recurses := true, apart := false }
def FnLinkKeepsHeadsAndMissingSaid : Prop := fnLinkKeepsHeadsAndMissingRow.holds Try.pinned (OpenSpec.ofChange fnLinkKeepsHeadsAndMissingSpec)

/-- ITS FALSE NEIGHBOUR: 'it returns false'. Refute it at one input. -/
def fnLinkKeepsHeadsAndMissingWrong : ChangeSpec := { name := "fnLinkKeepsHeadsAndMissing", fn := fun _ => fun
  | [d1, d2] => { results := [.lit (.bool false)], args := [d1, d2] }
  | _ => none }
def FnLinkKeepsHeadsAndMissingWrongFalsely : Prop := fnLinkKeepsHeadsAndMissingRow.holds Try.pinned (OpenSpec.ofChange fnLinkKeepsHeadsAndMissingWrong)

/-- 'zzlaws_root_b1.FnLinkTellsWhichAreReady': WHATEVER THE INPUT: true; the input reads as it did. -/
def fnLinkTellsWhichAreReadySpec : ChangeSpec := { name := "fnLinkTellsWhichAreReady", fn := fun _ => fun
  | [d1, d2] => { results := [.lit (.bool true)], args := [d1, d2] }
  | _ => none }
def fnLinkTellsWhichAreReadyRow : OpenClaim := { program := "qxb6616545a", sum := "aa0d9b63d82a68d2693a232b662ffd3f2d4583bde6a1425651ccee6d4c207416", func := "example.com/weftline/weftline/zzlaws_root_b1.FnLinkTellsWhichAreReady", spec := "fnLinkTellsWhichAreReady", recurses := true, apart := false }
def FnLinkTellsWhichAreReadySaid : Prop := fnLinkTellsWhichAreReadyRow.holds Try.pinned (OpenSpec.ofChange fnLinkTellsWhichAreReadySpec)

/-- ITS FALSE NEIGHBOUR: 'it returns false'. Refute it at one input. -/
def fnLinkTellsWhichAreReadyWrong : ChangeSpec := { name := "fnLinkTellsWhichAreReady", fn := fun _ => fun
  | [d1, d2] => { results := [.lit (.bool false)], args := [d1, d2] }
  | _ => none }
def FnLinkTellsWhichAreReadyWrongFalsely : Prop := fnLinkTellsWhichAreReadyRow.holds Try.pinned (OpenSpec.ofChange fnLinkTellsWhichAreReadyWrong)

end Rows
end Go.Proofs.Qxb6616545a
