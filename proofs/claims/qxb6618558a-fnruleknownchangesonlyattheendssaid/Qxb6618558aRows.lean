/-
  No cell of these rows narrows 'for every input' (looked for: loops, veiled, ifaces, maps, wideKeys, modest, calm, conditions, laid).
  DERIVED. THE GIVEN ROWS OF THIS SEAT. 2 by the template 'for every input the law returns true; each argument reads behind the call as it read before'; 0 by the template 'total and deterministic' (their statements: Qxb6618558aTotals.lean).
  GIVEN WITH THE SEED: the statements are not yours to turn. If you find one false, say at which input.
  Laid BY PROGRAM, IN A SANDBOX (cutbox-rows.mjs): the forced cells as the released guide's own fill.sh prints them over the translation 1af4b5877acab631… (all of the seat's roots in one cut). By AI agents, Wed Nov 11 2026. No macro, syntax, notation, axiom, sorry.
-/
import Derived.Test.Qxb6618558aChecked
import GoSem.Claim
import GoSem.ClaimJoined
import GoSem.ClaimMapViews
import Derived.JoinedTies
import Derived.KernelRfl
namespace Go.Proofs.Qxb6618558a
/- THE CELL 'sum', in the pinned program and in every row, IS THE sha256 OF THE DUMP (.gsa) THAT Qxb6618558aProg.lean LOADS. Nothing in Lean hashes anything: it is a label: what it is worth is what the hold of that sum in a sandbox is worth. -/
noncomputable def Try.pinned : Pinned := { name := "qxb6618558a", sum := "1af4b5877acab631a9e6ffe8b6525ce6f70e691176c3f8fa72c420095be989c5", checked := Try.checked }
namespace Rows
def none {H : Type} : Left H := { results := [], args := [] }

/-- 'zzlaws_skill_b1.FnRuleKnownChangesOnlyAtTheEnds': WHATEVER THE INPUT: true; the input reads as it did. -/
def fnRuleKnownChangesOnlyAtTheEndsSpec : ChangeSpec := { name := "fnRuleKnownChangesOnlyAtTheEnds", fn := fun _ => fun
  | [d] => { results := [.lit (.bool true)], args := [d] }
  | _ => none }
def fnRuleKnownChangesOnlyAtTheEndsRow : OpenClaim := { program := "qxb6618558a", sum := "1af4b5877acab631a9e6ffe8b6525ce6f70e691176c3f8fa72c420095be989c5", func := "example.com/skilldex/skilldex/zzlaws_skill_b1.FnRuleKnownChangesOnlyAtTheEnds", spec := "fnRuleKnownChangesOnlyAtTheEnds", apart := false }
def FnRuleKnownChangesOnlyAtTheEndsSaid : Prop := fnRuleKnownChangesOnlyAtTheEndsRow.holds Try.pinned (OpenSpec.ofChange fnRuleKnownChangesOnlyAtTheEndsSpec)

/-- ITS FALSE NEIGHBOUR: 'it returns false'. Refute it at one input. -/
def fnRuleKnownChangesOnlyAtTheEndsWrong : ChangeSpec := { name := "fnRuleKnownChangesOnlyAtTheEnds", fn := fun _ => fun
  | [d] => { results := [.lit (.bool false)], args := [d] }
  | _ => none }
def FnRuleKnownChangesOnlyAtTheEndsWrongFalsely : Prop := fnRuleKnownChangesOnlyAtTheEndsRow.holds Try.pinned (OpenSpec.ofChange fnRuleKnownChangesOnlyAtTheEndsWrong)

/-- 'zzlaws_skill_b1.FnRuleKnownMirror': WHATEVER THE INPUT: true; the input reads as it did. -/
def fnRuleKnownMirrorSpec : ChangeSpec := { name := "fnRuleKnownMirror", fn := fun _ => fun
  | [d] => { results := [.lit (.bool true)], args := [d] }
  | _ => none }
def fnRuleKnownMirrorRow : OpenClaim := { program := "qxb6618558a", sum := "1af4b5877acab631a9e6ffe8b6525ce6f70e691176c3f8fa72c420095be989c5", func := "example.com/skilldex/skilldex/zzlaws_skill_b1.FnRuleKnownMirror", spec := "fnRuleKnownMirror", apart := false }
def FnRuleKnownMirrorSaid : Prop := fnRuleKnownMirrorRow.holds Try.pinned (OpenSpec.ofChange fnRuleKnownMirrorSpec)

/-- ITS FALSE NEIGHBOUR: 'it returns false'. Refute it at one input. -/
def fnRuleKnownMirrorWrong : ChangeSpec := { name := "fnRuleKnownMirror", fn := fun _ => fun
  | [d] => { results := [.lit (.bool false)], args := [d] }
  | _ => none }
def FnRuleKnownMirrorWrongFalsely : Prop := fnRuleKnownMirrorRow.holds Try.pinned (OpenSpec.ofChange fnRuleKnownMirrorWrong)

end Rows
end Go.Proofs.Qxb6618558a
