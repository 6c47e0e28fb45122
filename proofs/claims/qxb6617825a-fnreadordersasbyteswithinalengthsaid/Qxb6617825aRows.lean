/-
  No cell of these rows narrows 'for every input' (looked for: loops, veiled, ifaces, maps, wideKeys, modest, calm, conditions, laid).
  DERIVED. THE GIVEN ROWS OF THIS SEAT. 3 by the template 'for every input the law returns true; each argument reads behind the call as it read before'; 0 by the template 'total and deterministic' (their statements: Qxb6617825aTotals.lean).
  GIVEN WITH THE SEED: the statements are not yours to turn. If you find one false, say at which input.
  Laid BY PROGRAM, IN A SANDBOX (cutbox-rows.mjs): the forced cells as the released guide's own fill.sh prints them over the translation a8307f64c077ee70… (all of the seat's roots in one cut). By AI agents, Wed Nov 11 2026. No macro, syntax, notation, axiom, sorry.
-/
import Derived.Test.Qxb6617825aChecked
import GoSem.Claim
import GoSem.ClaimJoined
import GoSem.ClaimMapViews
import Derived.JoinedTies
import Derived.KernelRfl
namespace Go.Proofs.Qxb6617825a
/- THE CELL 'sum', in the pinned program and in every row, IS THE sha256 OF THE DUMP (.gsa) THAT Qxb6617825aProg.lean LOADS. Nothing in Lean hashes anything: it is a label: what it is worth is what the hold of that sum in a sandbox is worth. -/
noncomputable def Try.pinned : Pinned := { name := "qxb6617825a", sum := "a8307f64c077ee70c57db3a13dbdce56c520b11a98689f82afd4c934e3536888", checked := Try.checked }
namespace Rows
def none {H : Type} : Left H := { results := [], args := [] }

/-- 'zzlaws_internal_varint_b1.FnReadDecodesRFC9000Encoding': WHATEVER THE INPUT: true; the input reads as it did. -/
def fnReadDecodesRFC9000EncodingSpec : ChangeSpec := { name := "fnReadDecodesRFC9000Encoding", fn := fun _ => fun
  | [d] => { results := [.lit (.bool true)], args := [d] }
  | _ => none }
def fnReadDecodesRFC9000EncodingRow : OpenClaim := { program := "qxb6617825a", sum := "a8307f64c077ee70c57db3a13dbdce56c520b11a98689f82afd4c934e3536888", func := "example.com/keyphase/keyphase/zzlaws_internal_varint_b1.FnReadDecodesRFC9000Encoding", spec := "fnReadDecodesRFC9000Encoding", apart := false }
def FnReadDecodesRFC9000EncodingSaid : Prop := fnReadDecodesRFC9000EncodingRow.holds Try.pinned (OpenSpec.ofChange fnReadDecodesRFC9000EncodingSpec)

/-- ITS FALSE NEIGHBOUR: 'it returns false'. Refute it at one input. -/
def fnReadDecodesRFC9000EncodingWrong : ChangeSpec := { name := "fnReadDecodesRFC9000Encoding", fn := fun _ => fun
  | [d] => { results := [.lit (.bool false)], args := [d] }
  | _ => none }
def FnReadDecodesRFC9000EncodingWrongFalsely : Prop := fnReadDecodesRFC9000EncodingRow.holds Try.pinned (OpenSpec.ofChange fnReadDecodesRFC9000EncodingWrong)

/-- 'zzlaws_internal_varint_b1.FnReadRefusesShortCutsAndIgnoresTail': WHATEVER THE INPUT: true; the input reads as it did. -/
def fnReadRefusesShortCutsAndIgnoresTailSpec : ChangeSpec := { name := "fnReadRefusesShortCutsAndIgnoresTail", fn := fun _ => fun
  | [d1, d2] => { results := [.lit (.bool true)], args := [d1, d2] }
  | _ => none }
def fnReadRefusesShortCutsAndIgnoresTailRow : OpenClaim := { program := "qxb6617825a", sum := "a8307f64c077ee70c57db3a13dbdce56c520b11a98689f82afd4c934e3536888", func := "example.com/keyphase/keyphase/zzlaws_internal_varint_b1.FnReadRefusesShortCutsAndIgnoresTail", spec := "fnReadRefusesShortCutsAndIgnoresTail", apart := false }
def FnReadRefusesShortCutsAndIgnoresTailSaid : Prop := fnReadRefusesShortCutsAndIgnoresTailRow.holds Try.pinned (OpenSpec.ofChange fnReadRefusesShortCutsAndIgnoresTailSpec)

/-- ITS FALSE NEIGHBOUR: 'it returns false'. Refute it at one input. -/
def fnReadRefusesShortCutsAndIgnoresTailWrong : ChangeSpec := { name := "fnReadRefusesShortCutsAndIgnoresTail", fn := fun _ => fun
  | [d1, d2] => { results := [.lit (.bool false)], args := [d1, d2] }
  | _ => none }
def FnReadRefusesShortCutsAndIgnoresTailWrongFalsely : Prop := fnReadRefusesShortCutsAndIgnoresTailRow.holds Try.pinned (OpenSpec.ofChange fnReadRefusesShortCutsAndIgnoresTailWrong)

/-- 'zzlaws_internal_varint_b1.FnReadOrdersAsBytesWithinALength': WHATEVER THE INPUT: true; the input reads as it did. -/
def fnReadOrdersAsBytesWithinALengthSpec : ChangeSpec := { name := "fnReadOrdersAsBytesWithinALength", fn := fun _ => fun
  | [d1, d2] => { results := [.lit (.bool true)], args := [d1, d2] }
  | _ => none }
def fnReadOrdersAsBytesWithinALengthRow : OpenClaim := { program := "qxb6617825a", sum := "a8307f64c077ee70c57db3a13dbdce56c520b11a98689f82afd4c934e3536888", func := "example.com/keyphase/keyphase/zzlaws_internal_varint_b1.FnReadOrdersAsBytesWithinALength", spec := "fnReadOrdersAsBytesWithinALength", apart := false }
def FnReadOrdersAsBytesWithinALengthSaid : Prop := fnReadOrdersAsBytesWithinALengthRow.holds Try.pinned (OpenSpec.ofChange fnReadOrdersAsBytesWithinALengthSpec)

/-- ITS FALSE NEIGHBOUR: 'it returns false'. Refute it at one input. -/
def fnReadOrdersAsBytesWithinALengthWrong : ChangeSpec := { name := "fnReadOrdersAsBytesWithinALength", fn := fun _ => fun
  | [d1, d2] => { results := [.lit (.bool false)], args := [d1, d2] }
  | _ => none }
def FnReadOrdersAsBytesWithinALengthWrongFalsely : Prop := fnReadOrdersAsBytesWithinALengthRow.holds Try.pinned (OpenSpec.ofChange fnReadOrdersAsBytesWithinALengthWrong)

end Rows
end Go.Proofs.Qxb6617825a
