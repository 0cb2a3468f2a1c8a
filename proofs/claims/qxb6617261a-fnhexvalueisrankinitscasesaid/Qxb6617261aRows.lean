/-
  No cell of these rows narrows 'for every input' (looked for: loops, veiled, ifaces, maps, wideKeys, modest, calm, conditions, laid).
  DERIVED. THE GIVEN ROWS OF THIS SEAT. 3 by the template 'for every input the law returns true; each argument reads behind the call as it read before'; 0 by the template 'total and deterministic' (their statements: Qxb6617261aTotals.lean).
  GIVEN WITH THE SEED: the statements are not yours to turn. If you find one false, say at which input.
  Laid BY PROGRAM, IN A SANDBOX (cutbox-rows.mjs): the forced cells as the released guide's own fill.sh prints them over the translation fb0ee9a982ccf88a… (all of the seat's roots in one cut). By AI agents, Wed Nov 11 2026. No macro, syntax, notation, axiom, sorry.
-/
import Derived.Test.Qxb6617261aChecked
import GoSem.Claim
import GoSem.ClaimJoined
import GoSem.ClaimMapViews
import Derived.JoinedTies
import Derived.KernelRfl
namespace Go.Proofs.Qxb6617261a
/- THE CELL 'sum', in the pinned program and in every row, IS THE sha256 OF THE DUMP (.gsa) THAT Qxb6617261aProg.lean LOADS. Nothing in Lean hashes anything: it is a label: what it is worth is what the hold of that sum in a sandbox is worth. -/
noncomputable def Try.pinned : Pinned := { name := "qxb6617261a", sum := "fb0ee9a982ccf88ab8ec4c0c23a84fcdaeb85da0c2fbca4a23e98324954cdbb7", checked := Try.checked }
namespace Rows
def none {H : Type} : Left H := { results := [], args := [] }

/-- 'zzlaws_logic_b1.FnHexValueIsRankInItsCase': WHATEVER THE INPUT: true; the input reads as it did. -/
def fnHexValueIsRankInItsCaseSpec : ChangeSpec := { name := "fnHexValueIsRankInItsCase", fn := fun _ => fun
  | [d] => { results := [.lit (.bool true)], args := [d] }
  | _ => none }
def fnHexValueIsRankInItsCaseRow : OpenClaim := { program := "qxb6617261a", sum := "fb0ee9a982ccf88ab8ec4c0c23a84fcdaeb85da0c2fbca4a23e98324954cdbb7", func := "example.com/inferred-trust/inferred-trust/zzlaws_logic_b1.FnHexValueIsRankInItsCase", spec := "fnHexValueIsRankInItsCase", apart := false }
def FnHexValueIsRankInItsCaseSaid : Prop := fnHexValueIsRankInItsCaseRow.holds Try.pinned (OpenSpec.ofChange fnHexValueIsRankInItsCaseSpec)

/-- ITS FALSE NEIGHBOUR: 'it returns false'. Refute it at one input. -/
def fnHexValueIsRankInItsCaseWrong : ChangeSpec := { name := "fnHexValueIsRankInItsCase", fn := fun _ => fun
  | [d] => { results := [.lit (.bool false)], args := [d] }
  | _ => none }
def FnHexValueIsRankInItsCaseWrongFalsely : Prop := fnHexValueIsRankInItsCaseRow.holds Try.pinned (OpenSpec.ofChange fnHexValueIsRankInItsCaseWrong)

/-- 'zzlaws_logic_b1.FnIsBlankSplitsAtAnyCut': WHATEVER THE INPUT: true; the input reads as it did. -/
def fnIsBlankSplitsAtAnyCutSpec : ChangeSpec := { name := "fnIsBlankSplitsAtAnyCut", fn := fun _ => fun
  | [d1, d2] => { results := [.lit (.bool true)], args := [d1, d2] }
  | _ => none }
def fnIsBlankSplitsAtAnyCutRow : OpenClaim := { program := "qxb6617261a", sum := "fb0ee9a982ccf88ab8ec4c0c23a84fcdaeb85da0c2fbca4a23e98324954cdbb7", func := "example.com/inferred-trust/inferred-trust/zzlaws_logic_b1.FnIsBlankSplitsAtAnyCut", spec := "fnIsBlankSplitsAtAnyCut", apart := false }
def FnIsBlankSplitsAtAnyCutSaid : Prop := fnIsBlankSplitsAtAnyCutRow.holds Try.pinned (OpenSpec.ofChange fnIsBlankSplitsAtAnyCutSpec)

/-- ITS FALSE NEIGHBOUR: 'it returns false'. Refute it at one input. -/
def fnIsBlankSplitsAtAnyCutWrong : ChangeSpec := { name := "fnIsBlankSplitsAtAnyCut", fn := fun _ => fun
  | [d1, d2] => { results := [.lit (.bool false)], args := [d1, d2] }
  | _ => none }
def FnIsBlankSplitsAtAnyCutWrongFalsely : Prop := fnIsBlankSplitsAtAnyCutRow.holds Try.pinned (OpenSpec.ofChange fnIsBlankSplitsAtAnyCutWrong)

/-- 'zzlaws_logic_b1.FnIsBlankOneByteInserted': WHATEVER THE INPUT: true; the input reads as it did. -/
def fnIsBlankOneByteInsertedSpec : ChangeSpec := { name := "fnIsBlankOneByteInserted", fn := fun _ => fun
  | [d1, d2, d3] => { results := [.lit (.bool true)], args := [d1, d2, d3] }
  | _ => none }
def fnIsBlankOneByteInsertedRow : OpenClaim := { program := "qxb6617261a", sum := "fb0ee9a982ccf88ab8ec4c0c23a84fcdaeb85da0c2fbca4a23e98324954cdbb7", func := "example.com/inferred-trust/inferred-trust/zzlaws_logic_b1.FnIsBlankOneByteInserted", spec := "fnIsBlankOneByteInserted", apart := false }
def FnIsBlankOneByteInsertedSaid : Prop := fnIsBlankOneByteInsertedRow.holds Try.pinned (OpenSpec.ofChange fnIsBlankOneByteInsertedSpec)

/-- ITS FALSE NEIGHBOUR: 'it returns false'. Refute it at one input. -/
def fnIsBlankOneByteInsertedWrong : ChangeSpec := { name := "fnIsBlankOneByteInserted", fn := fun _ => fun
  | [d1, d2, d3] => { results := [.lit (.bool false)], args := [d1, d2, d3] }
  | _ => none }
def FnIsBlankOneByteInsertedWrongFalsely : Prop := fnIsBlankOneByteInsertedRow.holds Try.pinned (OpenSpec.ofChange fnIsBlankOneByteInsertedWrong)

end Rows
end Go.Proofs.Qxb6617261a
