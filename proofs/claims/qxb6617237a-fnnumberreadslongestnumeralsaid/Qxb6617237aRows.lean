/-
  No cell of these rows narrows 'for every input' (looked for: loops, veiled, ifaces, maps, wideKeys, modest, calm, conditions, laid).
  DERIVED. THE GIVEN ROWS OF THIS SEAT. 3 by the template 'for every input the law returns true; each argument reads behind the call as it read before'; 0 by the template 'total and deterministic' (their statements: Qxb6617237aTotals.lean).
  GIVEN WITH THE SEED: the statements are not yours to turn. If you find one false, say at which input.
  Laid BY PROGRAM, IN A SANDBOX (cutbox-rows.mjs): the forced cells as the released guide's own fill.sh prints them over the translation 66d3ec65b7614c1d… (all of the seat's roots in one cut). By AI agents, Wed Nov 11 2026. No macro, syntax, notation, axiom, sorry.
-/
import Derived.Test.Qxb6617237aChecked
import GoSem.Claim
import GoSem.ClaimJoined
import GoSem.ClaimMapViews
import Derived.JoinedTies
import Derived.KernelRfl
namespace Go.Proofs.Qxb6617237a
/- THE CELL 'sum', in the pinned program and in every row, IS THE sha256 OF THE DUMP (.gsa) THAT Qxb6617237aProg.lean LOADS. Nothing in Lean hashes anything: it is a label: what it is worth is what the hold of that sum in a sandbox is worth. -/
noncomputable def Try.pinned : Pinned := { name := "qxb6617237a", sum := "66d3ec65b7614c1d07e0c1de06b3246190f05c7bfb4a96a1bff9aa1ad8f99906", checked := Try.checked }
namespace Rows
def none {H : Type} : Left H := { results := [], args := [] }

/-- 'zzlaws_pkg_thrift_b1.FnNumberReadsLongestNumeral': WHATEVER THE INPUT: true; the input reads as it did. -/
def fnNumberReadsLongestNumeralSpec : ChangeSpec := { name := "fnNumberReadsLongestNumeral", fn := fun _ => fun
  | [d1, d2, d3, d4] => { results := [.lit (.bool true)], args := [d1, d2, d3, d4] }
  | _ => none }
def fnNumberReadsLongestNumeralRow : OpenClaim := { program := "qxb6617237a", sum := "66d3ec65b7614c1d07e0c1de06b3246190f05c7bfb4a96a1bff9aa1ad8f99906", func := "example.com/evolvent/evolvent/zzlaws_pkg_thrift_b1.FnNumberReadsLongestNumeral", spec := "fnNumberReadsLongestNumeral", apart := false }
def FnNumberReadsLongestNumeralSaid : Prop := fnNumberReadsLongestNumeralRow.holds Try.pinned (OpenSpec.ofChange fnNumberReadsLongestNumeralSpec)

/-- ITS FALSE NEIGHBOUR: 'it returns false'. Refute it at one input. -/
def fnNumberReadsLongestNumeralWrong : ChangeSpec := { name := "fnNumberReadsLongestNumeral", fn := fun _ => fun
  | [d1, d2, d3, d4] => { results := [.lit (.bool false)], args := [d1, d2, d3, d4] }
  | _ => none }
def FnNumberReadsLongestNumeralWrongFalsely : Prop := fnNumberReadsLongestNumeralRow.holds Try.pinned (OpenSpec.ofChange fnNumberReadsLongestNumeralWrong)

/-- 'zzlaws_pkg_thrift_b1.FnNumberEndsAtBlank': WHATEVER THE INPUT: true; the input reads as it did. -/
def fnNumberEndsAtBlankSpec : ChangeSpec := { name := "fnNumberEndsAtBlank", fn := fun _ => fun
  | [d1, d2, d3, d4, d5] => { results := [.lit (.bool true)], args := [d1, d2, d3, d4, d5] }
  | _ => none }
def fnNumberEndsAtBlankRow : OpenClaim := { program := "qxb6617237a", sum := "66d3ec65b7614c1d07e0c1de06b3246190f05c7bfb4a96a1bff9aa1ad8f99906", func := "example.com/evolvent/evolvent/zzlaws_pkg_thrift_b1.FnNumberEndsAtBlank", spec := "fnNumberEndsAtBlank", apart := false }
def FnNumberEndsAtBlankSaid : Prop := fnNumberEndsAtBlankRow.holds Try.pinned (OpenSpec.ofChange fnNumberEndsAtBlankSpec)

/-- ITS FALSE NEIGHBOUR: 'it returns false'. Refute it at one input. -/
def fnNumberEndsAtBlankWrong : ChangeSpec := { name := "fnNumberEndsAtBlank", fn := fun _ => fun
  | [d1, d2, d3, d4, d5] => { results := [.lit (.bool false)], args := [d1, d2, d3, d4, d5] }
  | _ => none }
def FnNumberEndsAtBlankWrongFalsely : Prop := fnNumberEndsAtBlankRow.holds Try.pinned (OpenSpec.ofChange fnNumberEndsAtBlankWrong)

/-- 'zzlaws_pkg_thrift_b1.FnNumberLooksNotBehind': WHATEVER THE INPUT: true; the input reads as it did. -/
def fnNumberLooksNotBehindSpec : ChangeSpec := { name := "fnNumberLooksNotBehind", fn := fun _ => fun
  | [d1, d2, d3, d4] => { results := [.lit (.bool true)], args := [d1, d2, d3, d4] }
  | _ => none }
def fnNumberLooksNotBehindRow : OpenClaim := { program := "qxb6617237a", sum := "66d3ec65b7614c1d07e0c1de06b3246190f05c7bfb4a96a1bff9aa1ad8f99906", func := "example.com/evolvent/evolvent/zzlaws_pkg_thrift_b1.FnNumberLooksNotBehind", spec := "fnNumberLooksNotBehind", apart := false }
def FnNumberLooksNotBehindSaid : Prop := fnNumberLooksNotBehindRow.holds Try.pinned (OpenSpec.ofChange fnNumberLooksNotBehindSpec)

/-- ITS FALSE NEIGHBOUR: 'it returns false'. Refute it at one input. -/
def fnNumberLooksNotBehindWrong : ChangeSpec := { name := "fnNumberLooksNotBehind", fn := fun _ => fun
  | [d1, d2, d3, d4] => { results := [.lit (.bool false)], args := [d1, d2, d3, d4] }
  | _ => none }
def FnNumberLooksNotBehindWrongFalsely : Prop := fnNumberLooksNotBehindRow.holds Try.pinned (OpenSpec.ofChange fnNumberLooksNotBehindWrong)

end Rows
end Go.Proofs.Qxb6617237a
