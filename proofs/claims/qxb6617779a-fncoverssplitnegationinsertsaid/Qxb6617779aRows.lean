/-
  No cell of these rows narrows 'for every input' (looked for: loops, veiled, ifaces, maps, wideKeys, modest, calm, conditions, laid).
  DERIVED. THE GIVEN ROWS OF THIS SEAT. 3 by the template 'for every input the law returns true; each argument reads behind the call as it read before'; 0 by the template 'total and deterministic' (their statements: Qxb6617779aTotals.lean).
  GIVEN WITH THE SEED: the statements are not yours to turn. If you find one false, say at which input.
  Laid BY PROGRAM, IN A SANDBOX (cutbox-rows.mjs): the forced cells as the released guide's own fill.sh prints them over the translation bd0ab600b5472bc7… (all of the seat's roots in one cut). By AI agents, Wed Nov 11 2026. No macro, syntax, notation, axiom, sorry.
-/
import Derived.Test.Qxb6617779aChecked
import GoSem.Claim
import GoSem.ClaimJoined
import GoSem.ClaimMapViews
import Derived.JoinedTies
import Derived.KernelRfl
namespace Go.Proofs.Qxb6617779a
/- THE CELL 'sum', in the pinned program and in every row, IS THE sha256 OF THE DUMP (.gsa) THAT Qxb6617779aProg.lean LOADS. Nothing in Lean hashes anything: it is a label: what it is worth is what the hold of that sum in a sandbox is worth. -/
noncomputable def Try.pinned : Pinned := { name := "qxb6617779a", sum := "bd0ab600b5472bc724027ebe37d40226c20a0cdf30b4994b3d17edd47970cda2", checked := Try.checked }
namespace Rows
def none {H : Type} : Left H := { results := [], args := [] }

/-- 'zzlaws_root_b1.FnAllDigitsDecimalsAndCuts': WHATEVER THE INPUT: true; the input reads as it did. -/
def fnAllDigitsDecimalsAndCutsSpec : ChangeSpec := { name := "fnAllDigitsDecimalsAndCuts", fn := fun _ => fun
  | [d1, d2, d3, d4] => { results := [.lit (.bool true)], args := [d1, d2, d3, d4] }
  | _ => none }
def fnAllDigitsDecimalsAndCutsRow : OpenClaim := { program := "qxb6617779a", sum := "bd0ab600b5472bc724027ebe37d40226c20a0cdf30b4994b3d17edd47970cda2", func := "example.com/isimud/isimud/zzlaws_root_b1.FnAllDigitsDecimalsAndCuts", spec := "fnAllDigitsDecimalsAndCuts", apart := false }
def FnAllDigitsDecimalsAndCutsSaid : Prop := fnAllDigitsDecimalsAndCutsRow.holds Try.pinned (OpenSpec.ofChange fnAllDigitsDecimalsAndCutsSpec)

/-- ITS FALSE NEIGHBOUR: 'it returns false'. Refute it at one input. -/
def fnAllDigitsDecimalsAndCutsWrong : ChangeSpec := { name := "fnAllDigitsDecimalsAndCuts", fn := fun _ => fun
  | [d1, d2, d3, d4] => { results := [.lit (.bool false)], args := [d1, d2, d3, d4] }
  | _ => none }
def FnAllDigitsDecimalsAndCutsWrongFalsely : Prop := fnAllDigitsDecimalsAndCutsRow.holds Try.pinned (OpenSpec.ofChange fnAllDigitsDecimalsAndCutsWrong)

/-- 'zzlaws_root_b1.FnCoversSplitNegationInsert': WHATEVER THE INPUT: true; the input reads as it did. -/
def fnCoversSplitNegationInsertSpec : ChangeSpec := { name := "fnCoversSplitNegationInsert", fn := fun _ => fun
  | [d1, d2, d3, d4] => { results := [.lit (.bool true)], args := [d1, d2, d3, d4] }
  | _ => none }
def fnCoversSplitNegationInsertRow : OpenClaim := { program := "qxb6617779a", sum := "bd0ab600b5472bc724027ebe37d40226c20a0cdf30b4994b3d17edd47970cda2", func := "example.com/isimud/isimud/zzlaws_root_b1.FnCoversSplitNegationInsert", spec := "fnCoversSplitNegationInsert", apart := false }
def FnCoversSplitNegationInsertSaid : Prop := fnCoversSplitNegationInsertRow.holds Try.pinned (OpenSpec.ofChange fnCoversSplitNegationInsertSpec)

/-- ITS FALSE NEIGHBOUR: 'it returns false'. Refute it at one input. -/
def fnCoversSplitNegationInsertWrong : ChangeSpec := { name := "fnCoversSplitNegationInsert", fn := fun _ => fun
  | [d1, d2, d3, d4] => { results := [.lit (.bool false)], args := [d1, d2, d3, d4] }
  | _ => none }
def FnCoversSplitNegationInsertWrongFalsely : Prop := fnCoversSplitNegationInsertRow.holds Try.pinned (OpenSpec.ofChange fnCoversSplitNegationInsertWrong)

/-- 'zzlaws_root_b1.FnCoversPrefixPatterns': WHATEVER THE INPUT: true; the input reads as it did. -/
def fnCoversPrefixPatternsSpec : ChangeSpec := { name := "fnCoversPrefixPatterns", fn := fun _ => fun
  | [d1, d2, d3] => { results := [.lit (.bool true)], args := [d1, d2, d3] }
  | _ => none }
def fnCoversPrefixPatternsRow : OpenClaim := { program := "qxb6617779a", sum := "bd0ab600b5472bc724027ebe37d40226c20a0cdf30b4994b3d17edd47970cda2", func := "example.com/isimud/isimud/zzlaws_root_b1.FnCoversPrefixPatterns", spec := "fnCoversPrefixPatterns", apart := false }
def FnCoversPrefixPatternsSaid : Prop := fnCoversPrefixPatternsRow.holds Try.pinned (OpenSpec.ofChange fnCoversPrefixPatternsSpec)

/-- ITS FALSE NEIGHBOUR: 'it returns false'. Refute it at one input. -/
def fnCoversPrefixPatternsWrong : ChangeSpec := { name := "fnCoversPrefixPatterns", fn := fun _ => fun
  | [d1, d2, d3] => { results := [.lit (.bool false)], args := [d1, d2, d3] }
  | _ => none }
def FnCoversPrefixPatternsWrongFalsely : Prop := fnCoversPrefixPatternsRow.holds Try.pinned (OpenSpec.ofChange fnCoversPrefixPatternsWrong)

end Rows
end Go.Proofs.Qxb6617779a
