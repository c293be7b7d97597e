/-
  No cell of these rows narrows 'for every input' (looked for: loops, veiled, ifaces, maps, wideKeys, modest, calm, conditions, laid).
  DERIVED. THE GIVEN ROWS OF THIS SEAT. 3 by the template 'for every input the law returns true; each argument reads behind the call as it read before'; 0 by the template 'total and deterministic' (their statements: Qxb6617867aTotals.lean).
  GIVEN WITH THE SEED: the statements are not yours to turn. If you find one false, say at which input.
  Laid BY PROGRAM, IN A SANDBOX (cutbox-rows.mjs): the forced cells as the released guide's own fill.sh prints them over the translation 9d02e4b40863aea1… (all of the seat's roots in one cut). By AI agents, Wed Nov 11 2026. No macro, syntax, notation, axiom, sorry.
-/
import Derived.Test.Qxb6617867aChecked
import GoSem.Claim
import GoSem.ClaimJoined
import GoSem.ClaimMapViews
import Derived.JoinedTies
import Derived.KernelRfl
namespace Go.Proofs.Qxb6617867a
/- THE CELL 'sum', in the pinned program and in every row, IS THE sha256 OF THE DUMP (.gsa) THAT Qxb6617867aProg.lean LOADS. Nothing in Lean hashes anything: it is a label: what it is worth is what the hold of that sum in a sandbox is worth. -/
noncomputable def Try.pinned : Pinned := { name := "qxb6617867a", sum := "9d02e4b40863aea13f4fbc70bee36c319e3190c211d987a0c2e31dc491a6248b", checked := Try.checked }
namespace Rows
def none {H : Type} : Left H := { results := [], args := [] }

/-- 'zzlaws_gitconfig_b1.FnNextReadsCRLFAsLF': WHATEVER THE INPUT: true; the input reads as it did. -/
def fnNextReadsCRLFAsLFSpec : ChangeSpec := { name := "fnNextReadsCRLFAsLF", fn := fun _ => fun
  | [d1, d2] => { results := [.lit (.bool true)], args := [d1, d2] }
  | _ => none }
def fnNextReadsCRLFAsLFRow : OpenClaim := { program := "qxb6617867a", sum := "9d02e4b40863aea13f4fbc70bee36c319e3190c211d987a0c2e31dc491a6248b", func := "example.com/packwire/packwire/zzlaws_gitconfig_b1.FnNextReadsCRLFAsLF", spec := "fnNextReadsCRLFAsLF", apart := false }
def FnNextReadsCRLFAsLFSaid : Prop := fnNextReadsCRLFAsLFRow.holds Try.pinned (OpenSpec.ofChange fnNextReadsCRLFAsLFSpec)

/-- ITS FALSE NEIGHBOUR: 'it returns false'. Refute it at one input. -/
def fnNextReadsCRLFAsLFWrong : ChangeSpec := { name := "fnNextReadsCRLFAsLF", fn := fun _ => fun
  | [d1, d2] => { results := [.lit (.bool false)], args := [d1, d2] }
  | _ => none }
def FnNextReadsCRLFAsLFWrongFalsely : Prop := fnNextReadsCRLFAsLFRow.holds Try.pinned (OpenSpec.ofChange fnNextReadsCRLFAsLFWrong)

/-- 'zzlaws_gitconfig_b1.FnSkipBlanksStopsAtFirstLineNeitherBlankNorComment': WHATEVER THE INPUT: true; the input reads as it did. -/
def fnSkipBlanksStopsAtFirstLineNeitherBlankNorCommentSpec : ChangeSpec := { name := "fnSkipBlanksStopsAtFirstLineNeitherBlankNorComment", fn := fun _ => fun
  | [d1, d2] => { results := [.lit (.bool true)], args := [d1, d2] }
  | _ => none }
def fnSkipBlanksStopsAtFirstLineNeitherBlankNorCommentRow : OpenClaim := { program := "qxb6617867a", sum := "9d02e4b40863aea13f4fbc70bee36c319e3190c211d987a0c2e31dc491a6248b", func := "example.com/packwire/packwire/zzlaws_gitconfig_b1.FnSkipBlanksStopsAtFirstLineNeitherBlankNorComment", spec := "fnSkipBlanksStopsAtFirstLineNeitherBlankNorComment", apart := false }
def FnSkipBlanksStopsAtFirstLineNeitherBlankNorCommentSaid : Prop := fnSkipBlanksStopsAtFirstLineNeitherBlankNorCommentRow.holds Try.pinned (OpenSpec.ofChange fnSkipBlanksStopsAtFirstLineNeitherBlankNorCommentSpec)

/-- ITS FALSE NEIGHBOUR: 'it returns false'. Refute it at one input. -/
def fnSkipBlanksStopsAtFirstLineNeitherBlankNorCommentWrong : ChangeSpec := { name := "fnSkipBlanksStopsAtFirstLineNeitherBlankNorComment", fn := fun _ => fun
  | [d1, d2] => { results := [.lit (.bool false)], args := [d1, d2] }
  | _ => none }
def FnSkipBlanksStopsAtFirstLineNeitherBlankNorCommentWrongFalsely : Prop := fnSkipBlanksStopsAtFirstLineNeitherBlankNorCommentRow.holds Try.pinned (OpenSpec.ofChange fnSkipBlanksStopsAtFirstLineNeitherBlankNorCommentWrong)

/-- 'zzlaws_gitconfig_b1.FnSkipBlanksLooksNoFurtherThanItsLine': WHATEVER THE INPUT: true; the input reads as it did. -/
def fnSkipBlanksLooksNoFurtherThanItsLineSpec : ChangeSpec := { name := "fnSkipBlanksLooksNoFurtherThanItsLine", fn := fun _ => fun
  | [d1, d2, d3] => { results := [.lit (.bool true)], args := [d1, d2, d3] }
  | _ => none }
def fnSkipBlanksLooksNoFurtherThanItsLineRow : OpenClaim := { program := "qxb6617867a", sum := "9d02e4b40863aea13f4fbc70bee36c319e3190c211d987a0c2e31dc491a6248b", func := "example.com/packwire/packwire/zzlaws_gitconfig_b1.FnSkipBlanksLooksNoFurtherThanItsLine", spec := "fnSkipBlanksLooksNoFurtherThanItsLine", apart := false }
def FnSkipBlanksLooksNoFurtherThanItsLineSaid : Prop := fnSkipBlanksLooksNoFurtherThanItsLineRow.holds Try.pinned (OpenSpec.ofChange fnSkipBlanksLooksNoFurtherThanItsLineSpec)

/-- ITS FALSE NEIGHBOUR: 'it returns false'. Refute it at one input. -/
def fnSkipBlanksLooksNoFurtherThanItsLineWrong : ChangeSpec := { name := "fnSkipBlanksLooksNoFurtherThanItsLine", fn := fun _ => fun
  | [d1, d2, d3] => { results := [.lit (.bool false)], args := [d1, d2, d3] }
  | _ => none }
def FnSkipBlanksLooksNoFurtherThanItsLineWrongFalsely : Prop := fnSkipBlanksLooksNoFurtherThanItsLineRow.holds Try.pinned (OpenSpec.ofChange fnSkipBlanksLooksNoFurtherThanItsLineWrong)

end Rows
end Go.Proofs.Qxb6617867a
