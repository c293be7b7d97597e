/-
  No cell of these rows narrows 'for every input' (looked for: loops, veiled, ifaces, maps, wideKeys, modest, calm, conditions, laid).
  DERIVED. THE GIVEN ROWS OF THIS SEAT. 2 by the template 'for every input the law returns true; each argument reads behind the call as it read before'; 0 by the template 'total and deterministic' (their statements: Qxb6618613aTotals.lean).
  GIVEN WITH THE SEED: the statements are not yours to turn. If you find one false, say at which input.
  Laid BY PROGRAM, IN A SANDBOX (cutbox-rows.mjs): the forced cells as the released guide's own fill.sh prints them over the translation 0f4f091eb21ccad4… (all of the seat's roots in one cut). By AI agents, Wed Nov 11 2026. No macro, syntax, notation, axiom, sorry.
-/
import Derived.Test.Qxb6618613aChecked
import GoSem.Claim
import GoSem.ClaimJoined
import GoSem.ClaimMapViews
import Derived.JoinedTies
import Derived.KernelRfl
namespace Go.Proofs.Qxb6618613a
/- THE CELL 'sum', in the pinned program and in every row, IS THE sha256 OF THE DUMP (.gsa) THAT Qxb6618613aProg.lean LOADS. Nothing in Lean hashes anything: it is a label: what it is worth is what the hold of that sum in a sandbox is worth. -/
noncomputable def Try.pinned : Pinned := { name := "qxb6618613a", sum := "0f4f091eb21ccad45a54d7fa88937946b8a24df8538cbc12aba2bdbad016c417", checked := Try.checked }
namespace Rows
def none {H : Type} : Left H := { results := [], args := [] }

/-- 'zzlaws_root_b1.FnDecoderBoolReadsEachByteInTurn': WHATEVER THE INPUT: true; the input reads as it did. -/
def fnDecoderBoolReadsEachByteInTurnSpec : ChangeSpec := { name := "fnDecoderBoolReadsEachByteInTurn", fn := fun _ => fun
  | [d1, d2, d3] => { results := [.lit (.bool true)], args := [d1, d2, d3] }
  | _ => none }
def fnDecoderBoolReadsEachByteInTurnRow : OpenClaim := { program := "qxb6618613a", sum := "0f4f091eb21ccad45a54d7fa88937946b8a24df8538cbc12aba2bdbad016c417", func := "example.com/credence/credence/zzlaws_root_b1.FnDecoderBoolReadsEachByteInTurn", spec := "fnDecoderBoolReadsEachByteInTurn", apart := false }
def FnDecoderBoolReadsEachByteInTurnSaid : Prop := fnDecoderBoolReadsEachByteInTurnRow.holds Try.pinned (OpenSpec.ofChange fnDecoderBoolReadsEachByteInTurnSpec)

/-- ITS FALSE NEIGHBOUR: 'it returns false'. Refute it at one input. -/
def fnDecoderBoolReadsEachByteInTurnWrong : ChangeSpec := { name := "fnDecoderBoolReadsEachByteInTurn", fn := fun _ => fun
  | [d1, d2, d3] => { results := [.lit (.bool false)], args := [d1, d2, d3] }
  | _ => none }
def FnDecoderBoolReadsEachByteInTurnWrongFalsely : Prop := fnDecoderBoolReadsEachByteInTurnRow.holds Try.pinned (OpenSpec.ofChange fnDecoderBoolReadsEachByteInTurnWrong)

/-- 'zzlaws_root_b1.FnDecoderBoolThenFixedIsOneLongerFixed': WHATEVER THE INPUT: true; the input reads as it did. -/
def fnDecoderBoolThenFixedIsOneLongerFixedSpec : ChangeSpec := { name := "fnDecoderBoolThenFixedIsOneLongerFixed", fn := fun _ => fun
  | [d1, d2, d3] => { results := [.lit (.bool true)], args := [d1, d2, d3] }
  | _ => none }
def fnDecoderBoolThenFixedIsOneLongerFixedRow : OpenClaim := { program := "qxb6618613a", sum := "0f4f091eb21ccad45a54d7fa88937946b8a24df8538cbc12aba2bdbad016c417", func := "example.com/credence/credence/zzlaws_root_b1.FnDecoderBoolThenFixedIsOneLongerFixed", spec := "fnDecoderBoolThenFixedIsOneLongerFixed", apart := false }
def FnDecoderBoolThenFixedIsOneLongerFixedSaid : Prop := fnDecoderBoolThenFixedIsOneLongerFixedRow.holds Try.pinned (OpenSpec.ofChange fnDecoderBoolThenFixedIsOneLongerFixedSpec)

/-- ITS FALSE NEIGHBOUR: 'it returns false'. Refute it at one input. -/
def fnDecoderBoolThenFixedIsOneLongerFixedWrong : ChangeSpec := { name := "fnDecoderBoolThenFixedIsOneLongerFixed", fn := fun _ => fun
  | [d1, d2, d3] => { results := [.lit (.bool false)], args := [d1, d2, d3] }
  | _ => none }
def FnDecoderBoolThenFixedIsOneLongerFixedWrongFalsely : Prop := fnDecoderBoolThenFixedIsOneLongerFixedRow.holds Try.pinned (OpenSpec.ofChange fnDecoderBoolThenFixedIsOneLongerFixedWrong)

end Rows
end Go.Proofs.Qxb6618613a
