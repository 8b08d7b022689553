/-
  No cell of these rows narrows 'for every input' (looked for: loops, veiled, ifaces, maps, wideKeys, modest, calm, conditions, laid).
  DERIVED. THE GIVEN ROWS OF THIS SEAT. 2 by the template 'for every input the law returns true; each argument reads behind the call as it read before'; 0 by the template 'total and deterministic' (their statements: Qxb6608807aTotals.lean).
  GIVEN WITH THE SEED: the statements are not yours to turn. If you find one false, say at which input.
  Laid BY PROGRAM, IN A SANDBOX (cutbox-rows.mjs): the forced cells as the released guide's own fill.sh prints them over the translation a25b3b5cc8c500d5… (all of the seat's roots in one cut). By AI agents, Wed Nov 11 2026. No macro, syntax, notation, axiom, sorry.
-/
import Derived.Test.Qxb6608807aChecked
import GoSem.Claim
import GoSem.ClaimJoined
import GoSem.ClaimMapViews
import Derived.JoinedTies
import Derived.KernelRfl
namespace Go.Proofs.Qxb6608807a
/- THE CELL 'sum', in the pinned program and in every row, IS THE sha256 OF THE DUMP (.gsa) THAT Qxb6608807aProg.lean LOADS. Nothing in Lean hashes anything: it is a label: what it is worth is what the hold of that sum in a sandbox is worth. -/
noncomputable def Try.pinned : Pinned := { name := "qxb6608807a", sum := "a25b3b5cc8c500d51a32e74ce6edbb8c4f5c98c75233e0e152e4c5558e87e0f4", checked := Try.checked }
namespace Rows
def none {H : Type} : Left H := { results := [], args := [] }

/-- 'zzlaws_internal_engine_b1.FnValueEndWhereTheBytesEnd': WHATEVER THE INPUT: true; the input reads as it did. -/
def fnValueEndWhereTheBytesEndSpec : ChangeSpec := { name := "fnValueEndWhereTheBytesEnd", fn := fun _ => fun
  | [d1, d2, d3, d4, d5, d6, d7, d8] => { results := [.lit (.bool true)], args := [d1, d2, d3, d4, d5, d6, d7, d8] }
  | _ => none }
def fnValueEndWhereTheBytesEndRow : OpenClaim := { program := "qxb6608807a", sum := "a25b3b5cc8c500d51a32e74ce6edbb8c4f5c98c75233e0e152e4c5558e87e0f4", func := "example.com/xipscope/xipscope/zzlaws_internal_engine_b1.FnValueEndWhereTheBytesEnd", spec := "fnValueEndWhereTheBytesEnd", apart := false }
def FnValueEndWhereTheBytesEndSaid : Prop := fnValueEndWhereTheBytesEndRow.holds Try.pinned (OpenSpec.ofChange fnValueEndWhereTheBytesEndSpec)

/-- ITS FALSE NEIGHBOUR: 'it returns false'. Refute it at one input. -/
def fnValueEndWhereTheBytesEndWrong : ChangeSpec := { name := "fnValueEndWhereTheBytesEnd", fn := fun _ => fun
  | [d1, d2, d3, d4, d5, d6, d7, d8] => { results := [.lit (.bool false)], args := [d1, d2, d3, d4, d5, d6, d7, d8] }
  | _ => none }
def FnValueEndWhereTheBytesEndWrongFalsely : Prop := fnValueEndWhereTheBytesEndRow.holds Try.pinned (OpenSpec.ofChange fnValueEndWhereTheBytesEndWrong)

/-- 'zzlaws_internal_engine_b1.FnValueEndOneByteLonger': WHATEVER THE INPUT: true; the input reads as it did. -/
def fnValueEndOneByteLongerSpec : ChangeSpec := { name := "fnValueEndOneByteLonger", fn := fun _ => fun
  | [d1, d2, d3, d4, d5, d6, d7, d8, d9] => { results := [.lit (.bool true)], args := [d1, d2, d3, d4, d5, d6, d7, d8, d9] }
  | _ => none }
def fnValueEndOneByteLongerRow : OpenClaim := { program := "qxb6608807a", sum := "a25b3b5cc8c500d51a32e74ce6edbb8c4f5c98c75233e0e152e4c5558e87e0f4", func := "example.com/xipscope/xipscope/zzlaws_internal_engine_b1.FnValueEndOneByteLonger", spec := "fnValueEndOneByteLonger", apart := false }
def FnValueEndOneByteLongerSaid : Prop := fnValueEndOneByteLongerRow.holds Try.pinned (OpenSpec.ofChange fnValueEndOneByteLongerSpec)

/-- ITS FALSE NEIGHBOUR: 'it returns false'. Refute it at one input. -/
def fnValueEndOneByteLongerWrong : ChangeSpec := { name := "fnValueEndOneByteLonger", fn := fun _ => fun
  | [d1, d2, d3, d4, d5, d6, d7, d8, d9] => { results := [.lit (.bool false)], args := [d1, d2, d3, d4, d5, d6, d7, d8, d9] }
  | _ => none }
def FnValueEndOneByteLongerWrongFalsely : Prop := fnValueEndOneByteLongerRow.holds Try.pinned (OpenSpec.ofChange fnValueEndOneByteLongerWrong)

end Rows
end Go.Proofs.Qxb6608807a
