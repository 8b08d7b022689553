/-
  No cell of these rows narrows 'for every input' (looked for: loops, veiled, ifaces, maps, wideKeys, modest, calm, conditions, laid).
  DERIVED. THE GIVEN ROWS OF THIS SEAT. 2 by the template 'for every input the law returns true; each argument reads behind the call as it read before'; 0 by the template 'total and deterministic' (their statements: Qxb6608963aTotals.lean).
  GIVEN WITH THE SEED: the statements are not yours to turn. If you find one false, say at which input.
  Laid BY PROGRAM, IN A SANDBOX (cutbox-rows.mjs): the forced cells as the released guide's own fill.sh prints them over the translation 52b91257a1035b1c… (all of the seat's roots in one cut). By AI agents, Wed Nov 11 2026. No macro, syntax, notation, axiom, sorry.
-/
import Derived.Test.Qxb6608963aChecked
import GoSem.Claim
import GoSem.ClaimJoined
import GoSem.ClaimMapViews
import Derived.JoinedTies
import Derived.KernelRfl
namespace Go.Proofs.Qxb6608963a
/- THE CELL 'sum', in the pinned program and in every row, IS THE sha256 OF THE DUMP (.gsa) THAT Qxb6608963aProg.lean LOADS. Nothing in Lean hashes anything: it is a label: what it is worth is what the hold of that sum in a sandbox is worth. -/
noncomputable def Try.pinned : Pinned := { name := "qxb6608963a", sum := "52b91257a1035b1c1170e238f9fd7b2a4f2b0a05fb5aa908c100c7399a401aa1", checked := Try.checked }
namespace Rows
def none {H : Type} : Left H := { results := [], args := [] }

/-- 'zzlaws_internal_contract_b1.FnLookupFindsFirstAtAnyCut': WHATEVER THE INPUT: true; the input reads as it did. -/
def fnLookupFindsFirstAtAnyCutSpec : ChangeSpec := { name := "fnLookupFindsFirstAtAnyCut", fn := fun _ => fun
  | [d1, d2, d3, d4] => { results := [.lit (.bool true)], args := [d1, d2, d3, d4] }
  | _ => none }
def fnLookupFindsFirstAtAnyCutRow : OpenClaim := { program := "qxb6608963a", sum := "52b91257a1035b1c1170e238f9fd7b2a4f2b0a05fb5aa908c100c7399a401aa1", func := "example.com/gravamen/gravamen/zzlaws_internal_contract_b1.FnLookupFindsFirstAtAnyCut", spec := "fnLookupFindsFirstAtAnyCut", apart := false }
def FnLookupFindsFirstAtAnyCutSaid : Prop := fnLookupFindsFirstAtAnyCutRow.holds Try.pinned (OpenSpec.ofChange fnLookupFindsFirstAtAnyCutSpec)

/-- ITS FALSE NEIGHBOUR: 'it returns false'. Refute it at one input. -/
def fnLookupFindsFirstAtAnyCutWrong : ChangeSpec := { name := "fnLookupFindsFirstAtAnyCut", fn := fun _ => fun
  | [d1, d2, d3, d4] => { results := [.lit (.bool false)], args := [d1, d2, d3, d4] }
  | _ => none }
def FnLookupFindsFirstAtAnyCutWrongFalsely : Prop := fnLookupFindsFirstAtAnyCutRow.holds Try.pinned (OpenSpec.ofChange fnLookupFindsFirstAtAnyCutWrong)

/-- 'zzlaws_internal_contract_b1.FnLookupInsertedMember': WHATEVER THE INPUT: true; the input reads as it did. -/
def fnLookupInsertedMemberSpec : ChangeSpec := { name := "fnLookupInsertedMember", fn := fun _ => fun
  | [d1, d2, d3, d4, d5, d6] => { results := [.lit (.bool true)], args := [d1, d2, d3, d4, d5, d6] }
  | _ => none }
def fnLookupInsertedMemberRow : OpenClaim := { program := "qxb6608963a", sum := "52b91257a1035b1c1170e238f9fd7b2a4f2b0a05fb5aa908c100c7399a401aa1", func := "example.com/gravamen/gravamen/zzlaws_internal_contract_b1.FnLookupInsertedMember", spec := "fnLookupInsertedMember", apart := false }
def FnLookupInsertedMemberSaid : Prop := fnLookupInsertedMemberRow.holds Try.pinned (OpenSpec.ofChange fnLookupInsertedMemberSpec)

/-- ITS FALSE NEIGHBOUR: 'it returns false'. Refute it at one input. -/
def fnLookupInsertedMemberWrong : ChangeSpec := { name := "fnLookupInsertedMember", fn := fun _ => fun
  | [d1, d2, d3, d4, d5, d6] => { results := [.lit (.bool false)], args := [d1, d2, d3, d4, d5, d6] }
  | _ => none }
def FnLookupInsertedMemberWrongFalsely : Prop := fnLookupInsertedMemberRow.holds Try.pinned (OpenSpec.ofChange fnLookupInsertedMemberWrong)

end Rows
end Go.Proofs.Qxb6608963a
