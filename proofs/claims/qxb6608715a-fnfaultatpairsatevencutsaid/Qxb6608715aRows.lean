/-
  No cell of these rows narrows 'for every input' (looked for: loops, veiled, ifaces, maps, wideKeys, modest, calm, conditions, laid).
  DERIVED. THE GIVEN ROWS OF THIS SEAT. 6 by the template 'for every input the law returns true; each argument reads behind the call as it read before'; 0 by the template 'total and deterministic' (their statements: Qxb6608715aTotals.lean).
  GIVEN WITH THE SEED: the statements are not yours to turn. If you find one false, say at which input.
  Laid BY PROGRAM, IN A SANDBOX (cutbox-rows.mjs): the forced cells as the released guide's own fill.sh prints them over the translation a383c787fb562a26… (all of the seat's roots in one cut). By AI agents, Wed Nov 11 2026. No macro, syntax, notation, axiom, sorry.
-/
import Derived.Test.Qxb6608715aChecked
import GoSem.Claim
import GoSem.ClaimJoined
import GoSem.ClaimMapViews
import Derived.JoinedTies
import Derived.KernelRfl
namespace Go.Proofs.Qxb6608715a
/- THE CELL 'sum', in the pinned program and in every row, IS THE sha256 OF THE DUMP (.gsa) THAT Qxb6608715aProg.lean LOADS. Nothing in Lean hashes anything: it is a label: what it is worth is what the hold of that sum in a sandbox is worth. -/
noncomputable def Try.pinned : Pinned := { name := "qxb6608715a", sum := "a383c787fb562a2652d1a1e856599ae6ee1ba555e0a4a54eef92ed71a1dfff17", checked := Try.checked }
namespace Rows
def none {H : Type} : Left H := { results := [], args := [] }

/-- 'zzlaws_pkg_plan_b1.FnRefusesJoinedIsEither': WHATEVER THE INPUT: true; the input reads as it did. -/
def fnRefusesJoinedIsEitherSpec : ChangeSpec := { name := "fnRefusesJoinedIsEither", fn := fun _ => fun
  | [d1, d2, d3] => { results := [.lit (.bool true)], args := [d1, d2, d3] }
  | _ => none }
def fnRefusesJoinedIsEitherRow : OpenClaim := { program := "qxb6608715a", sum := "a383c787fb562a2652d1a1e856599ae6ee1ba555e0a4a54eef92ed71a1dfff17", func := "example.com/vestline/vestline/zzlaws_pkg_plan_b1.FnRefusesJoinedIsEither", spec := "fnRefusesJoinedIsEither", apart := false }
def FnRefusesJoinedIsEitherSaid : Prop := fnRefusesJoinedIsEitherRow.holds Try.pinned (OpenSpec.ofChange fnRefusesJoinedIsEitherSpec)

/-- ITS FALSE NEIGHBOUR: 'it returns false'. Refute it at one input. -/
def fnRefusesJoinedIsEitherWrong : ChangeSpec := { name := "fnRefusesJoinedIsEither", fn := fun _ => fun
  | [d1, d2, d3] => { results := [.lit (.bool false)], args := [d1, d2, d3] }
  | _ => none }
def FnRefusesJoinedIsEitherWrongFalsely : Prop := fnRefusesJoinedIsEitherRow.holds Try.pinned (OpenSpec.ofChange fnRefusesJoinedIsEitherWrong)

/-- 'zzlaws_pkg_plan_b1.FnRefusesOrItsComplement': WHATEVER THE INPUT: true; the input reads as it did. -/
def fnRefusesOrItsComplementSpec : ChangeSpec := { name := "fnRefusesOrItsComplement", fn := fun _ => fun
  | [d1, d2] => { results := [.lit (.bool true)], args := [d1, d2] }
  | _ => none }
def fnRefusesOrItsComplementRow : OpenClaim := { program := "qxb6608715a", sum := "a383c787fb562a2652d1a1e856599ae6ee1ba555e0a4a54eef92ed71a1dfff17", func := "example.com/vestline/vestline/zzlaws_pkg_plan_b1.FnRefusesOrItsComplement", spec := "fnRefusesOrItsComplement", apart := false }
def FnRefusesOrItsComplementSaid : Prop := fnRefusesOrItsComplementRow.holds Try.pinned (OpenSpec.ofChange fnRefusesOrItsComplementSpec)

/-- ITS FALSE NEIGHBOUR: 'it returns false'. Refute it at one input. -/
def fnRefusesOrItsComplementWrong : ChangeSpec := { name := "fnRefusesOrItsComplement", fn := fun _ => fun
  | [d1, d2] => { results := [.lit (.bool false)], args := [d1, d2] }
  | _ => none }
def FnRefusesOrItsComplementWrongFalsely : Prop := fnRefusesOrItsComplementRow.holds Try.pinned (OpenSpec.ofChange fnRefusesOrItsComplementWrong)

/-- 'zzlaws_pkg_plan_b1.FnNamedOneSetMore': WHATEVER THE INPUT: true; the input reads as it did. -/
def fnNamedOneSetMoreSpec : ChangeSpec := { name := "fnNamedOneSetMore", fn := fun _ => fun
  | [d1, d2] => { results := [.lit (.bool true)], args := [d1, d2] }
  | _ => none }
def fnNamedOneSetMoreRow : OpenClaim := { program := "qxb6608715a", sum := "a383c787fb562a2652d1a1e856599ae6ee1ba555e0a4a54eef92ed71a1dfff17", func := "example.com/vestline/vestline/zzlaws_pkg_plan_b1.FnNamedOneSetMore", spec := "fnNamedOneSetMore", inPlace := ["internal/abi.NoEscape", "internal/bytealg.MakeNoZero"], apart := false }
def FnNamedOneSetMoreSaid : Prop := fnNamedOneSetMoreRow.holds Try.pinned (OpenSpec.ofChange fnNamedOneSetMoreSpec)

/-- ITS FALSE NEIGHBOUR: 'it returns false'. Refute it at one input. -/
def fnNamedOneSetMoreWrong : ChangeSpec := { name := "fnNamedOneSetMore", fn := fun _ => fun
  | [d1, d2] => { results := [.lit (.bool false)], args := [d1, d2] }
  | _ => none }
def FnNamedOneSetMoreWrongFalsely : Prop := fnNamedOneSetMoreRow.holds Try.pinned (OpenSpec.ofChange fnNamedOneSetMoreWrong)

/-- 'zzlaws_pkg_plan_b1.FnNamedAtAnyCut': WHATEVER THE INPUT: true; the input reads as it did. -/
def fnNamedAtAnyCutSpec : ChangeSpec := { name := "fnNamedAtAnyCut", fn := fun _ => fun
  | [d1, d2] => { results := [.lit (.bool true)], args := [d1, d2] }
  | _ => none }
def fnNamedAtAnyCutRow : OpenClaim := { program := "qxb6608715a", sum := "a383c787fb562a2652d1a1e856599ae6ee1ba555e0a4a54eef92ed71a1dfff17", func := "example.com/vestline/vestline/zzlaws_pkg_plan_b1.FnNamedAtAnyCut", spec := "fnNamedAtAnyCut", inPlace := ["internal/abi.NoEscape", "internal/bytealg.MakeNoZero"], apart := false }
def FnNamedAtAnyCutSaid : Prop := fnNamedAtAnyCutRow.holds Try.pinned (OpenSpec.ofChange fnNamedAtAnyCutSpec)

/-- ITS FALSE NEIGHBOUR: 'it returns false'. Refute it at one input. -/
def fnNamedAtAnyCutWrong : ChangeSpec := { name := "fnNamedAtAnyCut", fn := fun _ => fun
  | [d1, d2] => { results := [.lit (.bool false)], args := [d1, d2] }
  | _ => none }
def FnNamedAtAnyCutWrongFalsely : Prop := fnNamedAtAnyCutRow.holds Try.pinned (OpenSpec.ofChange fnNamedAtAnyCutWrong)

/-- 'zzlaws_pkg_plan_b1.FnFaultAtJoinedASCII': WHATEVER THE INPUT: true; the input reads as it did. -/
def fnFaultAtJoinedASCIISpec : ChangeSpec := { name := "fnFaultAtJoinedASCII", fn := fun _ => fun
  | [d1, d2] => { results := [.lit (.bool true)], args := [d1, d2] }
  | _ => none }
def fnFaultAtJoinedASCIIRow : OpenClaim := { program := "qxb6608715a", sum := "a383c787fb562a2652d1a1e856599ae6ee1ba555e0a4a54eef92ed71a1dfff17", func := "example.com/vestline/vestline/zzlaws_pkg_plan_b1.FnFaultAtJoinedASCII", spec := "fnFaultAtJoinedASCII", unfollowed := true, recurses := true, apart := false }
def FnFaultAtJoinedASCIISaid : Prop := fnFaultAtJoinedASCIIRow.holds Try.pinned (OpenSpec.ofChange fnFaultAtJoinedASCIISpec)

/-- ITS FALSE NEIGHBOUR: 'it returns false'. Refute it at one input. -/
def fnFaultAtJoinedASCIIWrong : ChangeSpec := { name := "fnFaultAtJoinedASCII", fn := fun _ => fun
  | [d1, d2] => { results := [.lit (.bool false)], args := [d1, d2] }
  | _ => none }
def FnFaultAtJoinedASCIIWrongFalsely : Prop := fnFaultAtJoinedASCIIRow.holds Try.pinned (OpenSpec.ofChange fnFaultAtJoinedASCIIWrong)

/-- 'zzlaws_pkg_plan_b1.FnFaultAtPairsAtEvenCut': WHATEVER THE INPUT: true; the input reads as it did. -/
def fnFaultAtPairsAtEvenCutSpec : ChangeSpec := { name := "fnFaultAtPairsAtEvenCut", fn := fun _ => fun
  | [d1, d2] => { results := [.lit (.bool true)], args := [d1, d2] }
  | _ => none }
def fnFaultAtPairsAtEvenCutRow : OpenClaim := { program := "qxb6608715a", sum := "a383c787fb562a2652d1a1e856599ae6ee1ba555e0a4a54eef92ed71a1dfff17", func := "example.com/vestline/vestline/zzlaws_pkg_plan_b1.FnFaultAtPairsAtEvenCut", spec := "fnFaultAtPairsAtEvenCut", unfollowed := true, recurses := true, apart := false }
def FnFaultAtPairsAtEvenCutSaid : Prop := fnFaultAtPairsAtEvenCutRow.holds Try.pinned (OpenSpec.ofChange fnFaultAtPairsAtEvenCutSpec)

/-- ITS FALSE NEIGHBOUR: 'it returns false'. Refute it at one input. -/
def fnFaultAtPairsAtEvenCutWrong : ChangeSpec := { name := "fnFaultAtPairsAtEvenCut", fn := fun _ => fun
  | [d1, d2] => { results := [.lit (.bool false)], args := [d1, d2] }
  | _ => none }
def FnFaultAtPairsAtEvenCutWrongFalsely : Prop := fnFaultAtPairsAtEvenCutRow.holds Try.pinned (OpenSpec.ofChange fnFaultAtPairsAtEvenCutWrong)

end Rows
end Go.Proofs.Qxb6608715a
