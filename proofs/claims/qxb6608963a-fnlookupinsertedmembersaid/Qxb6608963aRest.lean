/-
  FnLookupInsertedMember (4): its text from one of its regions on, so that its walk may be parted over several theorems.
-/
import Derived.Test.Qxb6608963aIns
namespace Go.Proofs.Qxb6608963a
open Go.RowKit

/-- What stands from region n on. -/
def fromRegion (n : Nat) : Code → Code
  | .seq (.region i o d) b => bif i == n then .seq (.region i o d) b else fromRegion n b
  | .seq _ b => fromRegion n b
  | c => c
noncomputable def body4 : Code := match Try.f4.body with
  | some c => c
  | none => .skip
noncomputable def rest4 (n : Nat) : Code := fromRegion n body4
/-- The first statement; the others. -/
def hd : Code → Code
  | .seq a _ => a
  | c => c
def tl : Code → Code
  | .seq _ b => b
  | c => c
end Go.Proofs.Qxb6608963a
