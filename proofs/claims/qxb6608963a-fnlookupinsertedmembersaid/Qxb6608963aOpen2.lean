/-
  What opening a []string argument says besides: a nil slice has no room.
-/
import Derived.Test.Qxb6608963aOpen
namespace Go.Proofs.Qxb6608963a
open Go.ChangeShapes Go.WideShapes Go.ChangeAt Go.RowKit

theorem nil_room22 {H : Type} {enc : TypeId × Value → H} {W : World} {a : Option Addr} {len cap : Nat} {d : DataW H} {p : List MemPlace}
    (h : DataW.Trod enc Try.prog W 0 (fun _ => true) true 22 (.slice a len cap) d p) : a = none → cap = 0 := by
  intro ha
  obtain ⟨fuel, hf⟩ := h
  rcases open_strings Try.underlying22 Try.underlying9 (by kernel_rfl) hf with ⟨hcs, _⟩ | ⟨x, l, c, ss, hcs, _⟩
  · simp [Value.cells] at hcs
    exact hcs.2.2
  · simp [Value.cells] at hcs
    rw [hcs.1] at ha
    cases ha
end Go.Proofs.Qxb6608963a
