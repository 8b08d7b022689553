/-
  An argument of type []string, opened for a law that reads it and hands it back as it was.
-/
import Derived.Test.Qxb6608963aStrs
import Derived.OpenShut
import Derived.ShutString
import Derived.ChangeOld
namespace Go.Proofs.Qxb6608963a
open Go.ChangeShapes Go.WideShapes Go.ChangeAt Go.RowKit

/-- WHAT THE WALK IS TOLD OF A SLICE OF STRINGS THAT CAME IN: its length, its room, its elements. -/
def IsStrs (w : World) (a : Option Addr) (len cap : Nat) (ns : List ByteArray) : Prop :=
  ns.length = len ∧ len ≤ cap ∧ cap ≤ maxLen ∧ Row w a ns ∧ ∀ (i : Nat) (s : ByteArray), ns[i]? = some s → s.size ≤ maxLen

theorem spot_none {w : World} {a : Addr} {v : Value} (h : w.cell? a = some v) : a.spot = Option.none := by
  unfold World.cell? at h
  split at h
  · cases hs : a.spot with
    | none => rfl
    | some _ => simp [hs] at h
  · cases h

theorem open_strs22 {H : Type} {enc : TypeId × Value → H} {W : World} {a : Option Addr} {len cap : Nat} {d : DataW H} {p : List MemPlace}
    (h : DataW.Trod enc Try.prog W 0 (fun _ => true) true 22 (.slice a len cap) d p) : ∃ ns, IsStrs W a len cap ns := by
  obtain ⟨fuel, hf⟩ := h
  rcases open_strings Try.underlying22 Try.underlying9 (by kernel_rfl) hf with ⟨hcs, _⟩ | ⟨x, l, c, ss, hcs, _, hl, hm, hz, _, hcell, hws⟩
  · simp [Value.cells] at hcs
    obtain ⟨rfl, rfl, rfl⟩ := hcs
    exact ⟨[], rfl, Nat.le_refl _, Nat.zero_le _, .inl rfl, fun i s hs => by simp at hs⟩
  · simp [Value.cells] at hcs
    obtain ⟨rfl, rfl, rfl⟩ := hcs
    have hz' : ss.length = cap := by simpa using hz
    refine ⟨ss.take len, by rw [List.length_take]; omega, hl, hm, ?_, fun i s hs => ?_⟩
    · by_cases h0 : len = 0
      · exact .inl (by rw [h0]; rfl)
      · have c0 := hcell 0 (by omega)
        rw [Addr.add_zero'] at c0
        have hsp := spot_none c0
        obtain ⟨b, off, sp⟩ := x
        simp only at hsp
        subst hsp
        refine .inr ⟨b, off, rfl, fun i s hs => ?_⟩
        rw [List.getElem?_take] at hs
        split at hs
        · rename_i hi
          have ci := hcell i (by omega)
          rw [Addr.add_lit] at ci
          rw [ci]
          simp [List.getD, hs]
        · cases hs
    · rw [List.getElem?_take] at hs
      split at hs
      · exact hws s (List.mem_of_getElem? hs)
      · cases hs
end Go.Proofs.Qxb6608963a
