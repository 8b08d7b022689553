/-
  An argument of type [256]bool: opened, and shut again in whatever world.
-/
import Derived.Test.Qxb6608715aArr
import Derived.OpenShut
namespace Go.Proofs.Qxb6608715a
open Go.ChangeShapes Go.WideShapes Go.ChangeAt Go.RowKit

theorem cellsOf22 : Try.prog.cellsOf 22 = 256 := by kernel_rfl
theorem cellsOf4 : Try.prog.cellsOf 4 = 1 := by kernel_rfl

/-- The bools that an array's cells hold. -/
def bitAt (cs : Array Value) (i : Nat) : Bool := match cs[i]? with | some (.bool b) => b | _ => false

/-- The array as data. -/
def bits256 {H : Type} (tb : Nat → Bool) : DataW H := .agg ((List.range 256).map fun i => .lit (.bool (tb i)))

theorem mapM_some_map {α β : Type} (f : α → Option β) (g : α → β) : ∀ (l : List α), (∀ x, x ∈ l → f x = some (g x)) → l.mapM f = some (l.map g)
  | [], _ => rfl
  | x :: l, h => by
    rw [List.mapM_cons, h x (by simp), mapM_some_map f g l (fun y hy => h y (by simp [hy]))]
    rfl

theorem one_of {cs : List Value} {i : Nat} {v : Value} (h : cs[i]? = some v) : (cs.drop (i * 1)).take 1 = [v] := by
  rw [Nat.mul_one]
  obtain ⟨hi, rfl⟩ := List.getElem?_eq_some_iff.1 h
  rw [List.drop_eq_getElem_cons hi]
  rfl

theorem pairs_fst {H : Type} (l : List Nat) (f : Nat → DataW H) : (l.map fun i => (f i, ([] : List MemPlace))).map (·.1) = l.map f := by simp
theorem pairs_snd {H : Type} (l : List Nat) (f : Nat → DataW H) : (l.map fun i => (f i, ([] : List MemPlace))).flatMap (·.2) = [] := by simp

theorem shut_arr {H : Type} {enc : TypeId × Value → H} (cs : Array Value) (hcs : cs.size = 256) (tb : Nat → Bool) (hc : ∀ i, i < 256 → cs[i]? = some (.bool (tb i))) {W : World} {base : Nat} {sp : Nat → Bool} {held : Bool} :
    DataW.Trod enc Try.prog W base sp held 22 (.agg cs) (bits256 tb) [] := by
  refine ⟨2, ?_⟩
  have e : (Value.agg cs).cells.toList = cs.toList := rfl
  rw [e]
  unfold DataW.trod
  rw [Try.underlying22]
  have hl : cs.toList.length = Try.prog.cellsOf 22 := by rw [cellsOf22]; simpa using hcs
  simp only [hl, if_true]
  rw [cellsOf4, mapM_some_map _ (fun i => (DataW.lit (.bool (tb i)), []))]
  · rw [Option.map_some, pairs_fst, pairs_snd]
    rfl
  · intro i hi
    have hi' : i < 256 := by simpa using hi
    rw [one_of (v := .bool (tb i)) (by simpa using hc i hi')]
    simp [DataW.trod, Try.underlying4]

theorem open_arr {H : Type} {enc : TypeId × Value → H} {W : World} {r : Reach} {b0 base : Nat} {sp : Nat → Bool} {held : Bool} {v : Value} {d : DataW H} {p : List MemPlace}
    (hv : Value.okWide Try.prog W r b0 22 v) (h : DataW.Trod enc Try.prog W base sp held 22 v d p) :
    ∃ (cs : Array Value) (tb : Nat → Bool), v = .agg cs ∧ d = bits256 tb ∧ p = [] ∧ cs.size = 256 ∧ ∀ i, i < 256 → cs[i]? = some (.bool (tb i)) := by
  simp only [Value.okWide, Try.underlying22] at hv
  obtain ⟨cs, rfl, hsz, _⟩ := hv
  rw [cellsOf22] at hsz
  have hc : ∀ i, i < 256 → cs[i]? = some (.bool (bitAt cs i)) := by
    obtain ⟨fuel, hf⟩ := h
    obtain ⟨xs, m, rfl, hx, _, hxl, hall⟩ := DataW.trod_array Try.underlying22 hf
    intro i hi
    have h1 := hall i hi
    rw [cellsOf4, one_of (v := cs[i]'(by omega)) (by simp [Value.cells, hi, hsz])] at h1
    have h2 : xs[i]? = some (xs[i]'(by omega)) := by simp
    rw [h2] at h1
    cases m with
    | zero => simp [DataW.trod] at h1
    | succ m =>
      unfold DataW.trod at h1
      rw [Try.underlying4] at h1
      have h3 : cs[i]? = some (cs[i]'(by omega)) := by simp
      cases hci : cs[i]'(by omega) with
      | bool b => rw [h3, hci]; simp [bitAt, h3, hci]
      | _ => rw [hci] at h1; simp at h1
  obtain ⟨rfl, rfl⟩ := h.unique (shut_arr cs hsz (bitAt cs) hc)
  exact ⟨cs, bitAt cs, rfl, rfl, rfl, hsz, hc⟩
end Go.Proofs.Qxb6608715a
