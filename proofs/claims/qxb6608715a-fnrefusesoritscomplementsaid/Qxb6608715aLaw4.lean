/-
  The walk of FnRefusesOrItsComplement (4).
-/
import Derived.Test.Qxb6608715aLaw3
namespace Go.Proofs.Qxb6608715a
open Go.RowKit
attribute [local go_sem ↓] owp_load22 owp_alloc22 owp_build41
attribute [local go_sem] rowOf_new rowOf_past rowOf_drew rowOf_drewN
theorem lt8 (n : Nat) : n < n + 1 + 1 + 1 + 1 + 1 + 1 + 1 + 1 := by omega
theorem lt9 (n : Nat) : n < n + 1 + 1 + 1 + 1 + 1 + 1 + 1 + 1 + 1 := by omega
attribute [local go_sem] lt2 lt3 lt4 lt5 lt6 lt7 lt8 lt9

theorem marked_false (cs : Array Value) (hcs : cs.size = 256) (tb : Nat → Bool) (hc : ∀ i, i < 256 → cs[i]? = some (.bool (tb i))) (s : ByteArray) (hs : s.size ≤ maxLen) (w : World) :
    Calls Try.prog 12 #[.agg cs, .string s, .bool false] w fun e w' => e = .returned (.bool (held (fun c => !tb c) s.data.toList)) ∧ ∃ sn, w' = (w.alloc (.cells cs 22)).alloc (.cells sn 22) := by
  have h := marked_any cs hcs tb hc s hs false w
  have e : (fun c => tb c == false) = (fun c => !tb c) := by funext c; cases tb c <;> rfl
  rw [e] at h
  exact h

/-- The array after c rounds of the inversion. -/
def Inv (tb : Nat → Bool) (c : Nat) (ot : Array Value) : Prop := ot.size = 256 ∧ (∀ j, j < c → ot[j]? = some (.bool (!tb j)))
theorem inv_start (tb : Nat → Bool) : Inv tb 0 zero22 := ⟨zero22_size, fun j hj => absurd hj (by omega)⟩
theorem inv_step {tb : Nat → Bool} {c : Nat} {ot : Array Value} (h : Inv tb c ot) (hc : c < 256) : Inv tb (c + 1) (ot.setIfInBounds c (.bool (!tb c))) := by
  refine ⟨by simp [h.1], fun j hj => ?_⟩
  by_cases e : c = j
  · subst e
    rw [Array.getElem?_setIfInBounds_self_of_lt (by have := h.1; omega)]
  · rw [Array.getElem?_setIfInBounds_ne e, h.2 j (by omega)]

theorem held_or (tb : Nat → Bool) (l : List UInt8) : (held tb l || held (fun c => !tb c) l) = decide (0 < l.length) := by
  cases l with
  | nil => rfl
  | cons x l => simp only [held, List.any_cons]; cases tb x.toNat <;> simp

set_option maxRecDepth 20000 in
set_option maxHeartbeats 1000000 in
theorem walk4in (cs : Array Value) (hcs : cs.size = 256) (tb : Nat → Bool) (hc : ∀ i, i < 256 → cs[i]? = some (.bool (tb i))) (s : ByteArray) (hle : s.size ≤ 1048576) (x y : Bool)
    (hx : held tb s.data.toList = x) (hy : held (fun c => !tb c) s.data.toList = y) (w : World) :
    Calls Try.prog 4 #[.agg cs, .string s] w fun e w' => e = .returned (.bool true) ∧ Grown w w' := by
  have HC := hide hc
  clear hc
  have HXY : Hid ((x || y) = decide (0 < s.size)) := by
    show _ = _
    rw [← hx, ← hy, held_or]; simp
  have hd : decide (s.size ≤ 1048576) = true := by simpa using hle
  have h1 : (s.size : Int) ≤ 1048576 := by omega
  clear hle
  go_enter Try.func4, Try.ntmps4
  go_wp2_with (first | (go_at_call 13; refine (bytes13 _ _ (by unfold maxLen; omega) _).mono ?_; rintro e w' ⟨rfl, rfl⟩))
  go_loopw [6] (fun i wr => ∃ c : Nat, c ≤ 256 ∧ i = .int .i64 c ∧ ∃ ot, Inv tb c ot ∧ wr = ((w.alloc (.cells cs 22)).alloc (.cells cs 22)).alloc (.cells ot 22)) (fun i _ => 256 - (intOf i).toNat)
  case atStart => exact ⟨0, by omega, rfl, zero22, inv_start tb, rfl⟩
  case round =>
    obtain ⟨c, hc', rfl, ot, hot, rfl⟩ := hrel
    by_cases hlt : c < 256
    · have HS : Hid (Inv tb (c + 1) (ot.setIfInBounds c (.bool (!tb c)))) := inv_step hot hlt
      have h2 := HC.out c hlt
      obtain ⟨v0, hv0⟩ : ∃ v0, ot[c]? = some v0 := ⟨_, Array.getElem?_eq_getElem (by have := hot.1; omega)⟩
      have HCS := hide hcs
      clear hot hcs
      go_wp2
      go_roundw
      case rel => exact ⟨c + 1, by omega, by go_num, _, HS.out, rfl⟩
      case measure => simp [intOf]; omega
    · have hos : ot.size = 256 := hot.1
      have HO : Hid (∀ j, j < 256 → ot[j]? = some (.bool (!tb j))) := fun j hj => hot.2 j (by omega)
      clear hot
      have h3 : ¬ (c : Int) < 256 := by omega
      cases x <;> cases y
      all_goals have hp := HXY.out.symm
      all_goals clear HXY
      all_goals have tok1 : True := trivial
      all_goals have tok2 : True := trivial
      all_goals
        go_wp2_with (first | (go_at_call 10; have _t := tok2; refine (newrule cs hcs _ _ _ _).mono ?_; rintro e w' ⟨rfl, rfl⟩; clear tok2) | (go_at_call 10; refine (newrule ot hos _ _ _ _).mono ?_; rintro e w' ⟨rfl, rfl⟩) | (go_at_call 11; have _t := tok1; refine (callRefuses _ tb _ (by unfold maxLen; omega) _ (fun i hi => by rw [World.cell?_alloc_past _ _ _ (by simp), World.cell?_alloc_past _ _ _ (by simp), World.cell?_alloc_past _ _ _ (by simp)]; exact rule_cells _ cs hcs tb HC.out _ _ (by simp) i hi)).mono ?_; rintro e w' ⟨rfl, n, rfl⟩; clear tok1) | (go_at_call 11; refine (callRefuses _ (fun c => !tb c) _ (by unfold maxLen; omega) _ (fun i hi => by rw [World.cell?_drewN]; exact rule_cells _ ot hos _ HO.out _ _ (by simp) i hi)).mono ?_; rintro e w' ⟨rfl, n, rfl⟩) | (go_at_call 12; refine (marked_false cs hcs tb HC.out _ (by unfold maxLen; omega) _).mono ?_; rintro e w' ⟨rfl, n, rfl⟩))
        go_ret
        exact ⟨rfl, by repeat (first | with_reducible exact Grown.refl _ | with_reducible apply Grown.alloc | with_reducible apply Grown.drewN | with_reducible apply Grown.drew)⟩

set_option maxRecDepth 20000 in
set_option maxHeartbeats 1000000 in
theorem walk4 (cs : Array Value) (hcs : cs.size = 256) (tb : Nat → Bool) (hc : ∀ i, i < 256 → cs[i]? = some (.bool (tb i))) (s : ByteArray) (hs : s.size ≤ maxLen) (w : World) :
    Calls Try.prog 4 #[.agg cs, .string s] w fun e w' => e = .returned (.bool true) ∧ Grown w w' := by
  by_cases hle : s.size ≤ 1048576
  · exact walk4in cs hcs tb hc s hle _ _ rfl rfl w
  · have hd : decide (s.size ≤ 1048576) = false := by simpa using hle
    clear hc
    go_enter Try.func4, Try.ntmps4
    go_wp2_with (first | (go_at_call 13; refine (bytes13 _ _ hs _).mono ?_; rintro e w' ⟨rfl, rfl⟩))
    go_ret
    exact ⟨rfl, by repeat (first | exact Grown.refl _ | apply Grown.drew | apply Grown.alloc)⟩
end Go.Proofs.Qxb6608715a
