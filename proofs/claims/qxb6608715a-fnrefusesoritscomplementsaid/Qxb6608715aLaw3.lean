/-
  The walk of FnRefusesJoinedIsEither (3).
-/
import Derived.Test.Qxb6608715aRule
namespace Go.Proofs.Qxb6608715a
open Go.RowKit
attribute [local go_sem ↓] owp_load22 owp_alloc22 owp_build41
attribute [local go_sem] rowOf_new rowOf_past rowOf_drew rowOf_drewN

theorem lt2 (n : Nat) : n < n + 1 + 1 := by omega
theorem lt3 (n : Nat) : n < n + 1 + 1 + 1 := by omega
theorem lt4 (n : Nat) : n < n + 1 + 1 + 1 + 1 := by omega
theorem lt5 (n : Nat) : n < n + 1 + 1 + 1 + 1 + 1 := by omega
theorem lt6 (n : Nat) : n < n + 1 + 1 + 1 + 1 + 1 + 1 := by omega
theorem lt7 (n : Nat) : n < n + 1 + 1 + 1 + 1 + 1 + 1 + 1 := by omega
attribute [local go_sem] lt2 lt3 lt4 lt5 lt6 lt7
theorem Grown.drewN {W w' : World} (h : Grown W w') (n : Nat) : Grown W (w'.drewN n) := h
theorem rule_cells (w0 : World) (cs : Array Value) (hcs : cs.size = 256) (tb : Nat → Bool) (hc : ∀ i, i < 256 → cs[i]? = some (.bool (tb i))) (v : Value) (n : Nat) (hn : n = w0.heap.size) :
    ∀ i, i < 256 → (w0.alloc (.cells (rule41 cs v) 41)).cell? ⟨n, i, none⟩ = some (.bool (tb i)) := by
  intro i hi
  subst hn
  rw [World.cell?_alloc_new, rule41_get cs hcs v i hi, hc i hi]

theorem held_append (tb : Nat → Bool) (a b : List UInt8) : held tb (a ++ b) = (held tb a || held tb b) := by
  simp [held]

theorem marked_true (cs : Array Value) (hcs : cs.size = 256) (tb : Nat → Bool) (hc : ∀ i, i < 256 → cs[i]? = some (.bool (tb i))) (s : ByteArray) (hs : s.size ≤ maxLen) (w : World) :
    Calls Try.prog 12 #[.agg cs, .string s, .bool true] w fun e w' => e = .returned (.bool (held tb s.data.toList)) ∧ ∃ sn, w' = (w.alloc (.cells cs 22)).alloc (.cells sn 22) := by
  have h := marked_any cs hcs tb hc s hs true w
  have e : (fun c => tb c == true) = tb := by funext c; cases tb c <;> rfl
  rw [e] at h
  exact h

set_option maxRecDepth 20000 in
set_option maxHeartbeats 1000000 in
theorem walk3in (cs : Array Value) (hcs : cs.size = 256) (tb : Nat → Bool) (hc : ∀ i, i < 256 → cs[i]? = some (.bool (tb i))) (a b : ByteArray) (hle : a.size + b.size ≤ 1048576) (x y : Bool)
    (hx : held tb a.data.toList = x) (hy : held tb b.data.toList = y) (w : World) :
    Calls Try.prog 3 #[.agg cs, .string a, .string b] w fun e w' => e = .returned (.bool true) ∧ Grown w w' := by
  have HC := hide hc
  clear hc
  have hxy := held_append tb a.data.toList b.data.toList
  rw [hx, hy] at hxy
  have hd : decide (a.size + b.size ≤ 1048576) = true := by simpa using hle
  have h1 : (a.size : Int) + b.size ≤ 1048576 := by omega
  have h2 : ¬ (1048576 : Int) < a.size := by omega
  have h3 : ¬ (1048576 : Int) - a.size < b.size := by omega
  clear hle
  cases x <;> cases y
  all_goals
    go_enter Try.func3, Try.ntmps3
    go_wp2_with (first | (go_at_call 9; refine (bytes9 _ _ _ (by unfold maxLen; omega) (by unfold maxLen; omega) _).mono ?_; rintro e w' ⟨rfl, rfl⟩) | (go_at_call 10; refine (newrule _ hcs _ _ _ _).mono ?_; rintro e w' ⟨rfl, rfl⟩) | (go_at_call 11; refine (callRefuses _ tb _ (by unfold maxLen; (try simp only [ByteArray.size_append]); omega) _ (fun i hi => by (try simp only [World.cell?_drewN]); exact rule_cells _ cs hcs tb HC.out _ _ (by simp) i hi)).mono ?_; rintro e w' ⟨rfl, n, rfl⟩) | (go_at_call 12; refine (marked_true cs hcs tb HC.out _ (by unfold maxLen; omega) _).mono ?_; rintro e w' ⟨rfl, n, rfl⟩))
    go_ret
    exact ⟨rfl, by repeat (first | exact Grown.refl _ | apply Grown.drewN | apply Grown.drew | apply Grown.alloc)⟩

set_option maxRecDepth 20000 in
set_option maxHeartbeats 1000000 in
theorem walk3 (cs : Array Value) (hcs : cs.size = 256) (tb : Nat → Bool) (hc : ∀ i, i < 256 → cs[i]? = some (.bool (tb i))) (a b : ByteArray) (ha : a.size ≤ maxLen) (hb : b.size ≤ maxLen) (w : World) :
    Calls Try.prog 3 #[.agg cs, .string a, .string b] w fun e w' => e = .returned (.bool true) ∧ Grown w w' := by
  by_cases hle : a.size + b.size ≤ 1048576
  · exact walk3in cs hcs tb hc a b hle _ _ rfl rfl w
  · have hd : decide (a.size + b.size ≤ 1048576) = false := by simpa using hle
    clear hc
    go_enter Try.func3, Try.ntmps3
    go_wp2_with (first | (go_at_call 9; refine (bytes9 _ _ _ ha hb _).mono ?_; rintro e w' ⟨rfl, rfl⟩))
    go_ret
    exact ⟨rfl, by repeat (first | exact Grown.refl _ | apply Grown.drew | apply Grown.alloc)⟩
end Go.Proofs.Qxb6608715a
