/-
  The walk of FnValueEndWhereTheBytesEnd (3) and of its bound on lengths (5).
-/
import Derived.Test.Qxb6608807aEnd
namespace Go.Proofs.Qxb6608807a
open Go.RowKit
set_option linter.unusedVariables false
theorem lt2 (n : Nat) : n < n + 1 + 1 := by omega
theorem lt3 (n : Nat) : n < n + 1 + 1 + 1 := by omega
theorem lt4 (n : Nat) : n < n + 1 + 1 + 1 + 1 := by omega
theorem lt5 (n : Nat) : n < n + 1 + 1 + 1 + 1 + 1 := by omega
theorem lt6 (n : Nat) : n < n + 1 + 1 + 1 + 1 + 1 + 1 := by omega
theorem lt7 (n : Nat) : n < n + 1 + 1 + 1 + 1 + 1 + 1 + 1 := by omega
theorem lt8 (n : Nat) : n < n + 1 + 1 + 1 + 1 + 1 + 1 + 1 + 1 := by omega
theorem lt9 (n : Nat) : n < n + 1 + 1 + 1 + 1 + 1 + 1 + 1 + 1 + 1 := by omega
attribute [local go_sem] lt2 lt3 lt4 lt5 lt6 lt7 lt8 lt9
theorem Grown.drewN {W w' : World} (h : Grown W w') (n : Nat) : Grown W (w'.drewN n) := h

set_option maxHeartbeats 1000000 in
theorem bytes5_yes (a ln i : Int) (nm tn tx : ByteArray) (pk v : Bool) (h : (nm.size : Int) + tn.size + tx.size ≤ 1048576) (w : World) :
    Calls Try.prog 5 #[.int .i64 a, .string nm, .string tn, .int .i64 ln, .bool pk, .bool v, .int .i64 i, .string tx] w fun e w' => e = .returned (.bool true) ∧ w' = w := by
  go_enter Try.func5, Try.ntmps5
  go_wp2
  go_ret
  exact ⟨rfl, rfl⟩

set_option maxHeartbeats 1000000 in
theorem bytes5_no (a ln i : Int) (nm tn tx : ByteArray) (pk v : Bool) (h1 : nm.size ≤ maxLen) (h2 : tn.size ≤ maxLen) (h3 : tx.size ≤ maxLen) (h : ¬ (nm.size : Int) + tn.size + tx.size ≤ 1048576) (w : World) :
    Calls Try.prog 5 #[.int .i64 a, .string nm, .string tn, .int .i64 ln, .bool pk, .bool v, .int .i64 i, .string tx] w fun e w' => e = .returned (.bool false) ∧ w' = w := by
  unfold maxLen at h1 h2 h3
  go_enter Try.func5, Try.ntmps5
  go_wp2
  all_goals
    go_ret
    exact ⟨rfl, rfl⟩

theorem vEnd_four (a : Int) (b v : Bool) (n : Nat) : vEnd (a + 4) b v n = vEnd a b v n + 4 := by
  have := al4_four a
  unfold vEnd
  split
  · rfl
  · omega
  · split <;> omega
theorem vEnd_bd (a : Int) (b v : Bool) (n : Nat) (h0 : 0 ≤ a) (h1 : a ≤ 1073741828) (h2 : n ≤ 1048576) : 0 ≤ vEnd a b v n ∧ vEnd a b v n ≤ 2147483647 := by
  obtain ⟨hl1, hl2, _⟩ := al4_facts a
  unfold vEnd
  split
  · omega
  · omega
  · split <;> omega

set_option maxRecDepth 20000 in
set_option maxHeartbeats 1000000 in
theorem walk3in (a ln i : Int) (nm tn tx : ByteArray) (pk v : Bool) (h1 : nm.size ≤ 262144) (h2 : tn.size ≤ 262144) (h3 : tx.size ≤ 524288) (ha0 : 0 ≤ a) (ha1 : a ≤ 1073741824) (b : Bool)
    (hi : (tn.toList == [105, 110, 116, 101, 103, 101, 114]) = b) (w : World) :
    Calls Try.prog 3 #[.int .i64 a, .string nm, .string tn, .int .i64 ln, .bool pk, .bool v, .int .i64 i, .string tx] w fun e w' => e = .returned (.bool true) ∧ Grown w w' := by
  have g1 : ¬ (262144 : Int) < nm.size := by omega
  have g2 : ¬ (262144 : Int) < tn.size := by omega
  have g3 : ¬ (524288 : Int) < tx.size := by omega
  have g4 : ¬ a < 0 := by omega
  have g5 : ¬ 1073741824 < a := by omega
  have hI := hi
  have HI := hide hI
  clear hI
  have hv4 := vEnd_four a b v tx.size
  obtain ⟨hv0, hv1⟩ := vEnd_bd a b v tx.size ha0 (by omega) (by omega)
  go_enter Try.func3, Try.ntmps3
  go_wp2_with (first | (go_at_call 5; refine (bytes5_yes _ _ _ _ _ _ _ _ (by omega) _).mono ?_; rintro e w' ⟨rfl, rfl⟩) | (go_at_call 6; refine (column_any _ _ _ _ _).mono ?_; rintro e w' ⟨rfl, rfl⟩) | (go_at_call 7; refine (value_any _ _ _ _).mono ?_; rintro e w' ⟨rfl, rfl⟩) | (go_at_call 8; refine (callEnd _ (by omega) (by omega) _ _ _ (by omega) _ _ _ _ b HI.out _).mono ?_; rintro e w' ⟨rfl, n, rfl⟩) | (go_at_call 9; refine (is_any a ha0 (by omega) tx.size (by omega) b v _).mono ?_; rintro e w' ⟨rfl, rfl⟩))
  go_ret
  exact ⟨rfl, by repeat (first | with_reducible exact Grown.refl _ | with_reducible apply Grown.alloc | with_reducible apply Grown.drewN | with_reducible apply Grown.drew)⟩

set_option maxRecDepth 20000 in
set_option maxHeartbeats 1000000 in
theorem walk3 (a ln i : Int) (nm tn tx : ByteArray) (pk v : Bool) (h1 : nm.size ≤ maxLen) (h2 : tn.size ≤ maxLen) (h3 : tx.size ≤ maxLen) (w : World) :
    Calls Try.prog 3 #[.int .i64 a, .string nm, .string tn, .int .i64 ln, .bool pk, .bool v, .int .i64 i, .string tx] w fun e w' => e = .returned (.bool true) ∧ Grown w w' := by
  by_cases hs : (nm.size : Int) + tn.size + tx.size ≤ 1048576
  · by_cases g1 : (262144 : Int) < nm.size
    · clear h1 h2 h3
      go_enter Try.func3, Try.ntmps3
      go_wp2_with (go_at_call 5; refine (bytes5_yes _ _ _ _ _ _ _ _ hs _).mono ?_; rintro e w' ⟨rfl, rfl⟩)
      go_ret
      exact ⟨rfl, Grown.refl _⟩
    · by_cases g2 : (262144 : Int) < tn.size
      · clear h1 h2 h3
        go_enter Try.func3, Try.ntmps3
        go_wp2_with (go_at_call 5; refine (bytes5_yes _ _ _ _ _ _ _ _ hs _).mono ?_; rintro e w' ⟨rfl, rfl⟩)
        go_ret
        exact ⟨rfl, Grown.refl _⟩
      · by_cases g3 : (524288 : Int) < tx.size
        · clear h1 h2 h3
          go_enter Try.func3, Try.ntmps3
          go_wp2_with (go_at_call 5; refine (bytes5_yes _ _ _ _ _ _ _ _ hs _).mono ?_; rintro e w' ⟨rfl, rfl⟩)
          go_ret
          exact ⟨rfl, Grown.refl _⟩
        · by_cases g4 : a < 0
          · clear h1 h2 h3
            go_enter Try.func3, Try.ntmps3
            go_wp2_with (go_at_call 5; refine (bytes5_yes _ _ _ _ _ _ _ _ hs _).mono ?_; rintro e w' ⟨rfl, rfl⟩)
            go_ret
            exact ⟨rfl, Grown.refl _⟩
          · by_cases g5 : 1073741824 < a
            · clear h1 h2 h3
              go_enter Try.func3, Try.ntmps3
              go_wp2_with (go_at_call 5; refine (bytes5_yes _ _ _ _ _ _ _ _ hs _).mono ?_; rintro e w' ⟨rfl, rfl⟩)
              go_ret
              exact ⟨rfl, Grown.refl _⟩
            · exact walk3in a ln i nm tn tx pk v (by omega) (by omega) (by omega) (by omega) (by omega) _ rfl w
  · go_enter Try.func3, Try.ntmps3
    go_wp2_with (go_at_call 5; refine (bytes5_no _ _ _ _ _ _ _ _ h1 h2 h3 hs _).mono ?_; rintro e w' ⟨rfl, rfl⟩)
    go_ret
    exact ⟨rfl, Grown.refl _⟩
end Go.Proofs.Qxb6608807a
