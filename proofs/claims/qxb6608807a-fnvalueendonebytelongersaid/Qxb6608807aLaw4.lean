/-
  The main walks of FnValueEndOneByteLonger (4): a NULL, an integer, a text of 126 bytes, any other text.
-/
import Derived.Test.Qxb6608807aLaw3
import Derived.Test.Qxb6608807aBuf
import Derived.Deep.RegionWith
namespace Go.Proofs.Qxb6608807a
open Go.RowKit
set_option linter.unusedVariables false
attribute [local go_sem] lt2 lt3 lt4 lt5 lt6 lt7 lt8 lt9

set_option maxHeartbeats 1000000 in
theorem bytes10_yes (a ln i c : Int) (nm tn tx : ByteArray) (pk v : Bool) (h : (nm.size : Int) + tn.size + tx.size ≤ 1048576) (w : World) :
    Calls Try.prog 10 #[.int .i64 a, .string nm, .string tn, .int .i64 ln, .bool pk, .bool v, .int .i64 i, .string tx, .int .u8 c] w fun e w' => e = .returned (.bool true) ∧ w' = w := by
  go_enter Try.func10, Try.ntmps10
  go_wp2
  go_ret
  exact ⟨rfl, rfl⟩

set_option maxHeartbeats 1000000 in
theorem bytes10_no (a ln i c : Int) (nm tn tx : ByteArray) (pk v : Bool) (h1 : nm.size ≤ maxLen) (h2 : tn.size ≤ maxLen) (h3 : tx.size ≤ maxLen) (h : ¬ (nm.size : Int) + tn.size + tx.size ≤ 1048576) (w : World) :
    Calls Try.prog 10 #[.int .i64 a, .string nm, .string tn, .int .i64 ln, .bool pk, .bool v, .int .i64 i, .string tx, .int .u8 c] w fun e w' => e = .returned (.bool false) ∧ w' = w := by
  unfold maxLen at h1 h2 h3
  go_enter Try.func10, Try.ntmps10
  go_wp2
  all_goals
    go_ret
    exact ⟨rfl, rfl⟩

theorem is_r (a : Int) (h0 : 0 ≤ a) (h1 : a ≤ 1073741828) (n : Nat) (hn2 : n ≤ 1048576) (b v : Bool) (r : Int) (hr : vEnd a b v n = r) (w : World) :
    Calls Try.prog 9 #[.int .i64 a, .bool b, .bool v, .int .i64 n, .int .i64 r] w fun e w' => e = .returned (.bool true) ∧ w' = w := by
  subst hr
  exact is_any a h0 h1 n hn2 b v w

set_option maxRecDepth 20000 in
set_option maxHeartbeats 2000000 in
theorem walk4null (a ln i c : Int) (nm tn tx : ByteArray) (pk : Bool) (h1 : nm.size ≤ 262144) (h2 : tn.size ≤ 262144) (h3 : tx.size ≤ 524288) (ha0 : 0 ≤ a) (ha1 : a ≤ 1073741824) (b : Bool)
    (hi : (tn.toList == [105, 110, 116, 101, 103, 101, 114]) = b) (w : World) :
    Calls Try.prog 4 #[.int .i64 a, .string nm, .string tn, .int .i64 ln, .bool pk, .bool false, .int .i64 i, .string tx, .int .u8 c] w fun e w' => e = .returned (.bool true) ∧ Grown w w' := by
  have g1 : ¬ (262144 : Int) < nm.size := by omega
  have g2 : ¬ (262144 : Int) < tn.size := by omega
  have g3 : ¬ (524288 : Int) < tx.size := by omega
  have g4 : ¬ a < 0 := by omega
  have g5 : ¬ 1073741824 < a := by omega
  have HI := hide hi
  have hmk := make_buf tx.size (by omega)
  have hcp := fun ty => copy_buf tx ty w
  have hlgs : (strOfNums (nums2 tx c)).size = tx.size + 1 := by rw [strOfNums_size, nums2_length]
  have hcv := conv_buf tx c w
  obtain ⟨lg, hlg⟩ : ∃ lg, strOfNums (nums2 tx c) = lg := ⟨_, rfl⟩
  rw [hlg] at hcv hlgs
  clear hlg
  have hla := bytes1_last tx
  have hlt : (tx.size : Int) < ((tx.size + 1 : Nat) : Int) := by omega
  have HL := hide hlgs
  obtain ⟨r1, hr1⟩ : ∃ r1, vEnd a b false tx.size = r1 := ⟨_, rfl⟩
  have hr2 : vEnd a b false lg.size = r1 := by rw [← hr1]; rfl
  have HR := hide hr2
  clear hlgs
  go_enter Try.func4, Try.ntmps4
  go_wp2_with (first | (go_at_call 10; refine (bytes10_yes _ _ _ _ _ _ _ _ _ (by omega) _).mono ?_; rintro e w' ⟨rfl, hw⟩; subst hw) | (go_at_call 6; refine (column_any _ _ _ _ _).mono ?_; rintro e w' ⟨rfl, rfl⟩))
  clear hmk hcp hcv hla hlt
  go_region_with (first | (go_at_call 7; refine (value_any _ _ _ _).mono ?_; rintro e w' ⟨rfl, rfl⟩) | (go_at_call 8; refine (callEnd _ (by omega) (by omega) _ _ _ (by omega) _ _ _ _ b HI.out _).mono ?_; rintro e w' ⟨rfl, n, rfl⟩))
  all_goals
    go_wp2_with fail
    go_region_with (first | (go_at_call 7; refine (value_any _ _ _ _).mono ?_; rintro e w' ⟨rfl, rfl⟩) | (go_at_call 8; refine (callEnd _ (by omega) (by omega) _ _ _ (by have := HL.out; omega) _ _ _ _ b HI.out _).mono ?_; rintro e w' ⟨rfl, n, rfl⟩))
    all_goals
      go_wp2_with (go_at_call 9; refine (is_r a ha0 (by omega) lg.size (by have := HL.out; omega) b false _ HR.out _).mono ?_; rintro e w' ⟨rfl, rfl⟩)
      go_ret
      exact ⟨rfl, by repeat (first | with_reducible exact Grown.refl _ | with_reducible apply Grown.alloc | with_reducible apply Grown.drewN | with_reducible apply Grown.drew)⟩

set_option maxRecDepth 20000 in
set_option maxHeartbeats 2000000 in
theorem walk4int (a ln i c : Int) (nm tn tx : ByteArray) (pk : Bool) (h1 : nm.size ≤ 262144) (h2 : tn.size ≤ 262144) (h3 : tx.size ≤ 524288) (ha0 : 0 ≤ a) (ha1 : a ≤ 1073741824) 
    (hi : (tn.toList == [105, 110, 116, 101, 103, 101, 114]) = true) (w : World) :
    Calls Try.prog 4 #[.int .i64 a, .string nm, .string tn, .int .i64 ln, .bool pk, .bool true, .int .i64 i, .string tx, .int .u8 c] w fun e w' => e = .returned (.bool true) ∧ Grown w w' := by
  have g1 : ¬ (262144 : Int) < nm.size := by omega
  have g2 : ¬ (262144 : Int) < tn.size := by omega
  have g3 : ¬ (524288 : Int) < tx.size := by omega
  have g4 : ¬ a < 0 := by omega
  have g5 : ¬ 1073741824 < a := by omega
  have HI := hide hi
  have hmk := make_buf tx.size (by omega)
  have hcp := fun ty => copy_buf tx ty w
  have hlgs : (strOfNums (nums2 tx c)).size = tx.size + 1 := by rw [strOfNums_size, nums2_length]
  have hcv := conv_buf tx c w
  obtain ⟨lg, hlg⟩ : ∃ lg, strOfNums (nums2 tx c) = lg := ⟨_, rfl⟩
  rw [hlg] at hcv hlgs
  clear hlg
  have hla := bytes1_last tx
  have hlt : (tx.size : Int) < ((tx.size + 1 : Nat) : Int) := by omega
  have HL := hide hlgs
  obtain ⟨r1, hr1⟩ : ∃ r1, vEnd a true true tx.size = r1 := ⟨_, rfl⟩
  have hr2 : vEnd a true true lg.size = r1 := by rw [← hr1]; rfl
  have HR := hide hr2
  clear hlgs
  go_enter Try.func4, Try.ntmps4
  go_wp2_with (first | (go_at_call 10; refine (bytes10_yes _ _ _ _ _ _ _ _ _ (by omega) _).mono ?_; rintro e w' ⟨rfl, hw⟩; subst hw) | (go_at_call 6; refine (column_any _ _ _ _ _).mono ?_; rintro e w' ⟨rfl, rfl⟩))
  clear hmk hcp hcv hla hlt
  go_region_with (first | (go_at_call 7; refine (value_any _ _ _ _).mono ?_; rintro e w' ⟨rfl, rfl⟩) | (go_at_call 8; refine (callEnd _ (by omega) (by omega) _ _ _ (by omega) _ _ _ _ true HI.out _).mono ?_; rintro e w' ⟨rfl, n, rfl⟩))
  all_goals
    go_wp2_with fail
    go_region_with (first | (go_at_call 7; refine (value_any _ _ _ _).mono ?_; rintro e w' ⟨rfl, rfl⟩) | (go_at_call 8; refine (callEnd _ (by omega) (by omega) _ _ _ (by have := HL.out; omega) _ _ _ _ true HI.out _).mono ?_; rintro e w' ⟨rfl, n, rfl⟩))
    all_goals
      go_wp2_with (go_at_call 9; refine (is_r a ha0 (by omega) lg.size (by have := HL.out; omega) true true _ HR.out _).mono ?_; rintro e w' ⟨rfl, rfl⟩)
      go_ret
      exact ⟨rfl, by repeat (first | with_reducible exact Grown.refl _ | with_reducible apply Grown.alloc | with_reducible apply Grown.drewN | with_reducible apply Grown.drew)⟩

set_option maxRecDepth 20000 in
set_option maxHeartbeats 2000000 in
theorem walk4edge (a ln i c : Int) (nm tn tx : ByteArray) (pk : Bool) (h1 : nm.size ≤ 262144) (h2 : tn.size ≤ 262144) (h3 : tx.size ≤ 524288) (ha0 : 0 ≤ a) (ha1 : a ≤ 1073741824) (h126 : tx.size = 126)
    (hi : (tn.toList == [105, 110, 116, 101, 103, 101, 114]) = false) (w : World) :
    Calls Try.prog 4 #[.int .i64 a, .string nm, .string tn, .int .i64 ln, .bool pk, .bool true, .int .i64 i, .string tx, .int .u8 c] w fun e w' => e = .returned (.bool true) ∧ Grown w w' := by
  have g1 : ¬ (262144 : Int) < nm.size := by omega
  have g2 : ¬ (262144 : Int) < tn.size := by omega
  have g3 : ¬ (524288 : Int) < tx.size := by omega
  have g4 : ¬ a < 0 := by omega
  have g5 : ¬ 1073741824 < a := by omega
  have HI := hide hi
  have hmk := make_buf tx.size (by omega)
  have hcp := fun ty => copy_buf tx ty w
  have hlgs : (strOfNums (nums2 tx c)).size = tx.size + 1 := by rw [strOfNums_size, nums2_length]
  have hcv := conv_buf tx c w
  obtain ⟨lg, hlg⟩ : ∃ lg, strOfNums (nums2 tx c) = lg := ⟨_, rfl⟩
  rw [hlg] at hcv hlgs
  clear hlg
  have hla := bytes1_last tx
  have hlt : (tx.size : Int) < ((tx.size + 1 : Nat) : Int) := by omega
  have HL := hide hlgs
  obtain ⟨hl1, hl2, _⟩ := al4_facts a
  obtain ⟨r1, hr1⟩ : ∃ r1, vEnd a false true tx.size = r1 := ⟨_, rfl⟩
  obtain ⟨r2, hr2⟩ : ∃ r2, vEnd a false true lg.size = r2 := ⟨_, rfl⟩
  have HR := hide hr2
  have e1 : r1 = a + 1 + 126 := by rw [← hr1]; simp [vEnd, h126]
  have e2 : r2 = al4 a + 4 + 127 := by rw [← hr2]; simp [vEnd, hlgs, h126]
  have q1 : 4 ≤ r2 - r1 := by omega
  have q2 : r2 - r1 ≤ 7 := by omega
  have q3 : 0 ≤ r1 := by omega
  have q4 : r1 ≤ 2147483647 := by omega
  have q5 : ((tx.size : Int) == 126) = true := by rw [h126]; rfl
  clear e1 e2 hl1 hl2 h126
  clear hlgs
  go_enter Try.func4, Try.ntmps4
  go_wp2_with (first | (go_at_call 10; refine (bytes10_yes _ _ _ _ _ _ _ _ _ (by omega) _).mono ?_; rintro e w' ⟨rfl, hw⟩; subst hw) | (go_at_call 6; refine (column_any _ _ _ _ _).mono ?_; rintro e w' ⟨rfl, rfl⟩))
  clear hmk hcp hcv hla hlt
  go_region_with (first | (go_at_call 7; refine (value_any _ _ _ _).mono ?_; rintro e w' ⟨rfl, rfl⟩) | (go_at_call 8; refine (callEnd _ (by omega) (by omega) _ _ _ (by omega) _ _ _ _ false HI.out _).mono ?_; rintro e w' ⟨rfl, n, rfl⟩))
  all_goals
    go_wp2_with fail
    go_region_with (first | (go_at_call 7; refine (value_any _ _ _ _).mono ?_; rintro e w' ⟨rfl, rfl⟩) | (go_at_call 8; refine (callEnd _ (by omega) (by omega) _ _ _ (by have := HL.out; omega) _ _ _ _ false HI.out _).mono ?_; rintro e w' ⟨rfl, n, rfl⟩))
    all_goals
      go_wp2_with (go_at_call 9; refine (is_r a ha0 (by omega) lg.size (by have := HL.out; omega) false true _ HR.out _).mono ?_; rintro e w' ⟨rfl, rfl⟩)
      go_ret
      exact ⟨rfl, by repeat (first | with_reducible exact Grown.refl _ | with_reducible apply Grown.alloc | with_reducible apply Grown.drewN | with_reducible apply Grown.drew)⟩

set_option maxRecDepth 20000 in
set_option maxHeartbeats 2000000 in
theorem walk4text (a ln i c : Int) (nm tn tx : ByteArray) (pk : Bool) (h1 : nm.size ≤ 262144) (h2 : tn.size ≤ 262144) (h3 : tx.size ≤ 524288) (ha0 : 0 ≤ a) (ha1 : a ≤ 1073741824) (h126 : ¬ tx.size = 126)
    (hi : (tn.toList == [105, 110, 116, 101, 103, 101, 114]) = false) (w : World) :
    Calls Try.prog 4 #[.int .i64 a, .string nm, .string tn, .int .i64 ln, .bool pk, .bool true, .int .i64 i, .string tx, .int .u8 c] w fun e w' => e = .returned (.bool true) ∧ Grown w w' := by
  have g1 : ¬ (262144 : Int) < nm.size := by omega
  have g2 : ¬ (262144 : Int) < tn.size := by omega
  have g3 : ¬ (524288 : Int) < tx.size := by omega
  have g4 : ¬ a < 0 := by omega
  have g5 : ¬ 1073741824 < a := by omega
  have HI := hide hi
  have hmk := make_buf tx.size (by omega)
  have hcp := fun ty => copy_buf tx ty w
  have hlgs : (strOfNums (nums2 tx c)).size = tx.size + 1 := by rw [strOfNums_size, nums2_length]
  have hcv := conv_buf tx c w
  obtain ⟨lg, hlg⟩ : ∃ lg, strOfNums (nums2 tx c) = lg := ⟨_, rfl⟩
  rw [hlg] at hcv hlgs
  clear hlg
  have hla := bytes1_last tx
  have hlt : (tx.size : Int) < ((tx.size + 1 : Nat) : Int) := by omega
  have HL := hide hlgs
  obtain ⟨r1, hr1⟩ : ∃ r1, vEnd a false true tx.size = r1 := ⟨_, rfl⟩
  have hr2 : vEnd a false true lg.size = r1 + 1 := by
    rw [← hr1, hlgs]
    unfold vEnd
    simp only []
    by_cases hx : tx.size ≤ 126
    · rw [if_pos hx, if_pos (by omega)]; omega
    · rw [if_neg hx, if_neg (by omega)]; omega
  have HR := hide hr2
  obtain ⟨q3, q4⟩ := vEnd_bd a false true tx.size ha0 (by omega) (by omega)
  rw [hr1] at q3 q4
  have q5 : ((tx.size : Int) == 126) = false := by
    have : ¬ (tx.size : Int) = 126 := by omega
    simp [this]
  clear h126
  clear hlgs
  go_enter Try.func4, Try.ntmps4
  go_wp2_with (first | (go_at_call 10; refine (bytes10_yes _ _ _ _ _ _ _ _ _ (by omega) _).mono ?_; rintro e w' ⟨rfl, hw⟩; subst hw) | (go_at_call 6; refine (column_any _ _ _ _ _).mono ?_; rintro e w' ⟨rfl, rfl⟩))
  clear hmk hcp hcv hla hlt
  go_region_with (first | (go_at_call 7; refine (value_any _ _ _ _).mono ?_; rintro e w' ⟨rfl, rfl⟩) | (go_at_call 8; refine (callEnd _ (by omega) (by omega) _ _ _ (by omega) _ _ _ _ false HI.out _).mono ?_; rintro e w' ⟨rfl, n, rfl⟩))
  all_goals
    go_wp2_with fail
    go_region_with (first | (go_at_call 7; refine (value_any _ _ _ _).mono ?_; rintro e w' ⟨rfl, rfl⟩) | (go_at_call 8; refine (callEnd _ (by omega) (by omega) _ _ _ (by have := HL.out; omega) _ _ _ _ false HI.out _).mono ?_; rintro e w' ⟨rfl, n, rfl⟩))
    all_goals
      go_wp2_with (go_at_call 9; refine (is_r a ha0 (by omega) lg.size (by have := HL.out; omega) false true _ HR.out _).mono ?_; rintro e w' ⟨rfl, rfl⟩)
      go_ret
      exact ⟨rfl, by repeat (first | with_reducible exact Grown.refl _ | with_reducible apply Grown.alloc | with_reducible apply Grown.drewN | with_reducible apply Grown.drew)⟩

end Go.Proofs.Qxb6608807a
