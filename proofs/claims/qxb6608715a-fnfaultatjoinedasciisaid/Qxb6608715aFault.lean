/-
  The walks of the fault functions: one-byte ASCII (23, 30, 22, 24, 21) and FnFaultAtJoinedASCII (7).
-/
import Derived.Test.Qxb6608715aRows
import Derived.Test.Qxb6608715aPlain
import Derived.WalkKit
import Derived.ProofKit
import Derived.WalkSpells
namespace Go.Proofs.Qxb6608715a
open Go.RowKit
set_option linter.unusedVariables false

theorem fhide {p : Prop} (h : p) : Hid p := h
theorem ftake_snoc (s : ByteArray) (k : Nat) (h : k < s.size) : s.data.toList.take (k + 1) = s.data.toList.take k ++ [s[k]] := by
  rw [List.take_succ_eq_append_getElem (by simpa using h)]; rfl
theorem ftake_drop (s : ByteArray) (k : Nat) (h : k < s.size) : s.data.toList = s.data.toList.take k ++ s[k] :: s.data.toList.drop (k + 1) := by
  have e : s.data.toList.drop k = s[k] :: s.data.toList.drop (k + 1) := List.drop_eq_getElem_cons (by simpa using h)
  rw [← e, List.take_append_drop]
theorem ext_get (s : ByteArray) (k i : Nat) (h : k + i < s.size) (h' : i < (s.extract k s.size).size) : (s.extract k s.size)[i] = s[k + i] := by
  simp [ByteArray.getElem_extract]

set_option maxRecDepth 20000 in
set_option maxHeartbeats 400000 in
theorem ascii_low (s : ByteArray) (k : Nat) (hs : s.size ≤ maxLen) (hk : k < s.size) (hl : s[k] < 128) (w : World) :
    Calls Try.prog 23 #[.string (s.extract k s.size)] w fun e w' => e = .returned (.int .i64 1) ∧ w' = w := by
  unfold maxLen at hs
  have h0 : 0 < s.size - k := by omega
  have hl' : ((s.extract k s.size)[0]'(by simp; omega)).toNat < 128 := by
    rw [ext_get s k 0 (by omega)]; simpa [UInt8.lt_iff_toNat_lt] using hl
  have hl2 : (((s.extract k s.size)[0]'(by simp; omega)).toNat : Int) < 128 := by omega
  clear hl hl'
  go_enter Try.func23, Try.ntmps23
  go_wp2
  go_ret
  exact ⟨rfl, rfl⟩
set_option maxRecDepth 20000 in
set_option maxHeartbeats 400000 in
theorem ascii_high (s : ByteArray) (k : Nat) (hs : s.size ≤ maxLen) (hk : k < s.size) (hl : ¬ s[k] < 128) (w : World) :
    Calls Try.prog 23 #[.string (s.extract k s.size)] w fun e w' => e = .returned (.int .i64 0) ∧ w' = w := by
  unfold maxLen at hs
  have h0 : 0 < s.size - k := by omega
  have hl' : ¬ ((s.extract k s.size)[0]'(by simp; omega)).toNat < 128 := by
    rw [ext_get s k 0 (by omega)]; simpa [UInt8.lt_iff_toNat_lt] using hl
  have hl2 : ¬ (((s.extract k s.size)[0]'(by simp; omega)).toNat : Int) < 128 := by omega
  clear hl hl'
  go_enter Try.func23, Try.ntmps23
  go_wp2
  go_ret
  exact ⟨rfl, rfl⟩

set_option maxRecDepth 20000 in
set_option maxHeartbeats 400000 in
theorem faultA_any (s : ByteArray) (hs : s.size ≤ maxLen) (w : World) :
    Calls Try.prog 30 #[.string s, .func (.func 23) #[] #[]] w fun e w' => e = .returned (.int .i64 (fh s.data.toList)) ∧ w' = w := by
  have hs0 := hs
  unfold maxLen at hs
  go_enter Try.func30, Try.ntmps30
  go_wp2_with fail
  go_loop [5, 6] (fun i _ => ∃ k : Nat, k ≤ s.size ∧ i = .int .i64 k ∧ fh (s.data.toList.take k) = (s.data.toList.take k).length) (fun i _ => s.size - (intOf i).toNat)
  case atStart => exact ⟨0, Nat.zero_le _, rfl, rfl⟩
  case round =>
    obtain ⟨k, hk, rfl, hf⟩ := hrel
    have HF := fhide hf
    clear hf
    by_cases hlt : k < s.size
    · by_cases hl : s[k] < 128
      · have HN : Hid (fh (s.data.toList.take (k + 1)) = (s.data.toList.take (k + 1)).length) := by
          show _ = _
          rw [ftake_snoc s k hlt]; exact fh_more _ _ HF.out hl
        have HL := fhide hl
        have HS := fhide hs0
        clear hl hs0
        go_wp2_with (go_at_call 23; refine (ascii_low s k HS.out hlt HL.out _).mono ?_; rintro e w' ⟨rfl, rfl⟩)
        go_round
        case rel => exact ⟨k + 1, by omega, by go_num, HN.out⟩
        case measure => simp [intOf]; omega
      · have HN : Hid (fh s.data.toList = k) := by
          show _ = _
          rw [ftake_drop s k hlt, fh_stop _ _ _ HF.out hl]; simp; omega
        have HL := fhide hl
        have HS := fhide hs0
        clear hl hs0
        go_wp2_with (go_at_call 23; refine (ascii_high s k HS.out hlt HL.out _).mono ?_; rintro e w' ⟨rfl, rfl⟩)
        go_ret
        rw [HN.out]
        exact ⟨rfl, rfl⟩
    · have HN : Hid (fh s.data.toList = k) := by
        show _ = _
        have h := HF.out
        rw [List.take_of_length_le (by simp; omega)] at h
        rw [h]; simp; omega
      go_wp2_with fail
      go_ret
      rw [HN.out]
      exact ⟨rfl, rfl⟩

set_option maxHeartbeats 400000 in
theorem callFaultA (s : ByteArray) (hs : s.size ≤ maxLen) (w : World) :
    Calls Try.prog 22 #[.string s, .func (.func 23) #[] #[]] w fun e w' => e = .returned (.int .i64 (fh s.data.toList)) ∧ w' = w := by
  go_enter Try.func22, Try.ntmps22
  go_wp2_with (go_at_call 30; refine (faultA_any s hs _).mono ?_; rintro e w' ⟨rfl, rfl⟩)
  go_ret
  exact ⟨rfl, rfl⟩

set_option maxRecDepth 20000 in
set_option maxHeartbeats 400000 in
theorem firstHigh_any (s : ByteArray) (hs : s.size ≤ maxLen) (w : World) :
    Calls Try.prog 24 #[.string s] w fun e w' => e = .returned (.int .i64 (fh s.data.toList)) ∧ w' = w := by
  unfold maxLen at hs
  go_enter Try.func24, Try.ntmps24
  go_wp2_with fail
  go_loop [3] (fun i => ∃ k : Nat, k ≤ s.size ∧ i = .int .i64 k ∧ fh (s.data.toList.take k) = (s.data.toList.take k).length) (fun i => s.size - (intOf i).toNat)
  case atStart => exact ⟨0, Nat.zero_le _, rfl, rfl⟩
  case round =>
    obtain ⟨k, hk, rfl, hf⟩ := hrel
    have HF := fhide hf
    clear hf
    by_cases hlt : k < s.size
    · by_cases hl : s[k] < 128
      · have HN : Hid (fh (s.data.toList.take (k + 1)) = (s.data.toList.take (k + 1)).length) := by
          show _ = _
          rw [ftake_snoc s k hlt]; exact fh_more _ _ HF.out hl
        have hl' : ¬ (128 : Int) ≤ (s[k].toNat : Int) := by
          have : s[k].toNat < 128 := by simpa [UInt8.lt_iff_toNat_lt] using hl
          omega
        clear hl
        go_wp2
        go_round
        case rel => exact ⟨k + 1, by omega, by go_num, HN.out⟩
        case measure => simp [intOf]; omega
      · have HN : Hid (fh s.data.toList = k) := by
          show _ = _
          rw [ftake_drop s k hlt, fh_stop _ _ _ HF.out hl]; simp; omega
        have hl' : (128 : Int) ≤ (s[k].toNat : Int) := by
          have : ¬ s[k].toNat < 128 := by simpa [UInt8.lt_iff_toNat_lt] using hl
          omega
        clear hl
        go_wp2
        go_ret
        rw [HN.out]
        exact ⟨rfl, rfl⟩
    · have HN : Hid (fh s.data.toList = s.size) := by
        show _ = _
        have h := HF.out
        rw [List.take_of_length_le (by simp; omega)] at h
        rw [h]; simp
      go_wp2
      go_ret
      rw [HN.out]
      exact ⟨rfl, rfl⟩

set_option maxHeartbeats 400000 in
theorem bytes21 (a b : ByteArray) (ha : a.size ≤ maxLen) (hb : b.size ≤ maxLen) (w : World) :
    Calls Try.prog 21 #[.string a, .string b] w fun e w' => e = .returned (.bool (decide (a.size + b.size ≤ 1048576))) ∧ w' = w := by
  unfold maxLen at ha hb
  by_cases h1 : (1048576 : Int) < (a.size : Int)
  · have e : decide (a.size + b.size ≤ 1048576) = false := by simp; omega
    rw [e]
    go_enter Try.func21, Try.ntmps21
    go_wp2
    go_ret
    exact ⟨rfl, rfl⟩
  · by_cases h2 : (1048576 : Int) < (a.size : Int) + (b.size : Int)
    · have e : decide (a.size + b.size ≤ 1048576) = false := by simp; omega
      rw [e]
      go_enter Try.func21, Try.ntmps21
      go_wp2
      all_goals
        go_ret
        exact ⟨rfl, rfl⟩
    · have e : decide (a.size + b.size ≤ 1048576) = true := by simp; omega
      rw [e]
      go_enter Try.func21, Try.ntmps21
      go_wp2
      go_ret
      exact ⟨rfl, rfl⟩

set_option maxRecDepth 20000 in
set_option maxHeartbeats 400000 in
theorem walk7in (a b : ByteArray) (hle : a.size + b.size ≤ 1048576) (w : World) :
    Calls Try.prog 7 #[.string a, .string b] w fun e w' => e = .returned (.bool true) ∧ w' = w := by
  have hd : decide (a.size + b.size ≤ 1048576) = true := by simpa using hle
  have h1 : (a.size : Int) + b.size ≤ 1048576 := by omega
  have h2 : ¬ (1048576 : Int) < a.size := by omega
  have h3 : ¬ (1048576 : Int) - a.size < b.size := by omega
  have la : fh a.data.toList ≤ a.size := by have := fh_le a.data.toList; simpa using this
  have lb : fh b.data.toList ≤ b.size := by have := fh_le b.data.toList; simpa using this
  have happ := fh_append a.data.toList b.data.toList
  have hal : a.data.toList.length = a.size := by simp
  rw [hal] at happ
  have HA := fhide happ
  clear happ hal hle
  by_cases hf : fh a.data.toList < a.size
  · have hap := HA.out
    rw [if_pos hf] at hap
    go_enter Try.func7, Try.ntmps7
    go_wp2_with (first | (go_at_call 21; refine (bytes21 _ _ (by unfold maxLen; omega) (by unfold maxLen; omega) _).mono ?_; rintro e w' ⟨rfl, rfl⟩) | (go_at_call 22; refine (callFaultA _ (by unfold maxLen; (try simp only [ByteArray.size_append]); omega) _).mono ?_; rintro e w' ⟨rfl, rfl⟩) | (go_at_call 24; refine (firstHigh_any _ (by unfold maxLen; omega) _).mono ?_; rintro e w' ⟨rfl, rfl⟩))
    go_ret
    exact ⟨rfl, rfl⟩
  · have hap := HA.out
    rw [if_neg hf] at hap
    have hf' : ¬ (fh a.data.toList : Int) < a.size := by omega
    go_enter Try.func7, Try.ntmps7
    go_wp2_with (first | (go_at_call 21; refine (bytes21 _ _ (by unfold maxLen; omega) (by unfold maxLen; omega) _).mono ?_; rintro e w' ⟨rfl, rfl⟩) | (go_at_call 22; refine (callFaultA _ (by unfold maxLen; (try simp only [ByteArray.size_append]); omega) _).mono ?_; rintro e w' ⟨rfl, rfl⟩) | (go_at_call 24; refine (firstHigh_any _ (by unfold maxLen; omega) _).mono ?_; rintro e w' ⟨rfl, rfl⟩))
    go_ret
    exact ⟨rfl, rfl⟩

set_option maxHeartbeats 400000 in
theorem walk7 (a b : ByteArray) (ha : a.size ≤ maxLen) (hb : b.size ≤ maxLen) (w : World) :
    Calls Try.prog 7 #[.string a, .string b] w fun e w' => e = .returned (.bool true) ∧ w' = w := by
  by_cases hle : a.size + b.size ≤ 1048576
  · exact walk7in a b hle w
  · have hd : decide (a.size + b.size ≤ 1048576) = false := by simpa using hle
    go_enter Try.func7, Try.ntmps7
    go_wp2_with (go_at_call 21; refine (bytes21 _ _ ha hb _).mono ?_; rintro e w' ⟨rfl, rfl⟩)
    go_ret
    exact ⟨rfl, rfl⟩
end Go.Proofs.Qxb6608715a
