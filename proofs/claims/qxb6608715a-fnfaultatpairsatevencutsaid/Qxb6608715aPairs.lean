/-
  The walks of the pair encoding: zzPairWidth (26), faultAt with it (30, 22), zzPairsEndAt (27), the bound (25) and FnFaultAtPairsAtEvenCut (8).
-/
import Derived.Test.Qxb6608715aRows
import Derived.Test.Qxb6608715aPlain
import Derived.WalkKit
import Derived.ProofKit
import Derived.WalkSpells
import Derived.Deep.QuietTactic
import Derived.BigQuiet
namespace Go.Proofs.Qxb6608715a
open Go.RowKit
set_option linter.unusedVariables false

theorem phide {p : Prop} (h : p) : Hid p := h

set_option maxRecDepth 20000 in
set_option maxHeartbeats 400000 in
theorem pair_short (t : ByteArray) (ht : t.size < 2) (w : World) :
    Calls Try.prog 26 #[.string t] w fun e w' => e = .returned (.int .i64 0) ∧ ∃ n, w' = w.drewN n := by
  have h0 : decide ((2 : Int) ≤ (t.size : Int)) = false := by simp; omega
  clear ht
  go_enter Try.func26, Try.ntmps26
  go_wp2_with fail
  go_quiet (fail)
  go_wp2_with fail
  go_ret
  exact ⟨rfl, nq, rfl⟩

set_option maxRecDepth 20000 in
set_option maxHeartbeats 400000 in
theorem pair_long (t : ByteArray) (ht : 2 ≤ t.size) (b : Bool) (hb : (t[0] == t[1]) = b) (w : World) :
    Calls Try.prog 26 #[.string t] w fun e w' => e = .returned (.int .i64 (if b then 2 else 0)) ∧ ∃ n, w' = w.drewN n := by
  have h0 : (2 : Int) ≤ (t.size : Int) := by omega
  have h1 : (0 : Int) < (t.size : Int) := by omega
  have h2 : (1 : Int) < (t.size : Int) := by omega
  have h3 : ((t[0].toNat : Int) == (t[1].toNat : Int)) = b := by
    rw [← hb, Bool.eq_iff_iff]
    constructor
    · intro h
      have h' : t[0].toNat = t[1].toNat := by have := of_decide_eq_true h; omega
      simp [UInt8.toNat_inj.1 h']
    · intro h
      have h' : t[0] = t[1] := by simpa using h
      simp [h']
  have h4 : 0 < t.size := by omega
  have h5 : 1 < t.size := by omega
  clear hb
  go_enter Try.func26, Try.ntmps26
  go_wp2_with fail
  have H3 := phide h3
  clear h3
  go_quiet (fail)
  have h3 := H3.out
  clear H3
  cases b
  · go_wp2_with fail
    go_ret
    exact ⟨rfl, nq, rfl⟩
  · go_wp2_with fail
    go_ret
    exact ⟨rfl, nq, rfl⟩

theorem pext_get (s : ByteArray) (k i : Nat) (h : k + i < s.size) (h' : i < (s.extract k s.size).size) : (s.extract k s.size)[i] = s[k + i] := by
  simp [ByteArray.getElem_extract]

theorem pairP_short (s : ByteArray) (k : Nat) (h : ¬ k + 1 < s.size) (w : World) :
    Calls Try.prog 26 #[.string (s.extract k s.size)] w fun e w' => e = .returned (.int .i64 0) ∧ ∃ n, w' = w.drewN n :=
  pair_short _ (by simp; omega) w
theorem pairP_long (s : ByteArray) (k : Nat) (h : k + 1 < s.size) (b : Bool) (hb : (s[k] == s[k + 1]) = b) (w : World) :
    Calls Try.prog 26 #[.string (s.extract k s.size)] w fun e w' => e = .returned (.int .i64 (if b then 2 else 0)) ∧ ∃ n, w' = w.drewN n :=
  pair_long _ (by simp; omega) b (by rw [pext_get s k 0 (by omega), pext_get s k 1 (by omega)]; exact hb) w

theorem ptake2 (s : ByteArray) (k : Nat) (h : k + 1 < s.size) : s.data.toList.take (k + 2) = s.data.toList.take k ++ [s[k], s[k + 1]] := by
  have e1 : s.data.toList.take (k + 1 + 1) = s.data.toList.take (k + 1) ++ [s[k + 1]] := by
    rw [List.take_succ_eq_append_getElem (by simpa using h)]; rfl
  have e2 : s.data.toList.take (k + 1) = s.data.toList.take k ++ [s[k]] := by
    rw [List.take_succ_eq_append_getElem (by simp; omega)]; rfl
  rw [e1, e2]; simp
theorem pdrop2 (s : ByteArray) (k : Nat) (h : k + 1 < s.size) : s.data.toList.drop k = s[k] :: s[k + 1] :: s.data.toList.drop (k + 2) := by
  have e1 : s.data.toList.drop k = s[k] :: s.data.toList.drop (k + 1) := List.drop_eq_getElem_cons (by simp; omega)
  have e2 : s.data.toList.drop (k + 1) = s[k + 1] :: s.data.toList.drop (k + 1 + 1) := List.drop_eq_getElem_cons (by simpa using h)
  rw [e1, e2]
theorem pf_one {l : List UInt8} (h : l.length < 2) : pf l = 0 := by
  match l with
  | [] => rfl
  | [_] => rfl
  | _ :: _ :: _ => simp at h; omega
/-- The run ends at k: the pairs below k are doubled, and none stands at k. -/
theorem pf_at (s : ByteArray) (k : Nat) (hk : k ≤ s.size) (h : pf (s.data.toList.take k) = (s.data.toList.take k).length) (hd : pf (s.data.toList.drop k) = 0) : pf s.data.toList = k := by
  have := pf_stop (s.data.toList.take k) (s.data.toList.drop k) h hd
  rw [List.take_append_drop] at this
  rw [this]; simp; omega

set_option maxRecDepth 20000 in
set_option maxHeartbeats 400000 in
theorem faultP_any (s : ByteArray) (hs : s.size ≤ maxLen) (w : World) :
    Calls Try.prog 30 #[.string s, .func (.func 26) #[] #[]] w fun e w' => e = .returned (.int .i64 (pf s.data.toList)) ∧ ∃ n, w' = w.drewN n := by
  unfold maxLen at hs
  go_enter Try.func30, Try.ntmps30
  go_wp2_with fail
  go_loopw [5, 6] (fun i _ wr => ∃ k : Nat, k ≤ s.size ∧ i = .int .i64 k ∧ pf (s.data.toList.take k) = (s.data.toList.take k).length ∧ ∃ n, wr = w.drewN n) (fun i _ _ => s.size - (intOf i).toNat)
  case atStart => exact ⟨0, Nat.zero_le _, rfl, rfl, 0, rfl⟩
  case round =>
    obtain ⟨k, hk, rfl, hf, n, rfl⟩ := hrel
    have HF := phide hf
    clear hf
    by_cases hlt : k < s.size
    · by_cases h2 : k + 1 < s.size
      · cases hb : (s[k] == s[k + 1])
        · have HN : Hid (pf s.data.toList = k) := by
            have hne : ¬ s[k] = s[k + 1] := by simpa using hb
            exact pf_at s k hk HF.out (by rw [pdrop2 s k h2]; exact pf_not hne)
          have HB := phide hb
          clear hb
          go_wp2_with (go_at_call 26; refine (pairP_long s k h2 false HB.out _).mono ?_; rintro e w' ⟨rfl, m, rfl⟩)
          go_ret
          rw [HN.out]
          exact ⟨rfl, n + m, by first | rfl | exact World.drewN_drewN _ _ _⟩
        · have HN : Hid (pf (s.data.toList.take (k + 2)) = (s.data.toList.take (k + 2)).length) := by
            have he : s[k] = s[k + 1] := by simpa using hb
            show _ = _
            rw [ptake2 s k h2, he]; exact pf_more _ _ HF.out
          have HB := phide hb
          clear hb
          go_wp2_with (go_at_call 26; refine (pairP_long s k h2 true HB.out _).mono ?_; rintro e w' ⟨rfl, m, rfl⟩)
          go_roundw
          case rel => exact ⟨k + 2, by omega, by go_num, HN.out, n + m, by first | rfl | exact World.drewN_drewN _ _ _⟩
          case measure => simp [intOf]; omega
      · have HN : Hid (pf s.data.toList = k) := pf_at s k hk HF.out (pf_one (by simp; omega))
        have H2 := phide h2
        clear h2
        go_wp2_with (go_at_call 26; refine (pairP_short s k H2.out _).mono ?_; rintro e w' ⟨rfl, m, rfl⟩)
        go_ret
        rw [HN.out]
        exact ⟨rfl, n + m, by first | rfl | exact World.drewN_drewN _ _ _⟩
    · have HN : Hid (pf s.data.toList = k) := by
        have hd : s.data.toList.drop k = [] := List.drop_eq_nil_of_le (by simp; omega)
        exact pf_at s k hk HF.out (by rw [hd]; rfl)
      go_wp2_with fail
      go_ret
      rw [HN.out]
      exact ⟨rfl, n, rfl⟩

set_option maxHeartbeats 400000 in
theorem callFaultP (s : ByteArray) (hs : s.size ≤ maxLen) (w : World) :
    Calls Try.prog 22 #[.string s, .func (.func 26) #[] #[]] w fun e w' => e = .returned (.int .i64 (pf s.data.toList)) ∧ ∃ n, w' = w.drewN n := by
  go_enter Try.func22, Try.ntmps22
  go_wp2_with (go_at_call 30; refine (faultP_any s hs _).mono ?_; rintro e w' ⟨rfl, n, rfl⟩)
  go_ret
  exact ⟨rfl, n, rfl⟩

theorem wrap_succ (j : Nat) (h : j ≤ 1048576) : IntKind.i64.wrap ((j : Int) + 1) = (j : Int) + 1 := by
  rw [IntKind.wrap_i64]; omega
theorem nat_succ (j : Nat) : ((j : Int) + 1).toNat = j + 1 := by omega
theorem ret_bool {a b : Bool} (h : a = b) : Ending.returned (.bool a) = .returned (.bool b) := by rw [h]
theorem pget {s : ByteArray} {j : Nat} (h : j < s.size) : s.data.toList[j]? = some s[j] := by
  rw [List.getElem?_eq_getElem (by simpa using h)]; rfl

set_option maxRecDepth 20000 in
set_option maxHeartbeats 400000 in
theorem endAt_any (s : ByteArray) (hs : s.size ≤ 1048576) (f : Nat) (hf : f = pf s.data.toList) (w : World) :
    Calls Try.prog 27 #[.string s, .int .i64 f] w fun e w' => e = .returned (.bool true) ∧ ∃ n, w' = w.drewN n := by
  have hle : f ≤ s.size := by rw [hf]; have := pf_le s.data.toList; simpa using this
  have hev : f % 2 = 0 := by rw [hf]; exact pf_even _
  have HP : Hid (∀ j, j % 2 = 0 → j < f → (h0 : j < s.size) → (h1 : j + 1 < s.size) → s[j] = s[j + 1]) := fun j he hj h0 h1 => by
    have := pf_pairs s.data.toList j he (by omega)
    rw [pget (by omega), pget h1] at this
    simpa using this
  have HE : Hid ((h0 : f < s.size) → (h : f + 1 < s.size) → ¬ s[f] = s[f + 1]) := fun h0 h => by
    have := pf_end s.data.toList (by rw [← hf]; simpa using h)
    rw [← hf, pget (by omega), pget h] at this
    simpa using this
  clear hf
  have h1 : ¬ (f : Int) < 0 := by omega
  have h2 : ¬ (s.size : Int) < f := by omega
  have h3 : ((f : Int) % 2 != 0) = false := by
    have : (f : Int) % 2 = 0 := by omega
    simp [this]
  go_enter Try.func27, Try.ntmps27
  go_wp2_with fail
  go_loopw [5] (fun i wr => ∃ j : Nat, j ≤ f ∧ j % 2 = 0 ∧ i = .int .i64 j ∧ ∃ n, wr = w.drewN n) (fun i _ => f - (intOf i).toNat)
  case atStart => exact ⟨0, Nat.zero_le _, rfl, rfl, 0, rfl⟩
  case round =>
    obtain ⟨j, hj, hje, rfl, n, rfl⟩ := hrel
    by_cases hlt : j < f
    · have hj1 : j < s.size := by omega
      have hj2 : j + 1 < s.size := by omega
      have hj3 : (j : Int) < s.size := by omega
      have hj4 : (j : Int) + 1 < s.size := by omega
      have hj5 := wrap_succ j (by omega)
      have hj6 := nat_succ j
      have hj7 : (0 : Int) ≤ (j : Int) + 1 := by omega
      have HQ : Hid (((s[j].toNat : Int) != (s[j + 1].toNat : Int)) = false) := by
        show _ = _
        rw [HP.out j hje hlt hj1 hj2]; simp
      go_wp2_with fail
      go_quiet (fail)
      have hq := HQ.out
      go_wp2_with fail
      go_roundw
      case rel => exact ⟨j + 2, by omega, by omega, by go_num, n + nq, by first | rfl | exact World.drewN_drewN _ _ _⟩
      case measure => simp [intOf]; omega
    · have ej : j = f := by omega
      subst ej
      by_cases hend : j + 1 < s.size
      · have hg : decide ((s.size : Int) ≤ (j : Int) + 1) = false := by simp; omega
        have hj1 : j < s.size := by omega
        have hj3 : (j : Int) < s.size := by omega
        have hj4 : (j : Int) + 1 < s.size := by omega
        have hj5 := wrap_succ j (by omega)
        have hj6 := nat_succ j
        have hj7 : (0 : Int) ≤ (j : Int) + 1 := by omega
        have HQ : Hid (((s[j].toNat : Int) != (s[j + 1].toNat : Int)) = true) := by
          have h := HE.out hj1 hend
          show _ = _
          have h' : ¬ s[j].toNat = s[j + 1].toNat := fun e => h (UInt8.toNat_inj.1 e)
          simp; omega
        go_wp2_with fail
        go_quiet (fail)
        have hq := HQ.out
        go_wp2_with fail
        go_ret
        exact ⟨ret_bool hq, n + nq, by first | rfl | exact World.drewN_drewN _ _ _⟩
      · have hg : (s.size : Int) ≤ (j : Int) + 1 := by omega
        have hj5 := wrap_succ j (by omega)
        go_wp2_with fail
        go_quiet (fail)
        go_wp2_with fail
        go_ret
        exact ⟨rfl, n + nq, by first | rfl | exact World.drewN_drewN _ _ _⟩

theorem endAt_int (s : ByteArray) (hs : s.size ≤ 1048576) (f : Int) (hf : f = (pf s.data.toList : Int)) (w : World) :
    Calls Try.prog 27 #[.string s, .int .i64 f] w fun e w' => e = .returned (.bool true) ∧ ∃ n, w' = w.drewN n := by
  rw [hf]
  exact endAt_any s hs _ rfl w

set_option maxHeartbeats 400000 in
theorem bytes25 (a : ByteArray) (k : Int) (ha : a.size ≤ maxLen) (w : World) :
    Calls Try.prog 25 #[.string a, .int .i64 k] w fun e w' => e = .returned (.bool (decide (a.size ≤ 1048576))) ∧ w' = w := by
  unfold maxLen at ha
  by_cases h1 : (1048576 : Int) < (a.size : Int)
  · have e : decide (a.size ≤ 1048576) = false := by simp; omega
    rw [e]
    go_enter Try.func25, Try.ntmps25
    go_wp2
    go_ret
    exact ⟨rfl, rfl⟩
  · have e : decide (a.size ≤ 1048576) = true := by simp; omega
    rw [e]
    go_enter Try.func25, Try.ntmps25
    go_wp2
    go_ret
    exact ⟨rfl, rfl⟩

set_option maxRecDepth 20000 in
set_option maxHeartbeats 400000 in
theorem walk8in (s : ByteArray) (k : Nat) (hle : s.size ≤ 1048576) (hk : k ≤ s.size) (he : k % 2 = 0) (w : World) :
    Calls Try.prog 8 #[.string s, .int .i64 k] w fun e w' => e = .returned (.bool true) ∧ ∃ n, w' = w.drewN n := by
  have hd : decide (s.size ≤ 1048576) = true := by simpa using hle
  have h1 : ¬ (k : Int) < 0 := by omega
  have h2 : ¬ (s.size : Int) < k := by omega
  have h3 : ((k : Int) % 2 != 0) = false := by
    have : (k : Int) % 2 = 0 := by omega
    simp [this]
  have h4 : ¬ (1048576 : Int) < s.size := by omega
  have hkl : (s.data.toList.take k).length = k := by simp; omega
  have hap := pf_append (s.data.toList.take k) (s.data.toList.drop k) (by rw [hkl]; exact he)
  rw [List.take_append_drop, hkl] at hap
  have hdr : s.data.toList.drop k = List.take (s.size - k) (List.drop k s.data.toList) := by
    rw [List.take_of_length_le (by simp)]
  rw [hdr] at hap
  have hfl0 := pf_le (s.data.toList.take k)
  rw [hkl] at hfl0
  have hfr0 := pf_le (List.take (s.size - k) (List.drop k s.data.toList))
  have hfr1 : (List.take (s.size - k) (List.drop k s.data.toList)).length ≤ s.size - k := by simp
  clear hdr hkl
  obtain ⟨fl, hfl⟩ : ∃ fl, pf (s.data.toList.take k) = fl := ⟨_, rfl⟩
  obtain ⟨fr, hfr⟩ : ∃ fr, pf (List.take (s.size - k) (List.drop k s.data.toList)) = fr := ⟨_, rfl⟩
  rw [hfl] at hap hfl0
  rw [hfr] at hap hfr0
  have hfr2 : fr ≤ s.size - k := by omega
  clear hfr0 hfr1
  by_cases hlt : fl < k
  · rw [if_pos hlt] at hap
    have HF := phide hap
    have hlt' : (fl : Int) < k := by omega
    go_enter Try.func8, Try.ntmps8
    go_wp2_with (first | (go_at_call 25; refine (bytes25 _ _ (by unfold maxLen; omega) _).mono ?_; rintro e w' ⟨rfl, rfl⟩) | (go_at_call 22; refine (callFaultP _ (by unfold maxLen; (try simp only [ByteArray.size_extract]); omega) _).mono ?_; rintro e w' ⟨rfl, n, rfl⟩) | (go_at_call 27; refine (endAt_int s (by omega) _ (by rw [HF.out]) _).mono ?_; rintro e w' ⟨rfl, n, rfl⟩))
    go_ret
    exact ⟨rfl, _, rfl⟩
  · rw [if_neg hlt] at hap
    have HF := phide hap
    have hlt' : ¬ (fl : Int) < k := by omega
    have hb : (k : Int) + fr ≤ s.size := by omega
    go_enter Try.func8, Try.ntmps8
    go_wp2_with (first | (go_at_call 25; refine (bytes25 _ _ (by unfold maxLen; omega) _).mono ?_; rintro e w' ⟨rfl, rfl⟩) | (go_at_call 22; refine (callFaultP _ (by unfold maxLen; (try simp only [ByteArray.size_extract]); omega) _).mono ?_; rintro e w' ⟨rfl, n, rfl⟩) | (go_at_call 27; refine (endAt_int s (by omega) _ (by rw [HF.out]; omega) _).mono ?_; rintro e w' ⟨rfl, n, rfl⟩))
    go_ret
    exact ⟨rfl, _, rfl⟩

set_option maxRecDepth 20000 in
set_option maxHeartbeats 400000 in
theorem walk8 (s : ByteArray) (k : Int) (hs : s.size ≤ maxLen) (w : World) :
    Calls Try.prog 8 #[.string s, .int .i64 k] w fun e w' => e = .returned (.bool true) ∧ ∃ n, w' = w.drewN n := by
  by_cases hle : s.size ≤ 1048576
  · by_cases h1 : k < 0
    · have hd : decide (s.size ≤ 1048576) = true := by simpa using hle
      have h4 : ¬ (1048576 : Int) < s.size := by omega
      go_enter Try.func8, Try.ntmps8
      go_wp2_with (go_at_call 25; refine (bytes25 _ _ hs _).mono ?_; rintro e w' ⟨rfl, rfl⟩)
      go_ret
      exact ⟨rfl, 0, rfl⟩
    · by_cases h2 : (s.size : Int) < k
      · have hd : decide (s.size ≤ 1048576) = true := by simpa using hle
        have h4 : ¬ (1048576 : Int) < s.size := by omega
        go_enter Try.func8, Try.ntmps8
        go_wp2_with (go_at_call 25; refine (bytes25 _ _ hs _).mono ?_; rintro e w' ⟨rfl, rfl⟩)
        go_ret
        exact ⟨rfl, 0, rfl⟩
      · obtain ⟨n, rfl⟩ := Int.eq_ofNat_of_zero_le (Int.not_lt.1 h1)
        by_cases h3 : n % 2 = 0
        · exact walk8in s n hle (by omega) h3 w
        · have hd : decide (s.size ≤ 1048576) = true := by simpa using hle
          have h4 : ¬ (1048576 : Int) < s.size := by omega
          have h5 : ((n : Int) % 2 != 0) = true := by
            have : ¬ (n : Int) % 2 = 0 := by omega
            simp [this]
          clear h3
          go_enter Try.func8, Try.ntmps8
          go_wp2_with (go_at_call 25; refine (bytes25 _ _ hs _).mono ?_; rintro e w' ⟨rfl, rfl⟩)
          go_ret
          exact ⟨rfl, 0, rfl⟩
  · have hd : decide (s.size ≤ 1048576) = false := by simpa using hle
    go_enter Try.func8, Try.ntmps8
    go_wp2_with (go_at_call 25; refine (bytes25 _ _ hs _).mono ?_; rintro e w' ⟨rfl, rfl⟩)
    go_ret
    exact ⟨rfl, 0, rfl⟩
end Go.Proofs.Qxb6608715a
