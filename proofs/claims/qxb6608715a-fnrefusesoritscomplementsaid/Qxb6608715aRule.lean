/-
  The walks of the rule's functions: newCellRule (10), refuses (28, 11), holdsMarked (12), the two bounds on lengths (9, 13).
-/
import Derived.Test.Qxb6608715aArr
namespace Go.Proofs.Qxb6608715a
open Go.RowKit
attribute [local go_sem ↓] owp_load22 owp_alloc22 owp_build41
attribute [local go_sem] rowOf_new rowOf_past rowOf_drew rowOf_drewN

theorem hide {p : Prop} (h : p) : Hid p := h
theorem take_snoc (s : ByteArray) (k : Nat) (h : k < s.size) : s.data.toList.take (k + 1) = s.data.toList.take k ++ [s[k]] := by
  rw [List.take_succ_eq_append_getElem (by simpa using h)]; rfl
def held (tb : Nat → Bool) (l : List UInt8) : Bool := l.any fun c => tb c.toNat
def seenB (l : List UInt8) (j : Nat) : Bool := l.any fun c => c.toNat == j
theorem seenB_snoc (l : List UInt8) (c : UInt8) (j : Nat) : seenB (l ++ [c]) j = (seenB l j || c.toNat == j) := by simp [seenB]
/-- The array after k bytes of s. -/
def Seen (sn : Array Value) (l : List UInt8) : Prop := sn.size = 256 ∧ ∀ j, j < 256 → sn[j]? = some (.bool (seenB l j))
theorem seen_start : Seen zero22 [] := ⟨zero22_size, fun j hj => by rw [zero22_get j hj]; rfl⟩
theorem seen_step {sn : Array Value} {l : List UInt8} (h : Seen sn l) (c : UInt8) : Seen (sn.setIfInBounds c.toNat (.bool true)) (l ++ [c]) := by
  refine ⟨by simp [h.1], fun j hj => ?_⟩
  rw [seenB_snoc]
  by_cases e : c.toNat = j
  · subst e
    rw [Array.getElem?_setIfInBounds_self_of_lt (by have := h.1; omega)]
    simp
  · rw [Array.getElem?_setIfInBounds_ne e, h.2 j hj]
    simp [e]

theorem held_of {tb : Nat → Bool} {l : List UInt8} {c : Nat} (h1 : seenB l c = true) (h2 : tb c = true) : held tb l = true := by
  simp only [seenB, held, List.any_eq_true, beq_iff_eq] at h1 ⊢
  obtain ⟨x, hx, rfl⟩ := h1
  exact ⟨x, hx, h2⟩
theorem held_not {tb : Nat → Bool} {l : List UInt8} {c : Nat} (hc : 256 ≤ c) (h : ∀ j, j < c → (seenB l j && tb j) = false) : held tb l = false := by
  cases hh : held tb l with
  | false => rfl
  | true =>
    simp only [held, List.any_eq_true] at hh
    obtain ⟨x, hx, ht⟩ := hh
    have h1 := h x.toNat (by have := x.toNat_lt; omega)
    have h2 : seenB l x.toNat = true := by simp only [seenB, List.any_eq_true, beq_iff_eq]; exact ⟨x, hx, rfl⟩
    simp [h2, ht] at h1
set_option maxRecDepth 20000 in
set_option maxHeartbeats 400000 in
theorem marked_any (cs : Array Value) (hcs : cs.size = 256) (tb : Nat → Bool) (hc : ∀ i, i < 256 → cs[i]? = some (.bool (tb i))) (s : ByteArray) (hs : s.size ≤ maxLen) (b : Bool) (w : World) :
    Calls Try.prog 12 #[.agg cs, .string s, .bool b] w fun e w' => e = .returned (.bool (held (fun c => tb c == b) s.data.toList)) ∧ ∃ sn, w' = (w.alloc (.cells cs 22)).alloc (.cells sn 22) := by
  unfold maxLen at hs
  go_enter Try.func12, Try.ntmps12
  go_wp2
  go_loopw [8] (fun i wr => ∃ k : Nat, k ≤ s.size ∧ i = .int .i64 k ∧ ∃ sn, Seen sn (s.data.toList.take k) ∧ wr = (w.alloc (.cells cs 22)).alloc (.cells sn 22)) (fun i _ => s.size - (intOf i).toNat)
  case atStart => exact ⟨0, Nat.zero_le _, rfl, zero22, seen_start, rfl⟩
  case round =>
    obtain ⟨k, hk, rfl, sn, hsn, rfl⟩ := hrel
    by_cases hlt : k < s.size
    · have HS : Hid (Seen (sn.setIfInBounds s[k].toNat (.bool true)) (s.data.toList.take (k + 1))) := by
        show Seen _ _; rw [take_snoc s k hlt]; exact seen_step hsn _
      obtain ⟨v0, hv0⟩ : ∃ v0, sn[s[k].toNat]? = some v0 := ⟨_, hsn.2 _ s[k].toNat_lt⟩
      have hb : ((s[k].toNat : Nat) : Int) < 256 := by have := s[k].toNat_lt; omega
      clear hsn
      go_wp2
      go_roundw
      case rel => exact ⟨k + 1, by omega, by go_num, _, HS.out, rfl⟩
      case measure => simp [intOf]; omega
    · have hfull : s.data.toList.take k = s.data.toList := List.take_of_length_le (by simp; omega)
      rw [hfull] at hsn
      clear hfull
      obtain ⟨hz, hv⟩ := hsn
      go_wp2
      go_loop [9] (fun i => ∃ c : Nat, c ≤ 256 ∧ i = .int .i64 c ∧ ∀ j, j < c → (seenB s.data.toList j && (tb j == b)) = false) (fun i => 256 - (intOf i).toNat)
      case atStart => exact ⟨0, by omega, rfl, fun j hj => by omega⟩
      case round =>
        obtain ⟨c, hc', rfl, hj⟩ := hrel
        have HJ : Hid (∀ j, j < c → (seenB s.data.toList j && (tb j == b)) = false) := hj
        clear hj
        by_cases hlt' : c < 256
        · have h1 := hv c hlt'
          have h2 := hc c hlt'
          have HV := hide hv
          have HC := hide hc
          have HZ := hide hz
          have HCS := hide hcs
          clear hv hc hz hcs
          cases e1 : seenB s.data.toList c
          · rw [e1] at h1
            have HN : Hid (∀ j, j < c + 1 → (seenB s.data.toList j && (tb j == b)) = false) := fun j hj => by
              by_cases e : j = c
              · subst e; simp [e1]
              · exact HJ.out j (by omega)
            clear e1
            go_wp2
            go_round
            case rel => exact ⟨c + 1, by omega, by go_num, HN.out⟩
            case measure => simp [intOf]; omega
          · rw [e1] at h1
            cases e2 : (tb c == b)
            · have HN : Hid (∀ j, j < c + 1 → (seenB s.data.toList j && (tb j == b)) = false) := fun j hj => by
                by_cases e : j = c
                · subst e; simp [e2]
                · exact HJ.out j (by omega)
              have e3 : tb c = !b := by revert e2; cases tb c <;> cases b <;> decide
              rw [e3] at h2
              have e4 : ((!b) == b) = false := by cases b <;> rfl
              clear e1 e2 e3
              go_wp2
              go_round
              case rel => exact ⟨c + 1, by omega, by go_num, HN.out⟩
              case measure => simp [intOf]; omega
            · have HH : Hid (held (fun c => tb c == b) s.data.toList = true) := held_of e1 e2
              have e3 : tb c = b := by revert e2; cases tb c <;> cases b <;> decide
              rw [e3] at h2
              clear e1 e2 e3
              go_wp2
              go_ret
              rw [HH.out]
              exact ⟨rfl, _, rfl⟩
        · have HH : Hid (held (fun c => tb c == b) s.data.toList = false) := held_not (c := c) (by omega) HJ.out
          go_wp2
          go_ret
          rw [HH.out]
          exact ⟨rfl, _, rfl⟩
theorem held_snoc (tb : Nat → Bool) (l : List UInt8) (c : UInt8) : held tb (l ++ [c]) = (held tb l || tb c.toNat) := by
  simp [held]
set_option maxHeartbeats 400000 in
theorem refuses_any (g : Nat) (tb : Nat → Bool) (s : ByteArray) (hs : s.size ≤ maxLen) (w : World)
    (hc : ∀ i, i < 256 → w.cell? ⟨g, i, none⟩ = some (.bool (tb i))) :
    Calls Try.prog 28 #[.pointer (some ⟨g, 0, none⟩), .string s] w fun e w' => e = .returned (.bool (held tb s.data.toList)) ∧ ∃ n, w' = w.drewN n := by
  unfold maxLen at hs
  go_enter Try.func28, Try.ntmps28
  go_wp2
  go_loopw [5] (fun i wr => ∃ k : Nat, k ≤ s.size ∧ i = .int .i64 k ∧ held tb (s.data.toList.take k) = false ∧ ∃ n, wr = w.drewN n) (fun i _ => s.size - (intOf i).toNat)
  case atStart => exact ⟨0, Nat.zero_le _, rfl, rfl, 0, rfl⟩
  case round =>
    obtain ⟨k, hk, rfl, hh, n, rfl⟩ := hrel
    by_cases hlt : k < s.size
    · go_wp2
      have hb : s[k].toNat < 256 := s[k].toNat_lt
      have hb' : ((s[k].toNat : Nat) : Int) < 256 := by omega
      have hcell := hc s[k].toNat hb
      go_quiet (fail)
      clear hb hb' hcell
      have hsn : held tb (s.data.toList.take (k + 1)) = tb s[k].toNat := by rw [take_snoc s k hlt, held_snoc, hh, Bool.false_or]
      have hpre : tb s[k].toNat = true → held tb s.data.toList = true := fun h => by
        rw [← List.take_append_drop (k + 1) s.data.toList]
        unfold held at hsn ⊢
        rw [List.any_append, hsn, h, Bool.true_or]
      have HS : Hid (held tb (s.data.toList.take (k + 1)) = tb s[k].toNat) := hsn
      have HP : Hid (tb s[k].toNat = true → held tb s.data.toList = true) := hpre
      clear hsn hpre hh
      cases htb : tb s[k].toNat
      · go_wp2
        go_roundw
        case rel => exact ⟨k + 1, by omega, by go_num, HS.out.trans htb, n + nq, (by first | rfl | exact World.drewN_drewN _ _ _)⟩
        case measure => simp [intOf]; omega
      · go_wp2
        go_ret
        rw [HP.out htb]
        exact ⟨rfl, n + nq, (by first | rfl | exact World.drewN_drewN _ _ _)⟩
    · go_wp2
      go_ret
      have : held tb s.data.toList = false := by rw [List.take_of_length_le (by simp; omega)] at hh; exact hh
      rw [this]
      exact ⟨rfl, n, rfl⟩

set_option maxHeartbeats 400000 in
theorem newrule (cs : Array Value) (hcs : cs.size = 256) (sl : Option Addr) (l c : Nat) (w : World) :
    Calls Try.prog 10 #[.agg cs, .slice sl l c] w fun e w' => e = .returned (.pointer (some ⟨w.heap.size + 1, 0, none⟩)) ∧ w' = (w.alloc (.cells cs 22)).alloc (.cells (rule41 cs (.slice sl l c)) 41) := by
  go_enter Try.func10, Try.ntmps10
  go_wp2
  go_ret
  exact ⟨rfl, rfl⟩

set_option maxHeartbeats 400000 in
theorem callRefuses (g : Nat) (tb : Nat → Bool) (s : ByteArray) (hs : s.size ≤ maxLen) (w : World)
    (hc : ∀ i, i < 256 → w.cell? ⟨g, i, none⟩ = some (.bool (tb i))) :
    Calls Try.prog 11 #[.pointer (some ⟨g, 0, none⟩), .string s] w fun e w' => e = .returned (.bool (held tb s.data.toList)) ∧ ∃ n, w' = w.drewN n := by
  have H := hide (refuses_any g tb s hs w hc)
  clear hc
  go_enter Try.func11, Try.ntmps11
  go_wp2_with (go_at_call 28; refine H.out.mono ?_; rintro e w' ⟨rfl, n, rfl⟩)
  go_ret
  exact ⟨rfl, n, rfl⟩

set_option maxHeartbeats 400000 in
theorem bytes9 (cs : Array Value) (a b : ByteArray) (ha : a.size ≤ maxLen) (hb : b.size ≤ maxLen) (w : World) :
    Calls Try.prog 9 #[.agg cs, .string a, .string b] w fun e w' => e = .returned (.bool (decide (a.size + b.size ≤ 1048576))) ∧ w' = w.alloc (.cells cs 22) := by
  unfold maxLen at ha hb
  by_cases h1 : (1048576 : Int) < (a.size : Int)
  · have e : decide (a.size + b.size ≤ 1048576) = false := by simp; omega
    rw [e]
    go_enter Try.func9, Try.ntmps9
    go_wp2
    go_ret
    exact ⟨rfl, rfl⟩
  · by_cases h2 : (1048576 : Int) < (a.size : Int) + (b.size : Int)
    · have e : decide (a.size + b.size ≤ 1048576) = false := by simp; omega
      rw [e]
      go_enter Try.func9, Try.ntmps9
      go_wp2
      all_goals
        go_ret
        exact ⟨rfl, rfl⟩
    · have e : decide (a.size + b.size ≤ 1048576) = true := by simp; omega
      rw [e]
      go_enter Try.func9, Try.ntmps9
      go_wp2
      go_ret
      exact ⟨rfl, rfl⟩

set_option maxHeartbeats 400000 in
theorem bytes13 (cs : Array Value) (a : ByteArray) (ha : a.size ≤ maxLen) (w : World) :
    Calls Try.prog 13 #[.agg cs, .string a] w fun e w' => e = .returned (.bool (decide (a.size ≤ 1048576))) ∧ w' = w.alloc (.cells cs 22) := by
  unfold maxLen at ha
  by_cases h1 : (1048576 : Int) < (a.size : Int)
  · have e : decide (a.size ≤ 1048576) = false := by simp; omega
    rw [e]
    go_enter Try.func13, Try.ntmps13
    go_wp2
    go_ret
    exact ⟨rfl, rfl⟩
  · have e : decide (a.size ≤ 1048576) = true := by simp; omega
    rw [e]
    go_enter Try.func13, Try.ntmps13
    go_wp2
    go_ret
    exact ⟨rfl, rfl⟩
end Go.Proofs.Qxb6608715a
