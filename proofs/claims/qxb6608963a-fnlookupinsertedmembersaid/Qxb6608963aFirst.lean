/-
  The walks of zzc1FirstIndex (9) and of the bound on lengths (5).
-/
import Derived.Test.Qxb6608963aLook
namespace Go.Proofs.Qxb6608963a
open Go.RowKit
set_option linter.unusedVariables false

/-- How zzc1FirstIndex ends. -/
def FirstEnd (ns : List ByteArray) (n : Nat) (nm : ByteArray) (w : World) (e : Ending) (w' : World) : Prop :=
  w' = w ∧ ((∃ (k : Nat) (s : ByteArray), k < n ∧ ns[k]? = some s ∧ (s.toList == nm.toList) = true ∧ missing (ns.take k) nm = true ∧ e = .returned (.int .i64 k)) ∨ (missing (ns.take n) nm = true ∧ e = .returned (.int .i64 (-1))))

theorem missing_more {ns : List ByteArray} {nm : ByteArray} {k : Nat} {s : ByteArray} (h : missing (ns.take k) nm = true) (hp : ns[k]? = some s) (hn : (s.toList == nm.toList) = false) : missing (ns.take (k + 1)) nm = true := by
  obtain ⟨hk, rfl⟩ := List.getElem?_eq_some_iff.1 hp
  rw [List.take_succ_eq_append_getElem hk]
  unfold missing at h ⊢
  rw [List.all_append, h, List.all_cons, hn]
  rfl

set_option maxHeartbeats 400000 in
theorem first_any (ao : Option Addr) (ns : List ByteArray) (c n : Nat) (nm : ByteArray) (w : World) (hr : Row w ao ns) (hn : n ≤ ns.length) (hl : ns.length ≤ 1048576) :
    Calls Try.prog 9 #[.slice ao ns.length c, .int .i64 n, .string nm] w fun e w' => FirstEnd ns n nm w e w' := by
  by_cases hn0 : n = 0
  · have h0 : ¬ (0 : Int) < n := by omega
    have HN := hide hn0
    clear hr hn0
    go_enter Try.func9, Try.ntmps9
    go_wp2_with fail
    go_loop [7] (fun i => i = .int .i64 0) (fun _ => 0)
    case atStart => rfl
    case round =>
      subst hrel
      go_wp2_with fail
      go_ret
      exact ⟨rfl, .inr ⟨by rw [HN.out]; rfl, rfl⟩⟩
  · have hbs : ∃ b off, ao = some ⟨b, off, Option.none⟩ ∧ (∀ i s, ns[i]? = some s → w.cell? ⟨b, off + i, Option.none⟩ = some (.string s)) := by
      rcases hr with rfl | h
      · simp at hn; omega
      · exact h
    obtain ⟨b, off, rfl, hc⟩ := hbs
    have HC := hide hc
    clear hc hr
    go_enter Try.func9, Try.ntmps9
    go_wp2_with fail
    go_loop [7] (fun i => ∃ k : Nat, k ≤ n ∧ i = .int .i64 k ∧ missing (ns.take k) nm = true) (fun i => n - (intOf i).toNat)
    case atStart => exact ⟨0, by omega, rfl, rfl⟩
    case round =>
      obtain ⟨k, hk, rfl, hm⟩ := hrel
      have HM := hide hm
      clear hm
      by_cases hlt : k < n
      · have hk' : k < ns.length := by omega
        have hcell := HC.out k _ (at_some hk')
        obtain ⟨s, es⟩ : ∃ s, ns[k] = s := ⟨_, rfl⟩
        have HP : Hid (ns[k]? = some s) := by show _ = _; rw [← es]; exact at_some hk'
        rw [es] at hcell
        clear es
        have h1 : (k : Int) < n := by omega
        have h2 : (k : Int) < ns.length := by omega
        cases hq : (s.toList == nm.toList)
        · have HN := hide (missing_more HM.out HP.out hq)
          go_wp2_with fail
          go_round
          case rel => exact ⟨k + 1, by omega, by go_num, HN.out⟩
          case measure => simp [intOf]; omega
        · have HQ := hide hq
          go_wp2_with fail
          go_ret
          exact ⟨rfl, .inl ⟨k, s, hlt, HP.out, HQ.out, HM.out, rfl⟩⟩
      · have h1 : ¬ (k : Int) < n := by omega
        have ek : k = n := by omega
        have HK := hide ek
        clear ek
        go_wp2_with fail
        go_ret
        exact ⟨rfl, .inr ⟨by rw [← HK.out]; exact HM.out, rfl⟩⟩

/-- How a bound on lengths ends: where it says yes every string is short. -/
def BytesEnd (ns vs : List ByteArray) (tot : Nat) (w : World) (e : Ending) (w' : World) : Prop :=
  w' = w ∧ ∃ r : Bool, e = .returned (.bool r) ∧ (r = true → ns.length ≤ 1048576 ∧ vs.length ≤ 1048576 ∧ Small ns ∧ Small vs ∧ tot ≤ 1048576)

theorem row_at {w : World} {ao : Option Addr} {ss : List ByteArray} (c k : Nat) (hr : Row w ao ss) (hk : k < ss.length) :
    ∃ b off s, ss[k]? = some s ∧ (∀ W : World, (Instr.indexAt 22 (.slice ao ss.length c) (.int .i64 (k : Int))).run Try.prog W = .ok (.pointer (some ⟨b, off + k, Option.none⟩)) W) ∧ w.cell? ⟨b, off + k, Option.none⟩ = some (.string s) := by
  rcases hr with rfl | ⟨b, off, rfl, hc⟩
  · simp at hk
  · refine ⟨b, off, ss[k], at_some hk, fun W => ?_, hc k _ (at_some hk)⟩
    have hs : (sizeOf 9).run Try.prog W = .ok 1 W := by kernel_rfl
    have h1 : (0 : Int) ≤ (k : Int) ∧ (k : Int) < ss.length := by omega
    have he : Try.prog.elem 22 = 9 := by simp [Program.elem, Try.underlying22]
    rw [run_indexAt_slice W 22 ⟨b, off, Option.none⟩ ss.length c .i64 k (by rw [Try.underlying22, he]), if_pos h1, he, hs]
    simp [Result.andThen, go_sem]

theorem small_nil {ss : List ByteArray} : Small (ss.take 0) := fun i s h => by simp at h
theorem small_more {ss : List ByteArray} {k : Nat} {s : ByteArray} (h : Small (ss.take k)) (hp : ss[k]? = some s) (hs : s.size ≤ 1048576) : Small (ss.take (k + 1)) := by
  obtain ⟨hk, rfl⟩ := List.getElem?_eq_some_iff.1 hp
  intro i q hq
  rw [List.getElem?_take] at hq
  split at hq
  · by_cases e : i = k
    · subst e; rw [hp] at hq; obtain rfl := Option.some.inj hq; exact hs
    · exact h i q (by rw [List.getElem?_take, if_pos (by omega)]; exact hq)
  · cases hq
theorem small_all {ss : List ByteArray} {k : Nat} (h : Small (ss.take k)) (hk : ss.length ≤ k) : Small ss := by
  rw [List.take_of_length_le hk] at h; exact h

set_option maxRecDepth 20000 in
set_option maxHeartbeats 1000000 in
theorem bytes5_any (an av : Option Addr) (ns vs : List ByteArray) (cn cv : Nat) (nm : ByteArray) (ct : Int) (w : World) (hn : Row w an ns) (hv : Row w av vs) (m1 : ns.length ≤ maxLen) (m2 : vs.length ≤ maxLen)
    (z1 : ∀ (i : Nat) (s : ByteArray), ns[i]? = some s → s.size ≤ maxLen) (z2 : ∀ (i : Nat) (s : ByteArray), vs[i]? = some s → s.size ≤ maxLen) (z3 : nm.size ≤ maxLen) :
    Calls Try.prog 5 #[.slice an ns.length cn, .slice av vs.length cv, .string nm, .int .i64 ct] w fun e w' => BytesEnd ns vs nm.size w e w' := by
  have HN := hide hn
  have HV := hide hv
  have HZ1 := hide z1
  have HZ2 := hide z2
  clear hn hv z1 z2
  unfold maxLen at m1 m2 z3
  by_cases l1 : (1048576 : Int) < ns.length
  · go_enter Try.func5, Try.ntmps5
    go_wp2_with fail
    go_ret
    exact ⟨rfl, false, rfl, fun h => by cases h⟩
  · go_enter Try.func5, Try.ntmps5
    go_wp2_with fail
    go_loop [9, 10] (fun u i => ∃ (k : Nat) (q : Int), k ≤ ns.length ∧ i = .int .i64 k ∧ u = .int .i64 q ∧ 0 ≤ q ∧ q ≤ 1048576 ∧ Small (ns.take k)) (fun _ i => ns.length - (intOf i).toNat)
    case atStart => exact ⟨0, ns.length, by omega, rfl, rfl, by omega, by omega, small_nil⟩
    case round =>
      obtain ⟨k, q, hk, rfl, rfl, hq0, hq1, hsm⟩ := hrel
      have HSM := hide hsm
      clear hsm
      by_cases hlt : k < ns.length
      · obtain ⟨b, off, s, hp, hix, hcell⟩ := row_at cn k HN.out hlt
        have hz := HZ1.out k s hp
        unfold maxLen at hz
        have HP := hide hp
        clear hp
        have hlt' : (k : Int) < ns.length := by omega
        by_cases t1 : (1048576 : Int) < s.size
        · go_wp2_with fail
          go_ret
          exact ⟨rfl, false, rfl, fun h => by cases h⟩
        · by_cases t2 : (1048576 : Int) < q + s.size
          · go_wp2_with fail
            go_ret
            exact ⟨rfl, false, rfl, fun h => by cases h⟩
          · have HS := hide (small_more HSM.out HP.out (by omega))
            go_wp2_with fail
            go_round
            case rel => exact ⟨k + 1, _, by omega, by go_num, rfl, by omega, by omega, HS.out⟩
            case measure => simp [intOf]; omega
      · have hlt' : ¬ (k : Int) < ns.length := by omega
        have HS1 := hide (small_all HSM.out (by omega))
        by_cases l2 : (1048576 : Int) < vs.length
        · go_wp2_with fail
          go_ret
          exact ⟨rfl, false, rfl, fun h => by cases h⟩
        · by_cases l3 : (1048576 : Int) < q + vs.length
          · go_wp2_with fail
            go_ret
            exact ⟨rfl, false, rfl, fun h => by cases h⟩
          · go_wp2_with fail
            go_loop [9, 11] (fun u i => ∃ (k : Nat) (q : Int), k ≤ vs.length ∧ i = .int .i64 k ∧ u = .int .i64 q ∧ 0 ≤ q ∧ q ≤ 1048576 ∧ Small (vs.take k)) (fun _ i => vs.length - (intOf i).toNat)
            case atStart => exact ⟨0, q + vs.length, by omega, rfl, rfl, by omega, by omega, small_nil⟩
            case round =>
              obtain ⟨k2, q2, hk2, rfl, rfl, hq02, hq12, hsm⟩ := hrel
              have HSM2 := hide hsm
              clear hsm
              by_cases hlt2 : k2 < vs.length
              · obtain ⟨b, off, s, hp, hix, hcell⟩ := row_at cv k2 HV.out hlt2
                have hz := HZ2.out k2 s hp
                unfold maxLen at hz
                have HP := hide hp
                clear hp
                have hlt' : (k2 : Int) < vs.length := by omega
                by_cases t1 : (1048576 : Int) < s.size
                · go_wp2_with fail
                  go_ret
                  exact ⟨rfl, false, rfl, fun h => by cases h⟩
                · by_cases t2 : (1048576 : Int) < q2 + s.size
                  · go_wp2_with fail
                    go_ret
                    exact ⟨rfl, false, rfl, fun h => by cases h⟩
                  · have HS := hide (small_more HSM2.out HP.out (by omega))
                    go_wp2_with fail
                    go_round
                    case rel => exact ⟨k2 + 1, _, by omega, by go_num, rfl, by omega, by omega, HS.out⟩
                    case measure => simp [intOf]; omega
              · have hlt' : ¬ (k2 : Int) < vs.length := by omega
                have HS2 := hide (small_all HSM2.out (by omega))
                by_cases l4 : (1048576 : Int) < nm.size
                · go_wp2_with fail
                  go_ret
                  exact ⟨rfl, false, rfl, fun h => by cases h⟩
                · by_cases l5 : (1048576 : Int) < q2 + nm.size
                  · go_wp2_with fail
                    go_ret
                    exact ⟨rfl, false, rfl, fun h => by cases h⟩
                  · go_wp2_with fail
                    go_ret
                    exact ⟨rfl, true, rfl, fun _ => ⟨by omega, by omega, HS1.out, HS2.out, by omega⟩⟩
end Go.Proofs.Qxb6608963a
