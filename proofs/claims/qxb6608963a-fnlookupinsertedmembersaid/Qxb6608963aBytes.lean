/-
  The walk of the bound on lengths of FnLookupInsertedMember (10).
-/
import Derived.Test.Qxb6608963aFirst
namespace Go.Proofs.Qxb6608963a
open Go.RowKit
set_option linter.unusedVariables false

set_option maxRecDepth 20000 in
set_option maxHeartbeats 1000000 in
theorem bytes10_any (an av : Option Addr) (ns vs : List ByteArray) (cn cv : Nat) (fn fv nm : ByteArray) (ct : Int) (w : World) (hn : Row w an ns) (hv : Row w av vs) (m1 : ns.length ≤ maxLen) (m2 : vs.length ≤ maxLen)
    (z1 : ∀ (i : Nat) (s : ByteArray), ns[i]? = some s → s.size ≤ maxLen) (z2 : ∀ (i : Nat) (s : ByteArray), vs[i]? = some s → s.size ≤ maxLen) (z3 : nm.size ≤ maxLen) (z4 : fn.size ≤ maxLen) (z5 : fv.size ≤ maxLen) :
    Calls Try.prog 10 #[.slice an ns.length cn, .slice av vs.length cv, .string fn, .string fv, .string nm, .int .i64 ct] w fun e w' => BytesEnd ns vs (fn.size + fv.size + nm.size) w e w' := by
  have HN := hide hn
  have HV := hide hv
  have HZ1 := hide z1
  have HZ2 := hide z2
  clear hn hv z1 z2
  unfold maxLen at m1 m2 z3 z4 z5
  by_cases l1 : (1048576 : Int) < ns.length
  · go_enter Try.func10, Try.ntmps10
    go_wp2_with fail
    go_ret
    exact ⟨rfl, false, rfl, fun h => by cases h⟩
  · go_enter Try.func10, Try.ntmps10
    go_wp2_with fail
    go_loop [13, 14] (fun u i => ∃ (k : Nat) (q : Int), k ≤ ns.length ∧ i = .int .i64 k ∧ u = .int .i64 q ∧ 0 ≤ q ∧ q ≤ 1048576 ∧ Small (ns.take k)) (fun _ i => ns.length - (intOf i).toNat)
    case atStart => exact ⟨0, ns.length, by omega, rfl, rfl, by omega, by omega, small_nil⟩
    case round =>
      obtain ⟨k, q, hk, rfl, rfl, hq0, hq1, hsm⟩ := hrel
      have HSM := hide hsm
      clear hsm
      by_cases hlt : k < ns.length
      · obtain ⟨b, off, s, hp, hix, hcell⟩ := row_at cn k HN.out hlt
        have hz := HZ1.out k s hp
        unfold maxLen at hz
        have HP := hide hp
        clear hp
        have hlt' : (k : Int) < ns.length := by omega
        by_cases t1 : (1048576 : Int) < s.size
        · go_wp2_with fail
          go_ret
          exact ⟨rfl, false, rfl, fun h => by cases h⟩
        · by_cases t2 : (1048576 : Int) < q + s.size
          · go_wp2_with fail
            go_ret
            exact ⟨rfl, false, rfl, fun h => by cases h⟩
          · have HS := hide (small_more HSM.out HP.out (by omega))
            go_wp2_with fail
            go_round
            case rel => exact ⟨k + 1, _, by omega, by go_num, rfl, by omega, by omega, HS.out⟩
            case measure => simp [intOf]; omega
      · have hlt' : ¬ (k : Int) < ns.length := by omega
        have HS1 := hide (small_all HSM.out (by omega))
        by_cases l2 : (1048576 : Int) < vs.length
        · go_wp2_with fail
          go_ret
          exact ⟨rfl, false, rfl, fun h => by cases h⟩
        · by_cases l3 : (1048576 : Int) < q + vs.length
          · go_wp2_with fail
            go_ret
            exact ⟨rfl, false, rfl, fun h => by cases h⟩
          · go_wp2_with fail
            go_loop [13, 15] (fun u i => ∃ (k : Nat) (q : Int), k ≤ vs.length ∧ i = .int .i64 k ∧ u = .int .i64 q ∧ 0 ≤ q ∧ q ≤ 1048576 ∧ Small (vs.take k)) (fun _ i => vs.length - (intOf i).toNat)
            case atStart => exact ⟨0, q + vs.length, by omega, rfl, rfl, by omega, by omega, small_nil⟩
            case round =>
              obtain ⟨k2, q2, hk2, rfl, rfl, hq02, hq12, hsm⟩ := hrel
              have HSM2 := hide hsm
              clear hsm
              by_cases hlt2 : k2 < vs.length
              · obtain ⟨b, off, s, hp, hix, hcell⟩ := row_at cv k2 HV.out hlt2
                have hz := HZ2.out k2 s hp
                unfold maxLen at hz
                have HP := hide hp
                clear hp
                have hlt' : (k2 : Int) < vs.length := by omega
                by_cases t1 : (1048576 : Int) < s.size
                · go_wp2_with fail
                  go_ret
                  exact ⟨rfl, false, rfl, fun h => by cases h⟩
                · by_cases t2 : (1048576 : Int) < q2 + s.size
                  · go_wp2_with fail
                    go_ret
                    exact ⟨rfl, false, rfl, fun h => by cases h⟩
                  · have HS := hide (small_more HSM2.out HP.out (by omega))
                    go_wp2_with fail
                    go_round
                    case rel => exact ⟨k2 + 1, _, by omega, by go_num, rfl, by omega, by omega, HS.out⟩
                    case measure => simp [intOf]; omega
              · have hlt' : ¬ (k2 : Int) < vs.length := by omega
                have HS2 := hide (small_all HSM2.out (by omega))
                by_cases l4 : (1048576 : Int) < fn.size
                · go_wp2_with fail
                  go_ret
                  exact ⟨rfl, false, rfl, fun h => by cases h⟩
                by_cases l5 : (1048576 : Int) < q2 + fn.size
                · go_wp2_with fail
                  go_ret
                  exact ⟨rfl, false, rfl, fun h => by cases h⟩
                by_cases l6 : (1048576 : Int) < fv.size
                · go_wp2_with fail
                  go_ret
                  exact ⟨rfl, false, rfl, fun h => by cases h⟩
                by_cases l7 : (1048576 : Int) < q2 + fn.size + fv.size
                · go_wp2_with fail
                  go_ret
                  exact ⟨rfl, false, rfl, fun h => by cases h⟩
                by_cases l8 : (1048576 : Int) < nm.size
                · go_wp2_with fail
                  go_ret
                  exact ⟨rfl, false, rfl, fun h => by cases h⟩
                by_cases l9 : (1048576 : Int) < q2 + fn.size + fv.size + nm.size
                · go_wp2_with fail
                  go_ret
                  exact ⟨rfl, false, rfl, fun h => by cases h⟩
                go_wp2_with fail
                go_ret
                exact ⟨rfl, true, rfl, fun _ => ⟨by omega, by omega, HS1.out, HS2.out, by omega⟩⟩
end Go.Proofs.Qxb6608963a
