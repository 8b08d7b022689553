/-
  FnLookupFindsFirstAtAnyCut (3) where no pair bears the name.
-/
import Derived.Test.Qxb6608963aStrs
namespace Go.Proofs.Qxb6608963a
open Go.RowKit
set_option linter.unusedVariables false

set_option maxRecDepth 20000 in
set_option maxHeartbeats 2000000 in
theorem walk3none (an av : Option Addr) (ns vs : List ByteArray) (cn cv : Nat) (nm : ByteArray) (ct : Int) (w : World) (hn : Row w an ns) (hv : Row w av vs)
    (kn : ns.length ≤ cn) (kv : vs.length ≤ cv) (m1 : ns.length ≤ maxLen) (m2 : vs.length ≤ maxLen) (z1 : ∀ (i : Nat) (s : ByteArray), ns[i]? = some s → s.size ≤ maxLen) (z2 : ∀ (i : Nat) (s : ByteArray), vs[i]? = some s → s.size ≤ maxLen) (z3 : nm.size ≤ maxLen)
    (hL0 : look (ns.zip vs) nm = Option.none) :
    Calls Try.prog 3 #[.slice an ns.length cn, .slice av vs.length cv, .string nm, .int .i64 ct] w fun e w' => e = .returned (.bool true) ∧ Below w.heap.size w w' := by
  have HB := hide (bytes5_any an av ns vs cn cv nm ct w hn hv m1 m2 z1 z2 z3)
  have q1 := fun w => run_neq_slice_nil_any (P := Try.prog) w 22 9 an ns.length cn 0 0 Try.underlying22
  have q2 := fun w => run_neq_slice_nil_any (P := Try.prog) w 22 9 av vs.length cv 0 0 Try.underlying22
  have HN := hide hn
  have HV := hide hv
  clear hn hv z1 z2
  unfold maxLen at m1 m2 z3
  have hmin := fun ats ty w => run_min_int ats ty ns.length vs.length w
  obtain ⟨n, en⟩ : ∃ n, min ns.length vs.length = n := ⟨_, rfl⟩
  rw [en] at hmin
  have EN := hide en
  obtain ⟨ps, hps⟩ : ∃ ps, ns.zip vs = ps := ⟨_, rfl⟩
  have HPS := hide hps
  rw [hps] at hL0
  have HL := hide hL0
  clear en hps hL0
  go_enter Try.func3, Try.ntmps3
  go_wp2_with fail
  refine HB.out.mono ?_
  rintro e w0 ⟨hw0, r, rfl, hr⟩
  have hw1 := hw0.symm
  clear hw0
  subst hw1
  cases r with
  | false =>
    clear hr
    go_wp2_with fail
    go_ret
    exact ⟨rfl, Below.refl _ _⟩
  | true =>
    obtain ⟨_, _, s1, s2, l3⟩ := hr rfl
    have HS1 := hide s1
    have HS2 := hide s2
    clear hr s1 s2
    by_cases g1 : (65536 : Int) < ns.length
    · go_wp2_with fail
      go_ret
      exact ⟨rfl, Below.refl _ _⟩
    · by_cases g2 : (65536 : Int) < vs.length
      · go_wp2_with fail
        go_ret
        exact ⟨rfl, Below.refl _ _⟩
      · have g3 : ¬ (1048576 : Int) < nm.size := by omega
        have l1 : ns.length ≤ 65536 := by omega
        have l2 : vs.length ≤ 65536 := by omega
        have hpl : ps.length ≤ 65536 := by rw [← HPS.out, List.length_zip]; omega
        go_upto_if 44 with fail
        go_cut [0, 9] (fun s0 s9 wc => Held wc s0 ns ∧ Below w.heap.size w wc)
        case first =>
          cases han : an with
          | none =>
            subst han
            go_wp2_with fail
            go_meet
            case rel => exact ⟨⟨Option.none, cn, rfl, kn, HN.out⟩, Below.refl _ _⟩
          | some a =>
            subst han
            obtain ⟨z, hz, hmk⟩ := make_strs ns.length (by omega)
            have hcp := fun ty => copy_strs (some a) ns cn z hz ty w HN.out (fun _ => rfl)
            go_wp2_with fail
            go_meet
            case rel => exact ⟨⟨_, ns.length, rfl, Nat.le_refl _, row_new w ns⟩, (Below.refl _ _).alloc (Nat.le_refl _) _⟩
        case rest =>
          obtain ⟨⟨a1, c1, rfl, k1, r1⟩, hb1⟩ := hcut
          obtain ⟨w1, rfl⟩ : ∃ w1, w1 = wc := ⟨_, rfl⟩
          have R1 := hide r1
          have B1 := hide hb1
          have V1 := hide (HV.out.kept hb1)
          clear r1 hb1 q1
          go_upto_if 53 with fail
          go_cut [1, 10] (fun s1 s10 wc => Held wc s1 vs ∧ Below w1.heap.size w1 wc)
          case first =>
            cases hav : av with
            | none =>
              subst hav
              go_wp2_with fail
              go_meet
              case rel => exact ⟨⟨Option.none, cv, rfl, kv, V1.out⟩, Below.refl _ _⟩
            | some a =>
              subst hav
              obtain ⟨z, hz, hmk⟩ := make_strs vs.length (by omega)
              have hcp := fun ty => copy_strs (some a) vs cv z hz ty w1 V1.out (fun _ => rfl)
              go_wp2_with fail
              go_meet
              case rel => exact ⟨⟨_, vs.length, rfl, Nat.le_refl _, row_new w1 vs⟩, (Below.refl _ _).alloc (Nat.le_refl _) _⟩
          case rest =>
            obtain ⟨⟨a2, c2, rfl, k2, r2⟩, hb2⟩ := hcut
            obtain ⟨w2, rfl⟩ : ∃ w2, w2 = wc := ⟨_, rfl⟩
            have R2 := hide r2
            have R1' := hide (R1.out.kept hb2)
            have B2 : Hid (Below w.heap.size w w2) := B1.out.trans (hb2.mono B1.out.size)
            clear r2 hb2 q2 R1 B1 V1 HB HN HV kn kv
            go_wp2_with fail
            refine (sum_any _ (by omega) (by omega) a1 ns c1 w2 R1'.out (by omega) HS1.out).mono ?_
            rintro e w' ⟨t1, o1, rfl, rfl, ho1⟩
            cases o1 with
            | true =>
              clear ho1
              go_wp2_with fail
              go_ret
              exact ⟨rfl, B2.out⟩
            | false =>
              obtain ⟨ht0, ht1⟩ := ho1 rfl
              clear ho1
              go_wp2_with fail
              refine (sum_any _ (by omega) (by omega) a2 vs c2 _ R2.out (by omega) HS2.out).mono ?_
              rintro e w' ⟨t2, o2, rfl, rfl, ho2⟩
              cases o2 with
              | true =>
                clear ho2
                go_wp2_with fail
                go_ret
                exact ⟨rfl, B2.out⟩
              | false =>
                clear ho2
                go_wp2_with fail
                refine (newObj_p a1 a2 ns vs _ _ c1 c2 ps _ rfl rfl HPS.out R1'.out R2.out (by omega) (by omega)).mono ?_
                rintro e w' ⟨rfl, cur, q, rfl, hob⟩
                have HOB := hide (obj_new hob w' q)
                have HBN := hide (below_new w' cur q)
                clear hob
                go_wp2_with fail
                refine (str_no _ ps nm _ HOB.out (by omega) HL.out).mono ?_
                rintro e w3 ⟨rfl, hb3⟩
                have B3 : Hid (Below w'.heap.size w' w3) := HBN.out.trans (hb3.mono HBN.out.size)
                have R1 := hide (R1'.out.kept B3.out)
                have R2' := hide (R2.out.kept B3.out)
                have B4 : Hid (Below w.heap.size w w3) := B2.out.trans (B3.out.mono B2.out.size)
                clear hb3 HBN HOB R1' R2 B2
                go_wp2_with fail
                refine (first_any a1 ns c1 n nm _ R1.out (by have := EN.out; omega) (by omega)).mono ?_
                rintro e w4 ⟨hw4, hF⟩
                subst hw4
                rcases hF with ⟨k, s, hk, hp, hq, hm, rfl⟩ | ⟨hm, rfl⟩
                · exfalso
                  exact first_no EN.out HPS.out HL.out hk hp hq hm
                · clear hm
                  by_cases hc0 : ct < 0
                  · go_wp2_with fail
                    go_ret
                    exact ⟨rfl, B4.out⟩
                  · by_cases hc1 : (n : Int) < ct
                    · go_wp2_with fail
                      go_ret
                      exact ⟨rfl, B4.out⟩
                    · obtain ⟨cu, rfl⟩ := Int.eq_ofNat_of_zero_le (Int.not_lt.1 hc0)
                      have hcu : cu ≤ n := by omega
                      have e1 := EN.out
                      have hn65 : n ≤ 65536 := by omega
                      have z1 : (cu : Int) ≤ c1 := by omega
                      have z2 : (cu : Int) ≤ c2 := by omega
                      have z3 : (0 : Int) ≤ cu := by omega
                      have z4 : (n : Int) ≤ c1 := by omega
                      have z5 : (n : Int) ≤ c2 := by omega
                      have z6 : (cu : Int) ≤ n := by omega
                      have T1 : Hid ((ns.take cu).length = cu) := by show _ = _; rw [List.length_take]; omega
                      have T2 : Hid ((vs.take cu).length = cu) := by show _ = _; rw [List.length_take]; omega
                      obtain ⟨pl, hpl'⟩ : ∃ pl, (ns.take cu).zip (vs.take cu) = pl := ⟨_, rfl⟩
                      have PL := hide hpl'
                      have hpll : pl.length ≤ 65536 := by rw [← hpl', List.length_zip, T1.out]; omega
                      have LL : Hid (look pl nm = Option.none) := by
                        show _ = _
                        have h := HL.out
                        rw [← HPS.out, zip_cut ns vs cu, hpl', look_append] at h
                        cases hq : look pl nm with
                        | none => rfl
                        | some x => rw [hq] at h; cases h
                      clear e1 hpl'
                      go_wp2_with fail
                      go_region_with (first | (go_at_call 8; refine (newObj_p a1 a2 (ns.take cu) (vs.take cu) _ _ _ _ pl _ T1.out T2.out PL.out ?_ ?_ (by rw [T1.out]; omega) (by rw [T2.out]; omega)).mono ?_; exact row_take R1.out; exact row_take R2'.out; rintro e w' ⟨rfl, cur2, q2, rfl, hob2⟩) | (go_at_call 7; refine (str_no _ pl nm _ ?_ (by omega) LL.out).mono ?_; exact obj_new hob2 _ 0; rintro e w5 ⟨rfl, hb5⟩))
                      have B5 : Hid (Below w4.heap.size w4 w5) := via_new hb5
                      have R3 := hide (R1.out.kept B5.out)
                      have R4 := hide (R2'.out.kept B5.out)
                      have B6 : Hid (Below w.heap.size w w5) := B4.out.trans (B5.out.mono B4.out.size)
                      clear hb5 R1 R2' B4 B5 hob2
                      have T3 : Hid (((ns.drop cu).take (n - cu)).length = n - cu) := by show _ = _; have := EN.out; rw [List.length_take, List.length_drop]; omega
                      have T4 : Hid (((vs.drop cu).take (n - cu)).length = n - cu) := by show _ = _; have := EN.out; rw [List.length_take, List.length_drop]; omega
                      obtain ⟨pr, hpr'⟩ : ∃ pr, ((ns.drop cu).take (n - cu)).zip ((vs.drop cu).take (n - cu)) = pr := ⟨_, rfl⟩
                      have PR := hide hpr'
                      have hprl : pr.length ≤ 65536 := by rw [← hpr', List.length_zip, T3.out]; omega
                      have LR : Hid (look pr nm = Option.none) := by
                        show _ = _
                        have h := HL.out
                        rw [← HPS.out, zip_cut ns vs cu, PL.out, look_right LL.out] at h
                        rw [← hpr', zip_right EN.out]
                        exact h
                      obtain ⟨x3, r3, hsl3⟩ := slice_kn (c := c1) (k := cu) (n := n) R3.out k1 hcu (by omega)
                      obtain ⟨x4, r4, hsl4⟩ := slice_kn (c := c2) (k := cu) (n := n) R4.out k2 hcu (by omega)
                      have RR3 := hide r3
                      have RR4 := hide r4
                      clear hpr' r3 r4
                      go_wp2_with fail
                      go_region_with (first | (go_at_call 8; refine (newObj_p x3 x4 ((ns.drop cu).take (n - cu)) ((vs.drop cu).take (n - cu)) _ _ _ _ pr _ T3.out T4.out PR.out ?_ ?_ (by rw [T3.out]; omega) (by rw [T4.out]; omega)).mono ?_; exact RR3.out; exact RR4.out; rintro e w' ⟨rfl, cur3, q3, rfl, hob3⟩) | (go_at_call 7; refine (str_no _ pr nm _ ?_ (by omega) LR.out).mono ?_; exact obj_new hob3 _ 0; rintro e w6 ⟨rfl, hb6⟩))
                      have B7 : Hid (Below w5.heap.size w5 w6) := via_new hb6
                      go_wp2_with fail
                      go_ret
                      exact ⟨rfl, B6.out.trans (B7.out.mono B6.out.size)⟩

end Go.Proofs.Qxb6608963a
