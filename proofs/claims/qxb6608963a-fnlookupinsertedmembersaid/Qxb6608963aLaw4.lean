/-
  FnLookupInsertedMember (4): its bounds, its copies; then what stands behind them.
-/
import Derived.Test.Qxb6608963aLaw4l
namespace Go.Proofs.Qxb6608963a
open Go.RowKit
set_option linter.unusedVariables false

set_option maxRecDepth 20000 in
set_option maxHeartbeats 16000000 in
theorem walk4 (an av : Option Addr) (ns vs : List ByteArray) (cn cv : Nat) (fn fv nm : ByteArray) (ct : Int) (w : World) (hn : Row w an ns) (hv : Row w av vs)
    (kn : ns.length ≤ cn) (kv : vs.length ≤ cv) (n0 : an = Option.none → cn = 0) (v0 : av = Option.none → cv = 0) (m1 : ns.length ≤ maxLen) (m2 : vs.length ≤ maxLen) (z1 : ∀ (i : Nat) (s : ByteArray), ns[i]? = some s → s.size ≤ maxLen) (z2 : ∀ (i : Nat) (s : ByteArray), vs[i]? = some s → s.size ≤ maxLen) (z3 : nm.size ≤ maxLen) (z4 : fn.size ≤ maxLen) (z5 : fv.size ≤ maxLen) :
    Calls Try.prog 4 #[.slice an ns.length cn, .slice av vs.length cv, .string fn, .string fv, .string nm, .int .i64 ct] w fun e w' => e = .returned (.bool true) ∧ Below w.heap.size w w' := by
  have HB := hide (bytes10_any an av ns vs cn cv fn fv nm ct w hn hv m1 m2 z1 z2 z3 z4 z5)
  have q1 := fun w => run_neq_slice_nil_any (P := Try.prog) w 22 9 an ns.length cn 0 0 Try.underlying22
  have q2 := fun w => run_neq_slice_nil_any (P := Try.prog) w 22 9 av vs.length cv 0 0 Try.underlying22
  have HN := hide hn
  have HV := hide hv
  have HN0 := hide n0
  have HV0 := hide v0
  clear hn hv z1 z2 n0 v0
  unfold maxLen at m1 m2 z3 z4 z5
  have hmin := fun ats ty w => run_min_int ats ty ns.length vs.length w
  obtain ⟨n, en⟩ : ∃ n, min ns.length vs.length = n := ⟨_, rfl⟩
  rw [en] at hmin
  have EN := hide en
  clear en
  go_enter Try.func4, Try.ntmps4
  go_wp2_with fail
  refine HB.out.mono ?_
  rintro e w0 ⟨hw0, r, rfl, hr⟩
  have hw1 := hw0.symm
  clear hw0
  subst hw1
  cases r with
  | false =>
    clear hr
    go_wp2_with fail
    go_ret
    exact ⟨rfl, Below.refl _ _⟩
  | true =>
    obtain ⟨_, _, s1, s2, l3⟩ := hr rfl
    have HS1 := hide s1
    have HS2 := hide s2
    clear hr s1 s2
    by_cases g1 : (65536 : Int) < ns.length
    · go_wp2_with fail
      go_ret
      exact ⟨rfl, Below.refl _ _⟩
    by_cases g2 : (65536 : Int) < vs.length
    · go_wp2_with fail
      go_ret
      exact ⟨rfl, Below.refl _ _⟩
    have g3 : ¬ (1048576 : Int) < nm.size := by omega
    have g4 : ¬ (1048576 : Int) < fn.size := by omega
    have g5 : ¬ (1048576 : Int) < fv.size := by omega
    have g6 : ¬ (1048576 : Int) < fn.size + fv.size + nm.size := by omega
    have l1 : ns.length ≤ 65536 := by omega
    have l2 : vs.length ≤ 65536 := by omega
    have hn65 : n ≤ 65536 := by have := EN.out; omega
    go_upto_if 70 with fail
    go_cut [0, 13] (fun s0 s13 wc => Held2 wc s0 ns ∧ Below w.heap.size w wc)
    case first =>
      cases han : an with
      | none =>
        subst han
        go_wp2_with fail
        go_meet
        case rel => exact ⟨⟨Option.none, cn, rfl, kn, HN.out, fun _ => by first | exact HN0.out trivial | exact HN0.out rfl⟩, Below.refl _ _⟩
      | some a =>
        subst han
        obtain ⟨z, hz, hmk⟩ := make_strs ns.length (by omega)
        have hcp := fun ty => copy_strs (some a) ns cn z hz ty w HN.out (fun _ => rfl)
        go_wp2_with fail
        go_meet
        case rel => exact ⟨⟨_, ns.length, rfl, Nat.le_refl _, row_new w ns, fun h => by cases h⟩, (Below.refl _ _).alloc (Nat.le_refl _) _⟩
    case rest =>
      obtain ⟨⟨a1, c1, rfl, k1, r1, h10⟩, hb1⟩ := hcut
      obtain ⟨w1, rfl⟩ : ∃ w1, w1 = wc := ⟨_, rfl⟩
      have R1 := hide r1
      have B1 := hide hb1
      have V1 := hide (HV.out.kept hb1)
      have H10 := hide h10
      clear r1 hb1 q1 h10
      go_upto_if 79 with fail
      go_cut [1, 14] (fun s1 s14 wc => Held2 wc s1 vs ∧ Below w1.heap.size w1 wc)
      case first =>
        cases hav : av with
        | none =>
          subst hav
          go_wp2_with fail
          go_meet
          case rel => exact ⟨⟨Option.none, cv, rfl, kv, V1.out, fun _ => by first | exact HV0.out trivial | exact HV0.out rfl⟩, Below.refl _ _⟩
        | some a =>
          subst hav
          obtain ⟨z, hz, hmk⟩ := make_strs vs.length (by omega)
          have hcp := fun ty => copy_strs (some a) vs cv z hz ty w1 V1.out (fun _ => rfl)
          go_wp2_with fail
          go_meet
          case rel => exact ⟨⟨_, vs.length, rfl, Nat.le_refl _, row_new w1 vs, fun h => by cases h⟩, (Below.refl _ _).alloc (Nat.le_refl _) _⟩
      case rest =>
        obtain ⟨⟨a2, c2, rfl, k2, r2, h20⟩, hb2⟩ := hcut
        obtain ⟨w2, rfl⟩ : ∃ w2, w2 = wc := ⟨_, rfl⟩
        have R2 := hide r2
        have R1' := hide (R1.out.kept hb2)
        have H20 := hide h20
        have B2 : Hid (Below w.heap.size w w2) := B1.out.trans (hb2.mono B1.out.size)
        clear r2 hb2 q2 R1 B1 V1 HB HN HV HN0 HV0 kn kv h20
        go_step
        exact late4 w a1 a2 ns vs c1 c2 n fn fv nm ct w2 _ _ _ _ _ _ _ _ _ _ _ _ _ _ _ _ _ _ _ _ _ _ _ _ _ _ _ _ _ _ _ _ _ _ _ _ _ _ _ _ _ _ _ _ _ _ _ _ _ _ _ _ _ _ _ _ _ _ _ _ _ _ _ _ _ _ _ _ _ _ _ _ _ _ _ _ _ _ _ _ _ _ _ _ _ _ _ _ _ _ _ _ _ _ _ _ _ _ _ _ _ _ _ _ _ _ _ _ _ _ _ _ _ _ _ _ _ _ _ _ _ _ _ _ _ _ _ _ _ _ _ _ _ _ _ _ _ _ _ _ _ _ _ _ _ _ _ _ _ _ _ _ _ _ _ _ _ _ _ _ _ _ _ _ _ _ _ _ _ _ _ _ _ _ _ _ _ _ _ _ _ _ _ _ _ _ _ _ _ _ _ _ _ _ _ _ _ _ l1 l2 EN.out k1 k2 l3 HS1.out HS2.out H10.out H20.out R1'.out R2.out B2.out
end Go.Proofs.Qxb6608963a
