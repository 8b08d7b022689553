/-
  FnLookupInsertedMember (4): behind the copies: the sums, the place; then the middle and the ends.
-/
import Derived.Test.Qxb6608963aLaw4m
namespace Go.Proofs.Qxb6608963a
open Go.RowKit
set_option linter.unusedVariables false

set_option maxRecDepth 20000 in
set_option maxHeartbeats 8000000 in
theorem late4 (w : World) (a1 a2 : Option Addr) (ns vs : List ByteArray) (c1 c2 n : Nat) (fn fv nm : ByteArray) (ct : Int) (w2 : World) (u13 u14 u29 u30 u31 u32 u33 u34 u35 u36 u37 u38 u39 u40 u41 u42 u43 u44 u45 u46 u47 u48 u49 u50 u51 u52 u53 u54 u55 u56 u57 u58 u59 u60 u61 u62 u63 u64 u65 u66 u67 u68 u69 u70 u71 u72 u73 u74 u75 u76 u77 u78 u79 u80 u81 u82 u83 u84 u85 u86 u87 u88 u89 u90 u91 u92 u93 u94 u95 u96 u97 u98 u99 u100 u101 u102 u103 u104 u105 u106 u107 u108 u109 u110 u111 u112 u113 u114 u115 u116 u117 u118 u119 u120 u121 u122 u123 u124 u125 u126 u127 u128 u129 u130 u131 u132 u133 u134 u135 u136 u137 u138 u139 u140 u141 u142 u143 u144 u145 u146 u147 u148 u149 u150 u151 u152 u153 u154 u155 u156 u157 u158 u159 u160 u161 u162 u163 u164 u165 u166 u167 u168 u169 u170 u171 u172 u173 u174 u175 u176 u177 u178 u179 u180 u181 u182 u183 u184 u185 u186 u187 u188 u189 u190 u191 u192 u193 u194 u195 u196 u197 u198 u199 u200 u201 u202 u203 u204 u205 u206 u207 u208 u209 u210 u211 u212 u213 u214 u215 u216 u217 u218 u219 u220 u221 u222 u223 u224 : Value)
    (l1 : ns.length ≤ 65536) (l2 : vs.length ≤ 65536) (en : min ns.length vs.length = n) (k1 : ns.length ≤ c1) (k2 : vs.length ≤ c2) (l3 : fn.size + fv.size + nm.size ≤ 1048576) (s1 : Small ns) (s2 : Small vs)
    (n10 : a1 = Option.none → c1 = 0) (n20 : a2 = Option.none → c2 = 0) (r1 : Row w2 a1 ns) (r2 : Row w2 a2 vs) (b2 : Below w.heap.size w w2) :
    Code.wp Try.prog (rest4 15) (bodyPost Try.prog Try.f4 fun e w' => e = .returned (.bool true) ∧ Below w.heap.size w w') { tmps := #[.slice a1 ns.length c1, .slice a2 vs.length c2, .string fn, .string fv, .string nm, .int .i64 ct, undef, undef, undef, undef, undef, undef, .bool false, u13, u14, undef, undef, undef, undef, undef, undef, undef, undef, undef, undef, undef, undef, undef, undef, u29, u30, u31, u32, u33, u34, u35, u36, u37, u38, u39, u40, u41, u42, u43, u44, u45, u46, u47, u48, u49, u50, u51, u52, u53, u54, u55, u56, u57, u58, u59, u60, u61, u62, u63, u64, u65, u66, u67, u68, u69, u70, u71, u72, u73, u74, u75, u76, u77, u78, u79, u80, u81, u82, u83, u84, u85, u86, u87, u88, u89, u90, u91, u92, u93, u94, u95, u96, u97, u98, u99, u100, u101, u102, u103, u104, u105, u106, u107, u108, u109, u110, u111, u112, u113, u114, u115, u116, u117, u118, u119, u120, u121, u122, u123, u124, u125, u126, u127, u128, u129, u130, u131, u132, u133, u134, u135, u136, u137, u138, u139, u140, u141, u142, u143, u144, u145, u146, u147, u148, u149, u150, u151, u152, u153, u154, u155, u156, u157, u158, u159, u160, u161, u162, u163, u164, u165, u166, u167, u168, u169, u170, u171, u172, u173, u174, u175, u176, u177, u178, u179, u180, u181, u182, u183, u184, u185, u186, u187, u188, u189, u190, u191, u192, u193, u194, u195, u196, u197, u198, u199, u200, u201, u202, u203, u204, u205, u206, u207, u208, u209, u210, u211, u212, u213, u214, u215, u216, u217, u218, u219, u220, u221, u222, u223, u224], defers := [] } w2 := by
  conv =>
    arg 2
    simp only [rest4, body4, Try.f4, fromRegion, Nat.reduceBEq, cond_true, cond_false]
  have hmin := fun ats ty w => run_min_int ats ty ns.length vs.length w
  rw [en] at hmin
  have hn65 : n ≤ 65536 := by omega
  have EN := hide en
  have H10 := hide n10
  have H20 := hide n20
  have R1' := hide r1
  have R2 := hide r2
  have B2 := hide b2
  have HS1 := hide s1
  have HS2 := hide s2
  clear en n10 n20 r1 r2 b2 s1 s2
  go_wp2_with fail
  refine (sum_any _ (by omega) (by omega) a1 ns c1 w2 R1'.out (by omega) HS1.out).mono ?_
  rintro e w9 ⟨t1, o1, rfl, hw9, ho1⟩
  have hw := hw9.symm
  clear hw9
  subst hw
  cases o1 with
  | true =>
    clear ho1
    go_wp2_with fail
    go_ret
    exact ⟨rfl, B2.out⟩
  | false =>
    obtain ⟨ht0, ht1⟩ := ho1 rfl
    clear ho1
    go_wp2_with fail
    refine (sum_any _ (by omega) (by omega) a2 vs c2 _ R2.out (by omega) HS2.out).mono ?_
    rintro e w9 ⟨t2, o2, rfl, hw9, ho2⟩
    have hw := hw9.symm
    clear hw9
    subst hw
    cases o2 with
    | true =>
      clear ho2
      go_wp2_with fail
      go_ret
      exact ⟨rfl, B2.out⟩
    | false =>
      clear ho2
      go_upto_region 22 with fail
      go_cut [119] (fun s119 wc => BoolIs ct n s119 ∧ wc = w2)
      case first =>
        by_cases hc0 : ct < 0
        · go_wp2_with fail
          go_meet
          case rel => exact ⟨⟨true, rfl, fun h => by cases h⟩, rfl⟩
        · by_cases hc1 : (n : Int) < ct
          · go_wp2_with fail
            go_meet
            case rel => exact ⟨⟨true, by first | rfl | simp [hc0, hc1], fun h => by cases h⟩, rfl⟩
          · go_wp2_with fail
            go_meet
            case rel => exact ⟨⟨false, by first | rfl | simp [hc0, hc1], fun _ => ⟨by omega, by omega⟩⟩, rfl⟩
      case rest =>
        obtain ⟨⟨bb, rfl, hbb⟩, hwc⟩ := hcut
        have hwc' := hwc.symm
        clear hwc
        subst hwc'
        go_upto_if 119 with fail
        go_cut [5] (fun s5 wc => PosIs n s5 ∧ wc = w2)
        case first =>
          cases bb with
          | true =>
            go_wp2_with fail
            go_meet
            case rel => exact ⟨⟨n, Nat.le_refl _, rfl⟩, rfl⟩
          | false =>
            obtain ⟨hc0, hc1⟩ := hbb rfl
            obtain ⟨cu, rfl⟩ := Int.eq_ofNat_of_zero_le hc0
            go_wp2_with fail
            go_meet
            case rel => exact ⟨⟨cu, by omega, rfl⟩, rfl⟩
        case rest =>
        obtain ⟨⟨po, hpo, rfl⟩, hwc⟩ := hcut
        have hwc' := hwc.symm
        clear hwc
        subst hwc'
        go_step
        exact mid4 w a1 a2 ns vs c1 c2 po n fn fv nm t1 w2 _ _ _ _ _ _ _ _ _ _ _ _ _ _ _ _ _ _ _ _ _ _ _ _ _ _ _ _ _ _ _ _ _ _ _ _ _ _ _ _ _ _ _ _ _ _ _ _ _ _ _ _ _ _ _ _ _ _ _ _ _ _ _ _ _ _ _ _ _ _ _ _ _ _ _ _ _ _ _ _ _ _ _ _ _ _ _ _ _ _ _ _ _ _ _ _ _ _ _ _ _ _ _ _ _ _ _ _ _ _ _ _ _ _ _ _ _ _ _ _ _ _ _ _ _ _ _ _ _ _ _ _ _ _ _ _ _ _ _ _ _ _ _ _ _ _ _ _ _ _ _ _ _ _ _ _ _ _ _ _ _ _ _ _ _ _ _ _ _ _ _ _ _ _ _ _ _ _ _ _ _ _ _ _ _ _ _ _ _ _ _ _ _ _ _ _ _ _ l1 l2 EN.out hpo k1 k2 H10.out H20.out R1'.out R2.out B2.out
end Go.Proofs.Qxb6608963a
