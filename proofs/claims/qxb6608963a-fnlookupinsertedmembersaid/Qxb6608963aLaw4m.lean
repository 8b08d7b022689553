/-
  FnLookupInsertedMember (4): the pair is put into the two rows (make, six appends).
-/
import Derived.Test.Qxb6608963aLaw4e
namespace Go.Proofs.Qxb6608963a
open Go.RowKit
set_option linter.unusedVariables false

set_option maxRecDepth 20000 in
set_option maxHeartbeats 8000000 in
theorem mid4 (w : World) (a1 a2 : Option Addr) (ns vs : List ByteArray) (c1 c2 po n : Nat) (fn fv nm : ByteArray) (t1 : Int) (w2 : World) (u13 u14 u29 u30 u31 u32 u33 u34 u35 u36 u37 u38 u39 u40 u41 u42 u43 u44 u45 u46 u47 u48 u49 u50 u51 u52 u53 u54 u55 u56 u57 u58 u59 u60 u61 u62 u63 u64 u65 u66 u67 u68 u69 u70 u71 u72 u73 u74 u75 u76 u77 u78 u79 u80 u81 u82 u83 u84 u85 u86 u87 u88 u89 u90 u91 u92 u93 u94 u95 u96 u97 u98 u99 u100 u101 u102 u103 u104 u105 u106 u107 u108 u109 u110 u111 u112 u113 u114 u115 u116 u117 u118 u119 u120 u121 u122 u123 u124 u125 u126 u127 u128 u129 u130 u131 u132 u133 u134 u135 u136 u137 u138 u139 u140 u141 u142 u143 u144 u145 u146 u147 u148 u149 u150 u151 u152 u153 u154 u155 u156 u157 u158 u159 u160 u161 u162 u163 u164 u165 u166 u167 u168 u169 u170 u171 u172 u173 u174 u175 u176 u177 u178 u179 u180 u181 u182 u183 u184 u185 u186 u187 u188 u189 u190 u191 u192 u193 u194 u195 u196 u197 u198 u199 u200 u201 u202 u203 u204 u205 u206 u207 u208 u209 u210 u211 u212 u213 u214 u215 u216 u217 u218 u219 u220 u221 u222 u223 u224 : Value)
    (l1 : ns.length ≤ 65536) (l2 : vs.length ≤ 65536) (en : min ns.length vs.length = n) (hpo : po ≤ n) (k1 : ns.length ≤ c1) (k2 : vs.length ≤ c2)
    (n10 : a1 = Option.none → c1 = 0) (n20 : a2 = Option.none → c2 = 0) (r1 : Row w2 a1 ns) (r2 : Row w2 a2 vs) (b2 : Below w.heap.size w w2) :
    Code.wp Try.prog (rest4 24) (bodyPost Try.prog Try.f4 fun e w' => e = .returned (.bool true) ∧ Below w.heap.size w w') { tmps := #[.slice a1 ns.length c1, .slice a2 vs.length c2, .string fn, .string fv, .string nm, .int .i64 (po : Int), undef, undef, undef, undef, undef, undef, .bool false, u13, u14, .int .i64 t1, .bool false, .int .i64 (n : Int), undef, undef, undef, undef, undef, undef, undef, undef, undef, undef, undef, u29, u30, u31, u32, u33, u34, u35, u36, u37, u38, u39, u40, u41, u42, u43, u44, u45, u46, u47, u48, u49, u50, u51, u52, u53, u54, u55, u56, u57, u58, u59, u60, u61, u62, u63, u64, u65, u66, u67, u68, u69, u70, u71, u72, u73, u74, u75, u76, u77, u78, u79, u80, u81, u82, u83, u84, u85, u86, u87, u88, u89, u90, u91, u92, u93, u94, u95, u96, u97, u98, u99, u100, u101, u102, u103, u104, u105, u106, u107, u108, u109, u110, u111, u112, u113, u114, u115, u116, u117, u118, u119, u120, u121, u122, u123, u124, u125, u126, u127, u128, u129, u130, u131, u132, u133, u134, u135, u136, u137, u138, u139, u140, u141, u142, u143, u144, u145, u146, u147, u148, u149, u150, u151, u152, u153, u154, u155, u156, u157, u158, u159, u160, u161, u162, u163, u164, u165, u166, u167, u168, u169, u170, u171, u172, u173, u174, u175, u176, u177, u178, u179, u180, u181, u182, u183, u184, u185, u186, u187, u188, u189, u190, u191, u192, u193, u194, u195, u196, u197, u198, u199, u200, u201, u202, u203, u204, u205, u206, u207, u208, u209, u210, u211, u212, u213, u214, u215, u216, u217, u218, u219, u220, u221, u222, u223, u224], defers := [] } w2 := by
  simp only [rest4, body4, Try.f4, fromRegion, Nat.reduceBEq, cond_true, cond_false]
  have hn65 : n ≤ 65536 := by omega
  have y1 : (po : Int) ≤ c1 := by omega
  have y2 : (po : Int) ≤ c2 := by omega
  have y3 : (0 : Int) ≤ po := by omega
  have y4 : (n : Int) ≤ c1 := by omega
  have y5 : (n : Int) ≤ c2 := by omega
  have y6 : (po : Int) ≤ n := by omega
  have y7 : n ≤ c1 := by omega
  have y8 : n ≤ c2 := by omega
  have y9 : po ≤ ns.length := by omega
  have y10 : po ≤ vs.length := by omega
  have y11 : n ≤ ns.length := by omega
  have y12 : n ≤ vs.length := by omega
  have EN := hide en
  clear en
  have H10 := hide n10
  have H20 := hide n20
  have R1' := hide r1
  have R2 := hide r2
  have B2 := hide b2
  clear n10 n20 r1 r2 b2
  obtain ⟨z, hz, hmk⟩ := make_room n hn65
  obtain ⟨i9, hi, _, hz1, _⟩ := info_parts info9
  have BB : Hid (Below w2.heap.size w2 ((w2.alloc (.cells z 9)).alloc (.cells z 9))) := ((Below.refl w2.heap.size w2).alloc (Nat.le_refl _) _).alloc (by simp) _
  have O1 := hide (own_first w2 z n hz hn65)
  have O2 := hide (own_second w2 z n hz hn65)
  have L1 : Hid ((strs9 (ns.take po)).length = po * 1) := by show _ = _; rw [strs9_length, List.length_take]; omega
  have N1 : Hid (a1 = Option.none → po = 0 ∧ c1 = 0) := fun h => by have := H10.out h; omega
  have C1 := hide (row_cells (row_take (k := po) (R1'.out.kept BB.out)))
  go_upto_region 26 with fail
  go_upto_region 27 with (at_builtin; refine wpList_append_fits_any _ rfl _ _ 22 rfl 0 9 i9 1 Try.underlying22 hi hz1 w2.heap.size 0 (n + 1) [] rfl O1.out a1 po c1 (strs9 (ns.take po)) rfl L1.out N1.out C1.out (strs9_one _) (by omega) ?_; intro w3 o3 g3)
  rw [Nat.zero_add, List.nil_append] at o3
  have O3 := hide o3
  have P3 := hide (O2.out.kept g3 (Or.inr (ne_succ w2.heap.size)))
  have B3 := hide (after_append BB.out g3 (Nat.le_refl _))
  clear o3 g3 O1 O2 L1 N1 C1 BB hmk
  have C2 := hide (row_cells (row_new w3 [fn]))
  have Q3 := hide (O3.out.alloc (.cells #[.string fn] 9))
  go_upto_region 28 with (at_builtin; refine wpList_append_fits_any _ rfl _ _ 22 rfl 0 9 i9 1 Try.underlying22 hi hz1 w2.heap.size po (n + 1) _ rfl Q3.out (some ⟨w3.heap.size, 0, Option.none⟩) 1 1 (strs9 [fn]) rfl rfl (fun h => by cases h) C2.out (strs9_one _) (by omega) ?_; intro w4 o4 g4)
  have O4 := hide o4
  have P4 := hide ((P3.out.alloc (.cells #[.string fn] 9)).kept g4 (Or.inr (ne_succ w2.heap.size)))
  have B4 := hide (after_append (B3.out.alloc B3.out.size (.cells #[.string fn] 9)) g4 (Nat.le_refl _))
  clear o4 g4 O3 P3 B3 C2 Q3
  obtain ⟨x5, r5, n5, hsl5⟩ := slice_kn2 (c := c1) (k := po) (n := n) (R1'.out.kept B4.out) k1 H10.out hpo y7
  have N5 := hide n5
  have C5 := hide (row_cells r5)
  have L5 : Hid ((strs9 ((ns.drop po).take (n - po))).length = (n - po) * 1) := by show _ = _; rw [strs9_length, List.length_take, List.length_drop]; omega
  clear n5 r5
  go_upto_region 29 with (at_builtin; refine wpList_append_fits_any _ rfl _ _ 22 rfl 0 9 i9 1 Try.underlying22 hi hz1 w2.heap.size (po + 1) (n + 1) _ rfl O4.out x5 (n - po) (c1 - po) (strs9 ((ns.drop po).take (n - po))) rfl L5.out N5.out C5.out (strs9_one _) (by omega) ?_; intro w5 o5 g5)
  rw [strs9_putIn] at o5
  have O5 := hide o5
  have P5 := hide (P4.out.kept g5 (Or.inr (ne_succ w2.heap.size)))
  have B5 := hide (after_append B4.out g5 (Nat.le_refl _))
  clear o5 g5 O4 P4 B4 N5 C5 L5 hsl5
  have L6 : Hid ((strs9 (vs.take po)).length = po * 1) := by show _ = _; rw [strs9_length, List.length_take]; omega
  have N6 : Hid (a2 = Option.none → po = 0 ∧ c2 = 0) := fun h => by have := H20.out h; omega
  have C6 := hide (row_cells (row_take (k := po) (R2.out.kept B5.out)))
  go_upto_region 30 with (at_builtin; refine wpList_append_fits_any _ rfl _ _ 22 rfl 0 9 i9 1 Try.underlying22 hi hz1 (w2.heap.size + 1) 0 (n + 1) [] rfl P5.out a2 po c2 (strs9 (vs.take po)) rfl L6.out N6.out C6.out (strs9_one _) (by omega) ?_; intro w6 o6 g6)
  rw [Nat.zero_add, List.nil_append] at o6
  have P6 := hide o6
  have O6 := hide (O5.out.kept g6 (Or.inr (ne_pred w2.heap.size)))
  have B6 := hide (after_append B5.out g6 (Nat.le_succ _))
  clear o6 g6 O5 P5 B5 L6 N6 C6
  have C7 := hide (row_cells (row_new w6 [fv]))
  have Q7 := hide (P6.out.alloc (.cells #[.string fv] 9))
  go_upto_region 31 with (at_builtin; refine wpList_append_fits_any _ rfl _ _ 22 rfl 0 9 i9 1 Try.underlying22 hi hz1 (w2.heap.size + 1) po (n + 1) _ rfl Q7.out (some ⟨w6.heap.size, 0, Option.none⟩) 1 1 (strs9 [fv]) rfl rfl (fun h => by cases h) C7.out (strs9_one _) (by omega) ?_; intro w7 o7 g7)
  have P7 := hide o7
  have O7 := hide ((O6.out.alloc (.cells #[.string fv] 9)).kept g7 (Or.inr (ne_pred w2.heap.size)))
  have B7 := hide (after_append (B6.out.alloc B6.out.size (.cells #[.string fv] 9)) g7 (Nat.le_succ _))
  clear o7 g7 O6 P6 B6 C7 Q7
  obtain ⟨x8, r8, n8, hsl8⟩ := slice_kn2 (c := c2) (k := po) (n := n) (R2.out.kept B7.out) k2 H20.out hpo y8
  have N8 := hide n8
  have C8 := hide (row_cells r8)
  have L8 : Hid ((strs9 ((vs.drop po).take (n - po))).length = (n - po) * 1) := by show _ = _; rw [strs9_length, List.length_take, List.length_drop]; omega
  clear n8 r8
  go_upto_region 32 with (at_builtin; refine wpList_append_fits_any _ rfl _ _ 22 rfl 0 9 i9 1 Try.underlying22 hi hz1 (w2.heap.size + 1) (po + 1) (n + 1) _ rfl P7.out x8 (n - po) (c2 - po) (strs9 ((vs.drop po).take (n - po))) rfl L8.out N8.out C8.out (strs9_one _) (by omega) ?_; intro w8 o8 g8)
  rw [strs9_putIn] at o8
  have RN := hide (row_owned (O7.out.kept g8 (Or.inr (ne_pred w2.heap.size))))
  have RV := hide (row_owned o8)
  have B8 := hide (after_append B7.out g8 (Nat.le_succ _))
  have R3 := hide (R1'.out.kept B8.out)
  have R4 := hide (R2.out.kept B8.out)
  have B9 : Hid (Below w.heap.size w w8) := B2.out.trans (B8.out.mono B2.out.size)
  clear o8 g8 O7 P7 B7 N8 C8 L8 hsl8 B8 R1' R2 B2
  cases hX : (nm.toList == fn.toList) with
  | false => exact ends_other w a1 a2 ns vs c1 c2 po n fn fv nm t1 w2.heap.size w8 _ _ _ _ _ _ _ _ _ _ _ _ _ _ _ _ _ _ _ _ _ _ _ _ _ _ _ _ _ _ _ _ _ _ _ _ _ _ _ _ _ _ _ _ _ _ _ _ _ _ _ _ _ _ _ _ _ _ _ _ _ _ _ _ _ _ _ _ _ _ _ _ _ _ _ _ _ _ _ _ _ _ _ _ _ _ _ _ _ _ _ _ _ _ _ _ _ _ _ _ _ _ _ _ _ _ _ _ _ _ _ _ _ _ _ _ _ _ _ _ _ _ _ _ _ _ _ _ _ _ _ _ _ _ _ _ _ _ _ _ _ _ _ _ _ _ _ _ _ _ _ _ _ _ _ _ _ _ _ _ _ _ _ _ _ _ _ _ _ _ _ _ _ _ _ _ _ _ _ _ _ _ _ _ _ _ _ _ _ _ _ _ _ _ _ _ _ _ l1 l2 EN.out hpo k1 k2 RN.out RV.out R3.out R4.out B9.out hX _ (by assumption)
  | true => exact ends_same w a1 a2 ns vs c1 c2 po n fn fv nm t1 w2.heap.size w8 _ _ _ _ _ _ _ _ _ _ _ _ _ _ _ _ _ _ _ _ _ _ _ _ _ _ _ _ _ _ _ _ _ _ _ _ _ _ _ _ _ _ _ _ _ _ _ _ _ _ _ _ _ _ _ _ _ _ _ _ _ _ _ _ _ _ _ _ _ _ _ _ _ _ _ _ _ _ _ _ _ _ _ _ _ _ _ _ _ _ _ _ _ _ _ _ _ _ _ _ _ _ _ _ _ _ _ _ _ _ _ _ _ _ _ _ _ _ _ _ _ _ _ _ _ _ _ _ _ _ _ _ _ _ _ _ _ _ _ _ _ _ _ _ _ _ _ _ _ _ _ _ _ _ _ _ _ _ _ _ _ _ _ _ _ _ _ _ _ _ _ _ _ _ _ _ _ _ _ _ _ _ _ _ _ _ _ _ _ _ _ _ _ _ _ _ _ _ l1 l2 EN.out hpo k1 k2 RN.out RV.out R3.out R4.out B9.out hX _ (by assumption)
end Go.Proofs.Qxb6608963a
