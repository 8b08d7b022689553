/-
  FnLookupInsertedMember (4): from the two rows with the pair put in to the end.
-/
import Derived.Test.Qxb6608963aRest
namespace Go.Proofs.Qxb6608963a
open Go.RowKit
set_option linter.unusedVariables false

set_option maxRecDepth 20000 in
set_option maxHeartbeats 8000000 in
theorem ends_other (w : World) (a1 a2 : Option Addr) (ns vs : List ByteArray) (c1 c2 po n : Nat) (fn fv nm : ByteArray) (t1 : Int) (g : Nat) (w8 : World) (u13 u14 u29 u30 u31 u32 u33 u34 u35 u36 u37 u38 u39 u40 u41 u42 u43 u44 u45 u46 u47 u48 u49 u50 u51 u52 u53 u54 u55 u56 u57 u58 u59 u60 u61 u62 u63 u64 u65 u66 u67 u68 u69 u70 u71 u72 u73 u74 u75 u76 u77 u78 u79 u80 u81 u82 u83 u84 u85 u86 u87 u88 u89 u90 u91 u92 u93 u94 u95 u96 u97 u98 u99 u100 u101 u102 u103 u104 u105 u106 u107 u108 u109 u110 u111 u112 u113 u114 u115 u116 u117 u118 u119 u120 u121 u122 u123 u124 u125 u126 u127 u128 u129 u130 u131 u132 u133 u134 u135 u136 u137 u138 u139 u140 u141 u142 u143 u144 u145 u146 u147 u148 u149 u150 u151 u152 u153 u154 u155 u156 u157 u158 u159 u160 u161 u162 u163 u164 u165 u166 u167 u168 u169 u170 u171 u172 u173 u174 u175 u176 u177 u178 u179 u180 u181 u182 u183 u184 u185 u186 u187 u188 u189 u190 u191 u192 u193 u194 u195 u196 u197 u198 u199 u200 u201 u202 u203 u204 u205 u206 u207 u208 u209 u210 u211 u212 u213 u214 u215 u216 u217 u218 u219 u220 u221 u222 u223 u224 : Value)
    (l1 : ns.length ≤ 65536) (l2 : vs.length ≤ 65536) (en : min ns.length vs.length = n) (hpo : po ≤ n) (k1 : ns.length ≤ c1) (k2 : vs.length ≤ c2)
    (rn : Row w8 (some ⟨g, 0, Option.none⟩) (putIn ns fn po n)) (rv : Row w8 (some ⟨g + 1, 0, Option.none⟩) (putIn vs fv po n)) (r3 : Row w8 a1 ns) (r4 : Row w8 a2 vs) (b9 : Below w.heap.size w w8) (hX : (nm.toList == fn.toList) = false)
    (K : Act → World → Prop) (hK : ∀ a w', Code.wp Try.prog (tl (rest4 32)) (bodyPost Try.prog Try.f4 fun e w' => e = .returned (.bool true) ∧ Below w.heap.size w w') a w' → K a w') :
    Code.wp Try.prog (hd (rest4 32)) (Exit.then K (bodyPost Try.prog Try.f4 fun e w' => e = .returned (.bool true) ∧ Below w.heap.size w w')) { tmps := #[.slice a1 ns.length c1, .slice a2 vs.length c2, .string fn, .string fv, .string nm, .int .i64 (po : Int), undef, undef, undef, undef, undef, undef, .bool false, u13, u14, .int .i64 t1, .bool false, .int .i64 (n : Int), .slice (some ⟨g, 0, Option.none⟩) (po + 1 + (n - po)) (n + 1), .slice (some ⟨g + 1, 0, Option.none⟩) (po + 1 + (n - po)) (n + 1), undef, undef, undef, undef, undef, undef, undef, undef, undef, u29, u30, u31, u32, u33, u34, u35, u36, u37, u38, u39, u40, u41, u42, u43, u44, u45, u46, u47, u48, u49, u50, u51, u52, u53, u54, u55, u56, u57, u58, u59, u60, u61, u62, u63, u64, u65, u66, u67, u68, u69, u70, u71, u72, u73, u74, u75, u76, u77, u78, u79, u80, u81, u82, u83, u84, u85, u86, u87, u88, u89, u90, u91, u92, u93, u94, u95, u96, u97, u98, u99, u100, u101, u102, u103, u104, u105, u106, u107, u108, u109, u110, u111, u112, u113, u114, u115, u116, u117, u118, u119, u120, u121, u122, u123, u124, u125, u126, u127, u128, u129, u130, u131, u132, u133, u134, u135, u136, u137, u138, u139, u140, u141, u142, u143, u144, u145, u146, u147, u148, u149, u150, u151, u152, u153, u154, u155, u156, u157, u158, u159, u160, u161, u162, u163, u164, u165, u166, u167, u168, u169, u170, u171, u172, u173, u174, u175, u176, u177, u178, u179, u180, u181, u182, u183, u184, u185, u186, u187, u188, u189, u190, u191, u192, u193, u194, u195, u196, u197, u198, u199, u200, u201, u202, u203, u204, u205, u206, u207, u208, u209, u210, u211, u212, u213, u214, u215, u216, u217, u218, u219, u220, u221, u222, u223, u224], defers := [] } w8 := by
  simp only [rest4, body4, Try.f4, fromRegion, hd, tl, Nat.reduceBEq, cond_true, cond_false] at hK ⊢
  have hn65 : n ≤ 65536 := by omega
  have y1 : (po : Int) ≤ c1 := by omega
  have y2 : (po : Int) ≤ c2 := by omega
  have y3 : (0 : Int) ≤ po := by omega
  have y4 : (n : Int) ≤ c1 := by omega
  have y5 : (n : Int) ≤ c2 := by omega
  have y6 : (po : Int) ≤ n := by omega
  have y7 : n ≤ c1 := by omega
  have y8 : n ≤ c2 := by omega
  have y9 : po ≤ ns.length := by omega
  have y10 : po ≤ vs.length := by omega
  have y11 : n ≤ ns.length := by omega
  have y12 : n ≤ vs.length := by omega
  have EN := hide en
  clear en
  have RN := hide rn
  have RV := hide rv
  have R3 := hide r3
  have R4 := hide r4
  have B9 := hide b9
  clear rn rv r3 r4 b9
  have T1 := hide (putIn_length (f := fn) hpo y11)
  have T2 := hide (putIn_length (f := fv) hpo y12)
  obtain ⟨ps, hps⟩ : ∃ ps, (putIn ns fn po n).zip (putIn vs fv po n) = ps := ⟨_, rfl⟩
  have PS := hide hps
  have hpl : ps.length ≤ 65537 := by rw [← hps, List.length_zip, T1.out, T2.out]; omega
  clear hps
  go_wp2_with fail
  refine (newObj_p (some ⟨g, 0, Option.none⟩) (some ⟨g + 1, 0, Option.none⟩) (putIn ns fn po n) (putIn vs fv po n) _ _ _ _ ps _ T1.out T2.out PS.out RN.out RV.out (by rw [T1.out]; omega) (by rw [T2.out]; omega)).mono ?_
  rintro e wx ⟨rfl, cur, q, rfl, hob⟩
  have HOB := hide (obj_new hob w8 q)
  have HBN := hide (below_new w8 cur q)
  clear hob RN RV
  have LP : Hid (look ps nm = look (ns.zip vs) nm) := by
    show _ = _
    rw [← PS.out]
    exact look_putIn_other hpo EN.out hX
  obtain ⟨po', hpo'⟩ : ∃ ps2, ns.zip vs = ps2 := ⟨_, rfl⟩
  have PS2 := hide hpo'
  have hpl2 : po'.length ≤ 65536 := by rw [← hpo', List.length_zip]; omega
  rw [hpo'] at LP
  clear hpo'
  cases hL : look po' nm with
  | none =>
    have HL := hide hL
    clear hL
    go_wp2_with fail
    refine (str_no _ ps nm _ HOB.out (by omega) (LP.out.trans HL.out)).mono ?_
    rintro e wy ⟨rfl, hby⟩
    have BY : Hid (Below w8.heap.size w8 wy) := HBN.out.trans (hby.mono HBN.out.size)
    have R5 := hide (R3.out.kept BY.out)
    have R6 := hide (R4.out.kept BY.out)
    have B10 : Hid (Below w.heap.size w wy) := B9.out.trans (BY.out.mono B9.out.size)
    clear hby HBN HOB R3 R4 B9 BY
    go_wp2_with fail
    refine (newObj_p a1 a2 ns vs _ _ c1 c2 po' _ rfl rfl PS2.out R5.out R6.out (by omega) (by omega)).mono ?_
    rintro e wx ⟨rfl, cur2, q2, rfl, hob⟩
    have HO2 := hide (obj_new hob wy q2)
    clear hob
    go_wp2_with fail
    refine (str_no _ po' nm _ HO2.out (by omega) HL.out).mono ?_
    rintro e wz ⟨rfl, hbz⟩
    have B11 : Hid (Below wy.heap.size wy wz) := via_new hbz
    clear hbz HO2
    go_wp2_with fail
    go_ret
    exact ⟨rfl, B10.out.trans (B11.out.mono B10.out.size)⟩
  | some v =>
    have HL := hide hL
    clear hL
    go_wp2_with fail
    refine (str_yes _ ps nm v _ HOB.out (by omega) (LP.out.trans HL.out)).mono ?_
    rintro e wy ⟨rfl, hby⟩
    have BY : Hid (Below w8.heap.size w8 wy) := HBN.out.trans (hby.mono HBN.out.size)
    have R5 := hide (R3.out.kept BY.out)
    have R6 := hide (R4.out.kept BY.out)
    have B10 : Hid (Below w.heap.size w wy) := B9.out.trans (BY.out.mono B9.out.size)
    clear hby HBN HOB R3 R4 B9 BY
    go_wp2_with fail
    refine (newObj_p a1 a2 ns vs _ _ c1 c2 po' _ rfl rfl PS2.out R5.out R6.out (by omega) (by omega)).mono ?_
    rintro e wx ⟨rfl, cur2, q2, rfl, hob⟩
    have HO2 := hide (obj_new hob wy q2)
    clear hob
    go_wp2_with fail
    refine (str_yes _ po' nm v _ HO2.out (by omega) HL.out).mono ?_
    rintro e wz ⟨rfl, hbz⟩
    have B11 : Hid (Below wy.heap.size wy wz) := via_new hbz
    clear hbz HO2
    go_wp2_with fail
    go_ret
    exact ⟨rfl, B10.out.trans (B11.out.mono B10.out.size)⟩

set_option maxRecDepth 20000 in
set_option maxHeartbeats 8000000 in
theorem ends_same (w : World) (a1 a2 : Option Addr) (ns vs : List ByteArray) (c1 c2 po n : Nat) (fn fv nm : ByteArray) (t1 : Int) (g : Nat) (w8 : World) (u13 u14 u29 u30 u31 u32 u33 u34 u35 u36 u37 u38 u39 u40 u41 u42 u43 u44 u45 u46 u47 u48 u49 u50 u51 u52 u53 u54 u55 u56 u57 u58 u59 u60 u61 u62 u63 u64 u65 u66 u67 u68 u69 u70 u71 u72 u73 u74 u75 u76 u77 u78 u79 u80 u81 u82 u83 u84 u85 u86 u87 u88 u89 u90 u91 u92 u93 u94 u95 u96 u97 u98 u99 u100 u101 u102 u103 u104 u105 u106 u107 u108 u109 u110 u111 u112 u113 u114 u115 u116 u117 u118 u119 u120 u121 u122 u123 u124 u125 u126 u127 u128 u129 u130 u131 u132 u133 u134 u135 u136 u137 u138 u139 u140 u141 u142 u143 u144 u145 u146 u147 u148 u149 u150 u151 u152 u153 u154 u155 u156 u157 u158 u159 u160 u161 u162 u163 u164 u165 u166 u167 u168 u169 u170 u171 u172 u173 u174 u175 u176 u177 u178 u179 u180 u181 u182 u183 u184 u185 u186 u187 u188 u189 u190 u191 u192 u193 u194 u195 u196 u197 u198 u199 u200 u201 u202 u203 u204 u205 u206 u207 u208 u209 u210 u211 u212 u213 u214 u215 u216 u217 u218 u219 u220 u221 u222 u223 u224 : Value)
    (l1 : ns.length ≤ 65536) (l2 : vs.length ≤ 65536) (en : min ns.length vs.length = n) (hpo : po ≤ n) (k1 : ns.length ≤ c1) (k2 : vs.length ≤ c2)
    (rn : Row w8 (some ⟨g, 0, Option.none⟩) (putIn ns fn po n)) (rv : Row w8 (some ⟨g + 1, 0, Option.none⟩) (putIn vs fv po n)) (r3 : Row w8 a1 ns) (r4 : Row w8 a2 vs) (b9 : Below w.heap.size w w8) (hX : (nm.toList == fn.toList) = true)
    (K : Act → World → Prop) (hK : ∀ a w', Code.wp Try.prog (tl (rest4 32)) (bodyPost Try.prog Try.f4 fun e w' => e = .returned (.bool true) ∧ Below w.heap.size w w') a w' → K a w') :
    Code.wp Try.prog (hd (rest4 32)) (Exit.then K (bodyPost Try.prog Try.f4 fun e w' => e = .returned (.bool true) ∧ Below w.heap.size w w')) { tmps := #[.slice a1 ns.length c1, .slice a2 vs.length c2, .string fn, .string fv, .string nm, .int .i64 (po : Int), undef, undef, undef, undef, undef, undef, .bool false, u13, u14, .int .i64 t1, .bool false, .int .i64 (n : Int), .slice (some ⟨g, 0, Option.none⟩) (po + 1 + (n - po)) (n + 1), .slice (some ⟨g + 1, 0, Option.none⟩) (po + 1 + (n - po)) (n + 1), undef, undef, undef, undef, undef, undef, undef, undef, undef, u29, u30, u31, u32, u33, u34, u35, u36, u37, u38, u39, u40, u41, u42, u43, u44, u45, u46, u47, u48, u49, u50, u51, u52, u53, u54, u55, u56, u57, u58, u59, u60, u61, u62, u63, u64, u65, u66, u67, u68, u69, u70, u71, u72, u73, u74, u75, u76, u77, u78, u79, u80, u81, u82, u83, u84, u85, u86, u87, u88, u89, u90, u91, u92, u93, u94, u95, u96, u97, u98, u99, u100, u101, u102, u103, u104, u105, u106, u107, u108, u109, u110, u111, u112, u113, u114, u115, u116, u117, u118, u119, u120, u121, u122, u123, u124, u125, u126, u127, u128, u129, u130, u131, u132, u133, u134, u135, u136, u137, u138, u139, u140, u141, u142, u143, u144, u145, u146, u147, u148, u149, u150, u151, u152, u153, u154, u155, u156, u157, u158, u159, u160, u161, u162, u163, u164, u165, u166, u167, u168, u169, u170, u171, u172, u173, u174, u175, u176, u177, u178, u179, u180, u181, u182, u183, u184, u185, u186, u187, u188, u189, u190, u191, u192, u193, u194, u195, u196, u197, u198, u199, u200, u201, u202, u203, u204, u205, u206, u207, u208, u209, u210, u211, u212, u213, u214, u215, u216, u217, u218, u219, u220, u221, u222, u223, u224], defers := [] } w8 := by
  simp only [rest4, body4, Try.f4, fromRegion, hd, tl, Nat.reduceBEq, cond_true, cond_false] at hK ⊢
  have hn65 : n ≤ 65536 := by omega
  have y1 : (po : Int) ≤ c1 := by omega
  have y2 : (po : Int) ≤ c2 := by omega
  have y3 : (0 : Int) ≤ po := by omega
  have y4 : (n : Int) ≤ c1 := by omega
  have y5 : (n : Int) ≤ c2 := by omega
  have y6 : (po : Int) ≤ n := by omega
  have y7 : n ≤ c1 := by omega
  have y8 : n ≤ c2 := by omega
  have y9 : po ≤ ns.length := by omega
  have y10 : po ≤ vs.length := by omega
  have y11 : n ≤ ns.length := by omega
  have y12 : n ≤ vs.length := by omega
  have EN := hide en
  clear en
  have RN := hide rn
  have RV := hide rv
  have R3 := hide r3
  have R4 := hide r4
  have B9 := hide b9
  clear rn rv r3 r4 b9
  have T1 := hide (putIn_length (f := fn) hpo y11)
  have T2 := hide (putIn_length (f := fv) hpo y12)
  obtain ⟨ps, hps⟩ : ∃ ps, (putIn ns fn po n).zip (putIn vs fv po n) = ps := ⟨_, rfl⟩
  have PS := hide hps
  have hpl : ps.length ≤ 65537 := by rw [← hps, List.length_zip, T1.out, T2.out]; omega
  clear hps
  go_wp2_with fail
  refine (newObj_p (some ⟨g, 0, Option.none⟩) (some ⟨g + 1, 0, Option.none⟩) (putIn ns fn po n) (putIn vs fv po n) _ _ _ _ ps _ T1.out T2.out PS.out RN.out RV.out (by rw [T1.out]; omega) (by rw [T2.out]; omega)).mono ?_
  rintro e wx ⟨rfl, cur, q, rfl, hob⟩
  have HOB := hide (obj_new hob w8 q)
  have HBN := hide (below_new w8 cur q)
  clear hob RN RV
  obtain ⟨pl, hpl'⟩ : ∃ pl, (ns.take po).zip (vs.take po) = pl := ⟨_, rfl⟩
  have PL := hide hpl'
  have T3 : Hid ((ns.take po).length = po) := by show _ = _; rw [List.length_take]; omega
  have T4 : Hid ((vs.take po).length = po) := by show _ = _; rw [List.length_take]; omega
  have hpll : pl.length ≤ 65536 := by rw [← hpl', List.length_zip, T3.out]; omega
  clear hpl'
  cases hL : look pl nm with
  | none =>
    have HL := hide hL
    have LP : Hid (look ps nm = some fv) := by
      show _ = _
      rw [← PS.out]
      exact look_putIn_this hpo EN.out hX (by rw [PL.out]; exact hL)
    clear hL
    go_wp2_with fail
    refine (str_yes _ ps nm fv _ HOB.out (by omega) LP.out).mono ?_
    rintro e wy ⟨rfl, hby⟩
    have BY : Hid (Below w8.heap.size w8 wy) := HBN.out.trans (hby.mono HBN.out.size)
    have R5 := hide (R3.out.kept BY.out)
    have R6 := hide (R4.out.kept BY.out)
    have B10 : Hid (Below w.heap.size w wy) := B9.out.trans (BY.out.mono B9.out.size)
    clear hby HBN HOB R3 R4 B9 BY
    go_wp2_with fail
    go_region_with (first | (go_at_call 8; refine (newObj_p a1 a2 (ns.take po) (vs.take po) _ _ _ _ pl _ T3.out T4.out PL.out ?_ ?_ (by rw [T3.out]; omega) (by rw [T4.out]; omega)).mono ?_; exact row_take R5.out; exact row_take R6.out; rintro e w' ⟨rfl, cur2, q2, rfl, hob2⟩) | (go_at_call 7; refine (str_no _ pl nm _ ?_ (by omega) HL.out).mono ?_; exact obj_new hob2 _ 0; rintro e wz ⟨rfl, hbz⟩))
    have B11 : Hid (Below wy.heap.size wy wz) := via_new hbz
    clear hbz hob2
    go_wp2_with fail
    go_ret
    exact ⟨rfl, B10.out.trans (B11.out.mono B10.out.size)⟩
  | some v =>
    have HL := hide hL
    have LP : Hid (look ps nm = some v) := by
      show _ = _
      rw [← PS.out]
      exact look_putIn_left hpo EN.out (by rw [PL.out]; exact hL)
    clear hL
    go_wp2_with fail
    refine (str_yes _ ps nm v _ HOB.out (by omega) LP.out).mono ?_
    rintro e wy ⟨rfl, hby⟩
    have BY : Hid (Below w8.heap.size w8 wy) := HBN.out.trans (hby.mono HBN.out.size)
    have R5 := hide (R3.out.kept BY.out)
    have R6 := hide (R4.out.kept BY.out)
    have B10 : Hid (Below w.heap.size w wy) := B9.out.trans (BY.out.mono B9.out.size)
    clear hby HBN HOB R3 R4 B9 BY
    go_wp2_with fail
    go_region_with (first | (go_at_call 8; refine (newObj_p a1 a2 (ns.take po) (vs.take po) _ _ _ _ pl _ T3.out T4.out PL.out ?_ ?_ (by rw [T3.out]; omega) (by rw [T4.out]; omega)).mono ?_; exact row_take R5.out; exact row_take R6.out; rintro e w' ⟨rfl, cur2, q2, rfl, hob2⟩) | (go_at_call 7; refine (str_yes _ pl nm v _ ?_ (by omega) HL.out).mono ?_; exact obj_new hob2 _ 0; rintro e wz ⟨rfl, hbz⟩))
    have B11 : Hid (Below wy.heap.size wy wz) := via_new hbz
    clear hbz hob2
    go_wp2_with fail
    go_ret
    exact ⟨rfl, B10.out.trans (B11.out.mono B10.out.size)⟩

end Go.Proofs.Qxb6608963a
