/-
  A slice of strings: copied first (make, copy), cut; objects made of it; what the first index says of a look-up.
-/
import Derived.Test.Qxb6608963aFirst
import Derived.Deep.WholeRow
import Derived.Deep.DeepCutAuto
import Derived.Deep.RegionWith
namespace Go.Proofs.Qxb6608963a
open Go.RowKit
set_option linter.unusedVariables false

theorem info9 : (Try.prog.info? 9).map (fun i => (i.zero, i.size, i.bytes)) = some (some (.string ByteArray.empty), 1, 16) := by kernel_rfl
theorem size9 : (Try.prog.info? 9).map (·.size) = some 1 := by kernel_rfl

theorem make_strs (n : Nat) (hn : n ≤ 1048577) : ∃ z : Array Value, z.size = n ∧ ∀ w : World,
    (Instr.makeSlice 22 (.int .i64 (n : Int)) (.int .i64 (n : Int))).run Try.prog w = .ok (.slice (some ⟨w.heap.size, 0, Option.none⟩) n n) (w.alloc (.cells z 9)) := by
  obtain ⟨i, hi, hz0, hz1, hz2⟩ := info_parts info9
  refine ⟨madeCells (Value.string ByteArray.empty).cells n, size_madeCells _ _, fun w => ?_⟩
  have h := run_make (P := Try.prog) w 22 9 i _ Try.underlying22 hi hz0 .i64 .i64 (n : Int) (n : Int) (by omega) (by omega) (by rw [hz2]; omega) (by omega)
  rw [h, Int.toNat_natCast, hz1, Nat.mul_one]

/-- The cells of a row of strings. -/
def strs9 (ss : List ByteArray) : List Value := ss.map fun s => Value.string s
theorem strs9_length (ss : List ByteArray) : (strs9 ss).length = ss.length := by simp [strs9]
theorem strs9_one (ss : List ByteArray) : ∀ v ∈ strs9 ss, v.oneCell' = true := by
  intro v hv
  obtain ⟨s, _, rfl⟩ := List.mem_map.1 hv
  rfl
theorem strs9_at {ss : List ByteArray} {j : Nat} {v : Value} (h : (strs9 ss)[j]? = some v) : ∃ s, ss[j]? = some s ∧ v = .string s := by
  unfold strs9 at h
  rw [List.getElem?_map] at h
  cases hs : ss[j]? with
  | none => rw [hs] at h; cases h
  | some s => rw [hs] at h; exact ⟨s, rfl, (Option.some.inj h).symm⟩

theorem copy_strs (ao : Option Addr) (ss : List ByteArray) (c : Nat) (z : Array Value) (hz : z.size = ss.length) (ty : TypeId) (w : World) (hr : Row w ao ss) (h0 : ss = [] → ao.isSome = true) :
    (Builtin.copy_ #[22, 22] ty #[.slice (some ⟨w.heap.size, 0, Option.none⟩) ss.length ss.length, .slice ao ss.length c]).run Try.prog (w.alloc (.cells z 9)) = .ok (goInt ss.length) (w.alloc (.cells (strs9 ss).toArray 9)) := by
  rcases hr with rfl | ⟨b, off, rfl, hc⟩
  · obtain ⟨a, rfl⟩ := Option.isSome_iff_exists.1 (h0 rfl)
    have hz' : z = #[] := by simpa using hz
    subst hz'
    have h := run_copy_none (P := Try.prog) (w.alloc (.cells #[] 9)) 22 22 ty 9 (some ⟨w.heap.size, 0, Option.none⟩) (some a) 0 0 0 c Try.underlying22 size9 (by simp)
    exact h
  · have h := run_copy_row (P := Try.prog) (w.alloc (.cells z 9)) 22 22 ty 9 w.heap.size 0 ss.length ss.length ⟨b, off, Option.none⟩ ss.length c z 9 (strs9 ss) Try.underlying22 size9 (heap_alloc_last w _)
      (by rw [strs9_length]; simp) (fun j v hv => by
        obtain ⟨s, hs, rfl⟩ := strs9_at hv
        have h1 := hc j s hs
        have hadd : (⟨b, off, Option.none⟩ : Addr).add j = ⟨b, off + j, Option.none⟩ := Addr.add_lit b off j
        rw [hadd, World.cell?_alloc_lt w _ _ (World.block_lt_of_cell? w _ h1)]
        exact h1) (by rw [strs9_length]; omega) (strs9_one ss)
    rw [World.setRow_alloc_new] at h
    rw [h, strs9_length]
    congr 2
    simp [strs9, hz]

theorem row_new (w : World) (ss : List ByteArray) : Row (w.alloc (.cells (strs9 ss).toArray 9)) (some ⟨w.heap.size, 0, Option.none⟩) ss := by
  refine .inr ⟨w.heap.size, 0, rfl, fun i s hs => ?_⟩
  rw [Nat.zero_add, World.cell?_alloc_new]
  simp [strs9, hs]

theorem newObj_p (an av : Option Addr) (ns vs : List ByteArray) (ln lv cn cv : Nat) (ps : List (ByteArray × ByteArray)) (w : World) (h1 : ns.length = ln) (h2 : vs.length = lv) (hps : ns.zip vs = ps) (hn : Row w an ns) (hv : Row w av vs) (hl : ns.length ≤ 1048576) (hl2 : vs.length ≤ 1048576) :
    Calls Try.prog 8 #[.slice an ln cn, .slice av lv cv] w fun e w' => NewEnd w ps e w' := by
  subst h1; subst h2; subst hps
  exact newObj_any an av ns vs cn cv w hn hv hl hl2

theorem obj_new {cur : Array Value} {ps : List (ByteArray × ByteArray)} (h : IsObj cur ps) (w : World) (k : Nat) : ObjAt ((w.alloc (.cells cur 37)).drewN k) w.heap.size ps := by
  intro j p hp
  have h1 := h j p hp
  refine ⟨?_, ?_⟩
  · show (w.alloc (.cells cur 37)).cell? _ = _
    rw [World.cell?_alloc_new]; exact h1.1
  · show (w.alloc (.cells cur 37)).cell? _ = _
    rw [World.cell?_alloc_new]; exact h1.2
theorem below_new (w : World) (cur : Array Value) (k : Nat) : Below w.heap.size w ((w.alloc (.cells cur 37)).drewN k) :=
  Below.trans ((Below.refl w.heap.size w).alloc (Nat.le_refl _) (.cells cur 37)) ⟨rfl, rfl, rfl, Nat.le_refl _, fun _ _ => rfl⟩

theorem row_take {w : World} {ao : Option Addr} {ss : List ByteArray} {k : Nat} (h : Row w ao ss) : Row w ao (ss.take k) := by
  rcases h with rfl | ⟨b, off, e, hc⟩
  · exact .inl (by simp)
  · refine .inr ⟨b, off, e, fun i s hs => ?_⟩
    rw [List.getElem?_take] at hs
    split at hs
    · exact hc i s hs
    · cases hs

theorem row_cut {w : World} {ao : Option Addr} {ss : List ByteArray} {c k m : Nat} (h : Row w ao ss) (hc : ss.length ≤ c) : Row w (if c = k then ao else Option.map (fun x => x.add k) ao) ((ss.drop k).take m) := by
  rcases h with rfl | ⟨b, off, e, hc'⟩
  · exact .inl (by simp)
  · by_cases hk : c = k
    · refine .inl ?_
      rw [List.drop_eq_nil_of_le (by omega)]; simp
    · rw [if_neg hk]
      subst e
      refine .inr ⟨b, off + k, by rw [Option.map_some, Addr.add_lit], fun i s hs => ?_⟩
      rw [List.getElem?_take] at hs
      split at hs
      · rw [List.getElem?_drop] at hs
        rw [Nat.add_assoc]
        exact hc' _ s hs
      · cases hs

theorem via_new {w w5 : World} {cur : Array Value} {k : Nat} (hb : Below ((w.alloc (.cells cur 37)).drewN k).heap.size ((w.alloc (.cells cur 37)).drewN k) w5) : Below w.heap.size w w5 :=
  (below_new w cur k).trans (hb.mono (below_new w cur k).size)

theorem zip_right {ns vs : List ByteArray} {n k : Nat} (en : min ns.length vs.length = n) : ((ns.drop k).take (n - k)).zip ((vs.drop k).take (n - k)) = (ns.drop k).zip (vs.drop k) :=
  zip_min _ _ _ (by rw [List.length_drop, List.length_drop]; omega)

/-- 'xs[k:n]': a row again, its address under a letter. -/
theorem slice_kn {w : World} {ao : Option Addr} {ss : List ByteArray} {c k n : Nat} (h : Row w ao ss) (hc : ss.length ≤ c) (hk : k ≤ n) (hn : n ≤ c) :
    ∃ xo, Row w xo ((ss.drop k).take (n - k)) ∧ ∀ W : World, (Instr.sliceAt 22 (.slice ao ss.length c) (some (.int .i64 (k : Int))) (some (.int .i64 (n : Int))) Option.none).run Try.prog W = .ok (.slice xo (n - k) (c - k)) W := by
  refine ⟨_, row_cut h hc (k := k), fun W => ?_⟩
  have he : Try.prog.elem 22 = 9 := by simp [Program.elem, Try.underlying22]
  have hu : Try.prog.underlying 22 = some (.slice (Try.prog.elem 22)) := by rw [Try.underlying22, he]
  have hs : (sizeOf 9).run Try.prog W = .ok 1 W := by kernel_rfl
  rw [run_sliceAt_slice W 22 _ _ _ _ hu, run_slice_lh W 22 ao ss.length c hu .i64 .i64 k n (by omega) (by omega) (by omega), he, hs]
  simp [Result.andThen, sliced]

theorem first_no {ns vs : List ByteArray} {n : Nat} {ps : List (ByteArray × ByteArray)} {nm s : ByteArray} {k : Nat} (en : min ns.length vs.length = n) (hps : ns.zip vs = ps) (hL : look ps nm = Option.none) (hk : k < n) (hp : ns[k]? = some s) (hq : (s.toList == nm.toList) = true) (hm : missing (ns.take k) nm = true) : False := by
  subst hps
  have hkv : k < vs.length := by omega
  have hkn : k < ns.length := by omega
  have h1 : look ((ns.zip vs).take k) nm = Option.none := by
    have e : (ns.zip vs).take k = (ns.take k).zip (vs.take k) := by unfold List.zip; rw [List.take_zipWith]
    rw [e]; exact look_missing hm
  have h2 := zip_at hkn hkv
  rw [at_some hkn] at hp
  obtain rfl := Option.some.inj hp
  rw [look_at h1 h2 hq] at hL
  cases hL

theorem first_yes {ns vs : List ByteArray} {n : Nat} {ps : List (ByteArray × ByteArray)} {nm s v : ByteArray} {k : Nat} (en : min ns.length vs.length = n) (hps : ns.zip vs = ps) (hL : look ps nm = some v) (hk : k < n) (hp : ns[k]? = some s) (hq : (s.toList == nm.toList) = true) (hm : missing (ns.take k) nm = true) : vs[k]? = some v := by
  subst hps
  have hkv : k < vs.length := by omega
  have hkn : k < ns.length := by omega
  have h1 : look ((ns.zip vs).take k) nm = Option.none := by
    have e : (ns.zip vs).take k = (ns.take k).zip (vs.take k) := by unfold List.zip; rw [List.take_zipWith]
    rw [e]; exact look_missing hm
  have h2 := zip_at hkn hkv
  rw [at_some hkn] at hp
  obtain rfl := Option.some.inj hp
  rw [look_at h1 h2 hq] at hL
  rw [at_some hkv]
  exact hL
theorem first_not {ns vs : List ByteArray} {n : Nat} {ps : List (ByteArray × ByteArray)} {nm v : ByteArray} (en : min ns.length vs.length = n) (hps : ns.zip vs = ps) (hL : look ps nm = some v) (hm : missing (ns.take n) nm = true) : False := by
  subst hps
  have h := look_missing (vs := vs.take n) hm
  rw [zip_min ns vs n en.symm] at h
  rw [h] at hL
  cases hL

/-- A slice of strings that the law holds: its row, its room. -/
def Held (wc : World) (v : Value) (ss : List ByteArray) : Prop := ∃ ao c, v = .slice ao ss.length c ∧ ss.length ≤ c ∧ Row wc ao ss

end Go.Proofs.Qxb6608963a
