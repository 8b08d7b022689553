/-
  The walks of zzc1Sum (6) and ZZnewStringObject (8).
-/
import Derived.Test.Qxb6608963aRows
import Derived.Test.Qxb6608963aPlain
import Derived.WalkKit
import Derived.ProofKit
import Derived.WalkSpells
import Derived.Deep.QuietTactic
import Derived.BigQuiet
namespace Go.Proofs.Qxb6608963a
open Go.RowKit
set_option linter.unusedVariables false

theorem hide {p : Prop} (h : p) : Hid p := h

/-- A row of strings that a slice leads to (nothing is asked where there is none). -/
def Row (w : World) (ao : Option Addr) (ss : List ByteArray) : Prop :=
  ss = [] ∨ ∃ b off, ao = some ⟨b, off, Option.none⟩ ∧ ∀ i s, ss[i]? = some s → w.cell? ⟨b, off + i, Option.none⟩ = some (.string s)

theorem Row.kept {w w' : World} {ao : Option Addr} {ss : List ByteArray} (h : Row w ao ss) (hb : Below w.heap.size w w') : Row w' ao ss := by
  rcases h with h | ⟨b, off, e, hc⟩
  · exact .inl h
  · refine .inr ⟨b, off, e, fun i s hs => ?_⟩
    have h1 := hc i s hs
    rw [hb.cell (p := ⟨b, off + i, Option.none⟩) (World.block_lt_of_cell? w _ h1)]
    exact h1

/-- Each string is short. -/
def Small (ss : List ByteArray) : Prop := ∀ (i : Nat) (s : ByteArray), ss[i]? = some s → s.size ≤ 1048576
theorem at_some {ss : List ByteArray} {k : Nat} (h : k < ss.length) : ss[k]? = some ss[k] := by simp

/-- How zzc1Sum ends. -/
def SumEnd (w : World) (e : Ending) (w' : World) : Prop := ∃ (t' : Int) (o : Bool), e = .returned (.tuple #[.int .i64 t', .bool o]) ∧ w' = w ∧ (o = false → 0 ≤ t' ∧ t' ≤ 1048576)

set_option maxHeartbeats 400000 in
theorem sum_any (t : Int) (h0 : 0 ≤ t) (h1 : t ≤ 1048576) (ao : Option Addr) (ss : List ByteArray) (c : Nat) (w : World) (hr : Row w ao ss) (hl : ss.length ≤ 1048576) (hz : Small ss) :
    Calls Try.prog 6 #[.int .i64 t, .slice ao ss.length c] w fun e w' => SumEnd w e w' := by
  rcases hr with rfl | ⟨b, off, rfl, hc⟩
  · clear hz
    go_enter Try.func6, Try.ntmps6
    go_wp2_with fail
    go_loop [0, 6] (fun u i => u = .int .i64 t ∧ i = .int .i64 0) (fun _ _ => 0)
    case atStart => exact ⟨rfl, rfl⟩
    case round =>
      obtain ⟨rfl, rfl⟩ := hrel
      go_wp2_with fail
      go_ret2
      exact ⟨_, _, rfl, rfl, fun _ => ⟨h0, h1⟩⟩
  · have HC := hide hc
    have HZ := hide hz
    clear hc hz
    go_enter Try.func6, Try.ntmps6
    go_wp2_with fail
    go_loop [0, 6] (fun u i => ∃ (k : Nat) (q : Int), k ≤ ss.length ∧ i = .int .i64 k ∧ u = .int .i64 q ∧ 0 ≤ q ∧ q ≤ 1048576) (fun _ i => ss.length - (intOf i).toNat)
    case atStart => exact ⟨0, t, by omega, rfl, rfl, h0, h1⟩
    case round =>
      obtain ⟨k, q, hk, rfl, rfl, hq0, hq1⟩ := hrel
      by_cases hlt : k < ss.length
      · have hcell := HC.out k _ (at_some hlt)
        have hs := HZ.out k _ (at_some hlt)
        obtain ⟨s, es⟩ : ∃ s, ss[k] = s := ⟨_, rfl⟩
        rw [es] at hcell hs
        clear es
        have hlt' : (k : Int) < ss.length := by omega
        by_cases ht : (1048576 : Int) < q + (16 + s.size)
        · go_wp2_with fail
          go_ret2
          exact ⟨_, _, rfl, rfl, fun h => by cases h⟩
        · go_wp2_with fail
          go_round
          case rel => exact ⟨k + 1, _, by omega, by go_num, rfl, by omega, by omega⟩
          case measure => simp [intOf]; omega
      · go_wp2_with fail
        go_ret2
        exact ⟨_, _, rfl, rfl, fun _ => ⟨hq0, hq1⟩⟩

theorem run_min_int (ats : Array TypeId) (ty : TypeId) (a b : Nat) (w : World) :
    (Builtin.min_ ats ty #[.int .i64 (a : Int), .int .i64 (b : Int)]).run Try.prog w = .ok (.int .i64 ((min a b : Nat) : Int)) w := by
  simp [Builtin.min_, Builtin.min2]
  split <;> omega

theorem info37 : (Try.prog.info? 37).map (fun i => (i.zero, i.size, i.bytes)) = some (some (.agg #[.string ByteArray.empty, .nilIface]), 2, 32) := by kernel_rfl

theorem make_obj (n : Nat) (hn : n ≤ 1048576) : ∃ z : Array Value, z.size = n * 2 ∧ ∀ w : World,
    (Instr.makeSlice 29 (.int .i64 (n : Int)) (.int .i64 (n : Int))).run Try.prog w = .ok (.slice (some ⟨w.heap.size, 0, Option.none⟩) n n) (w.alloc (.cells z 37)) := by
  obtain ⟨i, hi, hz0, hz1, hz2⟩ := info_parts info37
  refine ⟨madeCells (Value.agg #[.string ByteArray.empty, .nilIface]).cells (n * 2), size_madeCells _ _, fun w => ?_⟩
  have h := run_make (P := Try.prog) w 29 37 i _ Try.underlying29 hi hz0 .i64 .i64 (n : Int) (n : Int) (by omega) (by omega) (by rw [hz2]; omega) (by omega)
  rw [h, Int.toNat_natCast, hz1]

/-- The members of an object: pair j lies in cells 2j, 2j+1. -/
def IsObj (cur : Array Value) (ps : List (ByteArray × ByteArray)) : Prop :=
  ∀ j p, ps[j]? = some p → cur[j * 2]? = some (.string p.1) ∧ cur[j * 2 + 1]? = some (.iface 9 (.string p.2))

theorem isObj_step {cur : Array Value} {ps : List (ByteArray × ByteArray)} {k : Nat} {p : ByteArray × ByteArray} (h : IsObj cur (ps.take k)) (hp : ps[k]? = some p) (hs : cur.size = ps.length * 2) :
    IsObj ((cur.setIfInBounds (k * 2) (.string p.1)).setIfInBounds (k * 2 + 1) (.iface 9 (.string p.2))) (ps.take (k + 1)) := by
  have hk := (List.getElem?_eq_some_iff.1 hp).1
  intro j q hq
  rw [List.getElem?_take] at hq
  split at hq
  · rename_i hj
    by_cases e : j = k
    · subst e
      rw [hp] at hq
      obtain rfl := Option.some.inj hq
      refine ⟨?_, ?_⟩
      · rw [Array.getElem?_setIfInBounds_ne (by omega), Array.getElem?_setIfInBounds_self_of_lt (by omega)]
      · rw [Array.getElem?_setIfInBounds_self_of_lt (by simp; omega)]
    · have h1 := h j q (by rw [List.getElem?_take, if_pos (by omega)]; exact hq)
      refine ⟨?_, ?_⟩
      · rw [Array.getElem?_setIfInBounds_ne (by omega), Array.getElem?_setIfInBounds_ne (by omega)]; exact h1.1
      · rw [Array.getElem?_setIfInBounds_ne (by omega), Array.getElem?_setIfInBounds_ne (by omega)]; exact h1.2
  · cases hq

theorem two_sets (w : World) (cur : Array Value) (k q : Nat) (a b : Value) :
    (((w.alloc (.cells cur 37)).drewN q).setCell ⟨w.heap.size, k * 2, Option.none⟩ a).setCell ⟨w.heap.size, k * 2 + 1, Option.none⟩ b = (w.alloc (.cells ((cur.setIfInBounds (k * 2) a).setIfInBounds (k * 2 + 1) b) 37)).drewN q := by
  show (((w.alloc (.cells cur 37)).setCell ⟨w.heap.size, k * 2, Option.none⟩ a).setCell ⟨w.heap.size, k * 2 + 1, Option.none⟩ b).drewN q = _
  rw [World.setCell_alloc_new, World.setCell_alloc_new]

/-- How ZZnewStringObject ends. -/
def NewEnd (w : World) (ps : List (ByteArray × ByteArray)) (e : Ending) (w' : World) : Prop :=
  e = .returned (.slice (some ⟨w.heap.size, 0, Option.none⟩) ps.length ps.length) ∧ ∃ cur k, w' = (w.alloc (.cells cur 37)).drewN k ∧ IsObj cur ps

theorem zip_at {ns vs : List ByteArray} {k : Nat} (h1 : k < ns.length) (h2 : k < vs.length) : (ns.zip vs)[k]? = some (ns[k], vs[k]) := by
  rw [List.getElem?_zip_eq_some]; simp

set_option maxRecDepth 20000 in
set_option maxHeartbeats 1000000 in
theorem newObj_any (an av : Option Addr) (ns vs : List ByteArray) (cn cv : Nat) (w : World) (hn : Row w an ns) (hv : Row w av vs) (hl : ns.length ≤ 1048576) (hl2 : vs.length ≤ 1048576) :
    Calls Try.prog 8 #[.slice an ns.length cn, .slice av vs.length cv] w fun e w' => NewEnd w (ns.zip vs) e w' := by
  obtain ⟨n, en⟩ : ∃ n, min ns.length vs.length = n := ⟨_, rfl⟩
  have hlen : (ns.zip vs).length = n := by rw [List.length_zip]; exact en
  have hmin := fun ats ty w => run_min_int ats ty ns.length vs.length w
  rw [en] at hmin
  have hn1 : n ≤ ns.length := by omega
  have hn2 : n ≤ vs.length := by omega
  obtain ⟨z, hz, hmk⟩ := make_obj n (by omega)
  have HLEN := hide hlen
  have HEN := hide en
  clear en hlen
  by_cases hn0 : n = 0
  · have h0 : ¬ (0 : Int) < n := by omega
    have HN := hide hn0
    clear hn hv hn0
    go_enter Try.func8, Try.ntmps8
    go_wp2_with fail
    go_loop [7] (fun i => i = .int .i64 0) (fun _ => 0)
    case atStart => rfl
    case round =>
      subst hrel
      go_wp2_with fail
      go_ret
      refine ⟨by rw [HLEN.out]; rfl, z, 0, rfl, fun j p hp => ?_⟩
      have h1 := (List.getElem?_eq_some_iff.1 hp).1
      have h2 := HLEN.out
      have h3 := HN.out
      omega
  · have hbs : ∃ bn on bv ov, an = some ⟨bn, on, Option.none⟩ ∧ av = some ⟨bv, ov, Option.none⟩ ∧ (∀ i s, ns[i]? = some s → w.cell? ⟨bn, on + i, Option.none⟩ = some (.string s)) ∧ (∀ i s, vs[i]? = some s → w.cell? ⟨bv, ov + i, Option.none⟩ = some (.string s)) := by
      rcases hn with rfl | ⟨bn, on, e1, c1⟩
      · simp at hn1; omega
      · rcases hv with rfl | ⟨bv, ov, e2, c2⟩
        · simp at hn2; omega
        · exact ⟨bn, on, bv, ov, e1, e2, c1, c2⟩
    obtain ⟨bn, on, bv, ov, rfl, rfl, c1, c2⟩ := hbs
    have HC1 := hide c1
    have HC2 := hide c2
    clear c1 c2 hn hv
    go_enter Try.func8, Try.ntmps8
    go_wp2_with fail
    go_loopw [7] (fun i wr => ∃ (k : Nat) (cur : Array Value) (q : Nat), k ≤ n ∧ i = .int .i64 k ∧ cur.size = n * 2 ∧ IsObj cur ((ns.zip vs).take k) ∧ wr = (w.alloc (.cells cur 37)).drewN q) (fun i _ => n - (intOf i).toNat)
    case atStart => exact ⟨0, z, 0, by omega, rfl, hz, fun j p hp => by simp at hp, rfl⟩
    case round =>
      obtain ⟨k, cur, q, hk, rfl, hcs, hob, rfl⟩ := hrel
      by_cases hlt : k < n
      · have hnk : k < ns.length := by omega
        have hvk : k < vs.length := by omega
        have d1 := HC1.out k _ (at_some hnk)
        have d2 := HC2.out k _ (at_some hvk)
        have hst := isObj_step hob (zip_at hnk hvk) (by rw [HLEN.out]; exact hcs)
        obtain ⟨s, es⟩ : ∃ s, ns[k] = s := ⟨_, rfl⟩
        obtain ⟨v, ev⟩ : ∃ v, vs[k] = v := ⟨_, rfl⟩
        rw [es] at d1 hst
        rw [ev] at d2 hst
        have HST := hide hst
        have lt1 := World.block_lt_of_cell? w _ d1
        have lt2 := World.block_lt_of_cell? w _ d2
        simp only at lt1 lt2
        have x1 : ∃ u, cur[k * 2]? = some u := ⟨_, Array.getElem?_eq_getElem (by omega)⟩
        have x2 : ∃ u, cur[k * 2 + 1]? = some u := ⟨_, Array.getElem?_eq_getElem (by omega)⟩
        obtain ⟨u1, x1⟩ := x1
        obtain ⟨u2, x2⟩ := x2
        have b1 : (k : Int) < ns.length := by omega
        have b2 : (k : Int) < vs.length := by omega
        have b3 : (k : Int) < n := by omega
        have HS := hide hcs
        clear hst hob es ev hz hmk hmin hcs
        go_wp2_with fail
        go_region
        go_wp2_with fail
        go_roundw
        case rel => exact ⟨k + 1, _, q + 1, by omega, by go_num, by rw [Array.size_setIfInBounds, Array.size_setIfInBounds]; exact HS.out, HST.out, two_sets _ _ _ _ _ _⟩
        case measure => simp [intOf]; omega
      · have ek : k = n := by omega
        subst ek
        have b3 : ¬ (k : Int) < k := by omega
        have HO : Hid (IsObj cur (ns.zip vs)) := by
          show IsObj _ _
          rw [List.take_of_length_le (by rw [HLEN.out]; omega)] at hob
          exact hob
        clear hob hz hmk hmin
        go_wp2_with fail
        go_ret
        exact ⟨by rw [HLEN.out]; rfl, cur, q, rfl, HO.out⟩
end Go.Proofs.Qxb6608963a
