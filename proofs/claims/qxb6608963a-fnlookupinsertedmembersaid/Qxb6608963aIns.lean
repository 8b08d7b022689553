/-
  FnLookupInsertedMember: what its walk leans on (make with room, slices, rows that are its own, the plain laws of a pair put in).
-/
import Derived.Test.Qxb6608963aStrs
import Derived.Test.Qxb6608963aBytes
import Derived.OwnWalk
namespace Go.Proofs.Qxb6608963a
open Go.RowKit
set_option linter.unusedVariables false

/-- A slice of strings that the law holds: its row, its room; nil has no room. -/
def Held2 (wc : World) (v : Value) (ss : List ByteArray) : Prop := ∃ ao c, v = .slice ao ss.length c ∧ ss.length ≤ c ∧ Row wc ao ss ∧ (ao = Option.none → c = 0)

theorem make_room (n : Nat) (hn : n ≤ 65536) : ∃ z : Array Value, z.size = n + 1 ∧ ∀ w : World,
    (Instr.makeSlice 22 (.int .i64 0) (.int .i64 ((n : Int) + 1))).run Try.prog w = .ok (.slice (some ⟨w.heap.size, 0, Option.none⟩) 0 (n + 1)) (w.alloc (.cells z 9)) := by
  obtain ⟨i, hi, hz0, hz1, hz2⟩ := info_parts info9
  refine ⟨madeCells (Value.string ByteArray.empty).cells (n + 1), size_madeCells _ _, fun w => ?_⟩
  have h := run_make (P := Try.prog) w 22 9 i _ Try.underlying22 hi hz0 .i64 .i64 0 ((n : Int) + 1) (by omega) (by omega) (by rw [hz2]; omega) (by omega)
  have e : ((n : Int) + 1).toNat = n + 1 := by omega
  rw [h, e, hz1, Nat.mul_one]
  rfl

/-- 'xs[k:n]': a row again, its address under a letter; where it is nil it is empty and has no room. -/
theorem slice_kn2 {w : World} {ao : Option Addr} {ss : List ByteArray} {c k n : Nat} (h : Row w ao ss) (hc : ss.length ≤ c) (h0 : ao = Option.none → c = 0) (hk : k ≤ n) (hn : n ≤ c) :
    ∃ xo, Row w xo ((ss.drop k).take (n - k)) ∧ (xo = Option.none → n - k = 0 ∧ c - k = 0) ∧ ∀ W : World, (Instr.sliceAt 22 (.slice ao ss.length c) (some (.int .i64 (k : Int))) (some (.int .i64 (n : Int))) Option.none).run Try.prog W = .ok (.slice xo (n - k) (c - k)) W := by
  refine ⟨_, row_cut h hc (k := k), fun hx => ?_, fun W => ?_⟩
  · have : ao = Option.none := by
      split at hx
      · exact hx
      · cases ao with
        | none => rfl
        | some a => cases hx
    have := h0 this
    omega
  · have he : Try.prog.elem 22 = 9 := by simp [Program.elem, Try.underlying22]
    have hu : Try.prog.underlying 22 = some (.slice (Try.prog.elem 22)) := by rw [Try.underlying22, he]
    have hs : (sizeOf 9).run Try.prog W = .ok 1 W := by kernel_rfl
    rw [run_sliceAt_slice W 22 _ _ _ _ hu, run_slice_lh W 22 ao ss.length c hu .i64 .i64 k n (by omega) (by omega) (by omega), he, hs]
    simp [Result.andThen, sliced]

theorem row_cells {w : World} {ao : Option Addr} {ss : List ByteArray} (h : Row w ao ss) : ∀ ad, ao = some ad → ∀ (j : Nat) (u : Value), (strs9 ss)[j]? = some u → w.cell? (ad.add j) = some u := by
  intro ad had j u hu
  obtain ⟨s, hs, rfl⟩ := strs9_at hu
  rcases h with rfl | ⟨b, off, e, hc⟩
  · simp at hs
  · rw [e] at had
    obtain rfl := Option.some.inj had
    rw [Addr.add_lit]
    exact hc j s hs

theorem row_owned {w : World} {g m c : Nat} {ss : List ByteArray} (h : w.ownsRow 0 9 1 (.slice (some ⟨g, 0, Option.none⟩) m c) m (strs9 ss)) : Row w (some ⟨g, 0, Option.none⟩) ss := by
  refine .inr ⟨g, 0, rfl, fun i s hs => ?_⟩
  have := h.cells (g := g) rfl i (.string s) (by unfold strs9; rw [List.getElem?_map, hs]; rfl)
  rw [Addr.add_lit] at this
  exact this

theorem own_first (w : World) (z : Array Value) (n : Nat) (hz : z.size = n + 1) (hn : n ≤ 65536) : ((w.alloc (.cells z 9)).alloc (.cells z 9)).ownsRow 0 9 1 (.slice (some ⟨w.heap.size, 0, Option.none⟩) 0 (n + 1)) 0 [] :=
  (World.ownsRow_made (base := 0) (e := 9) (size := 1) w z (n + 1) (Nat.zero_le _) (by unfold maxLen; omega) (by omega)).alloc _
theorem own_second (w : World) (z : Array Value) (n : Nat) (hz : z.size = n + 1) (hn : n ≤ 65536) : ((w.alloc (.cells z 9)).alloc (.cells z 9)).ownsRow 0 9 1 (.slice (some ⟨w.heap.size + 1, 0, Option.none⟩) 0 (n + 1)) 0 [] := by
  have h := World.ownsRow_made (base := 0) (e := 9) (size := 1) (w.alloc (.cells z 9)) z (n + 1) (Nat.zero_le _) (by unfold maxLen; omega) (by omega)
  rw [World.size_alloc] at h
  exact h

theorem after_append {w0 w w' : World} {g : Nat} (hb : Below w0.heap.size w0 w) (hg : w.grownBy w' (some g)) (h : w0.heap.size ≤ g) : Below w0.heap.size w0 w' :=
  hb.grown hg hb.size (fun k hk => by cases hk; exact h)
theorem ne_succ (n : Nat) {l c : Nat} : (Value.slice (some ⟨n + 1, 0, Option.none⟩) l c).ownBlock ≠ some n := by
  intro h
  have := Option.some.inj h
  simp at this
theorem ne_pred (n : Nat) {l c : Nat} : (Value.slice (some ⟨n, 0, Option.none⟩) l c).ownBlock ≠ some (n + 1) := by
  intro h
  have := Option.some.inj h
  simp at this

def BoolIs (ct : Int) (n : Nat) (v : Value) : Prop := ∃ b : Bool, v = .bool b ∧ (b = false → 0 ≤ ct ∧ ct ≤ n)
def PosIs (n : Nat) (v : Value) : Prop := ∃ po : Nat, po ≤ n ∧ v = .int .i64 po

theorem strs9_append (a b : List ByteArray) : strs9 a ++ strs9 b = strs9 (a ++ b) := by simp [strs9]

/-- The row with one put in at k, as many as n are read. -/
def putIn (ss : List ByteArray) (f : ByteArray) (k n : Nat) : List ByteArray := ss.take k ++ [f] ++ (ss.drop k).take (n - k)
theorem putIn_length {ss : List ByteArray} {f : ByteArray} {k n : Nat} (h : k ≤ n) (hn : n ≤ ss.length) : (putIn ss f k n).length = k + 1 + (n - k) := by
  unfold putIn
  simp only [List.length_append, List.length_take, List.length_drop, List.length_cons, List.length_nil]
  omega
theorem strs9_putIn (ss : List ByteArray) (f : ByteArray) (k n : Nat) : strs9 (ss.take k) ++ strs9 [f] ++ strs9 ((ss.drop k).take (n - k)) = strs9 (putIn ss f k n) := by
  rw [strs9_append, strs9_append]
  rfl

theorem zip_putIn {ns vs : List ByteArray} {fn fv : ByteArray} {k n : Nat} (h : k ≤ n) (en : min ns.length vs.length = n) :
    (putIn ns fn k n).zip (putIn vs fv k n) = (ns.take k).zip (vs.take k) ++ (fn, fv) :: (ns.drop k).zip (vs.drop k) := by
  unfold putIn
  rw [List.append_assoc, List.append_assoc, List.zip_append (by simp only [List.length_take]; omega), List.singleton_append, List.singleton_append, List.zip_cons_cons, zip_right en]

theorem look_putIn_other {ns vs : List ByteArray} {fn fv nm : ByteArray} {k n : Nat} (h : k ≤ n) (en : min ns.length vs.length = n) (hx : (nm.toList == fn.toList) = false) :
    look ((putIn ns fn k n).zip (putIn vs fv k n)) nm = look (ns.zip vs) nm := by
  have hx' : ((fn, fv).1.toList == nm.toList) = false := by rw [← hx]; exact BEq.comm
  rw [zip_putIn h en, look_append, look_miss hx', zip_cut ns vs k, look_append]
theorem look_putIn_left {ns vs : List ByteArray} {fn fv nm pv : ByteArray} {k n : Nat} (h : k ≤ n) (en : min ns.length vs.length = n) (hl : look ((ns.take k).zip (vs.take k)) nm = some pv) :
    look ((putIn ns fn k n).zip (putIn vs fv k n)) nm = some pv := by
  rw [zip_putIn h en, look_left hl]
theorem look_putIn_this {ns vs : List ByteArray} {fn fv nm : ByteArray} {k n : Nat} (h : k ≤ n) (en : min ns.length vs.length = n) (hx : (nm.toList == fn.toList) = true) (hl : look ((ns.take k).zip (vs.take k)) nm = Option.none) :
    look ((putIn ns fn k n).zip (putIn vs fv k n)) nm = some fv := by
  have hx' : ((fn, fv).1.toList == nm.toList) = true := by rw [← hx]; exact BEq.comm
  rw [zip_putIn h en, look_right hl, look_hit hx']
end Go.Proofs.Qxb6608963a
