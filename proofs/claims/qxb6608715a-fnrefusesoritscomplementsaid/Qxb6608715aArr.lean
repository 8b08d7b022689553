/-
  Whole arrays ([256]bool) and the rule's struct, as the walk meets them: no unrolling of 256 cells.
-/
import Derived.Test.Qxb6608715aRows
import Derived.WalkKit
import Derived.ProofKit
import Derived.Deep.QuietTactic
import Derived.BigQuiet
import Derived.Deep.WholeRow
namespace Go.Proofs.Qxb6608715a
open Go.RowKit

theorem size22 : (Try.prog.info? 22).map (·.size) = some 256 := by kernel_rfl

/-- The cells of the block that a pointer to a block's head leads to. -/
def rowOf (w : World) (v : Value) : Array Value :=
  match v with
  | .pointer (some ⟨g, 0, Option.none⟩) => (match w.heap[g]? with | some (.cells cs _ _) => cs | _ => #[])
  | _ => #[]

theorem rowOf_new (w : World) (cs : Array Value) (t n : Nat) (h : n = w.heap.size) : rowOf (w.alloc (.cells cs t)) (.pointer (some ⟨n, 0, Option.none⟩)) = cs := by
  subst h
  simp only [rowOf, Go.heap_alloc_new]
theorem rowOf_past (w : World) (o : Obj) (n : Nat) (h : n < w.heap.size) : rowOf (w.alloc o) (.pointer (some ⟨n, 0, Option.none⟩)) = rowOf w (.pointer (some ⟨n, 0, Option.none⟩)) := by
  simp only [rowOf, Below.heap_alloc w o n h]
theorem rowOf_drewN (w : World) (v : Value) (n : Nat) : rowOf (w.drewN n) v = rowOf w v := rfl
theorem rowOf_drew (w : World) (v : Value) : rowOf w.drew v = rowOf w v := rfl
theorem rowOf_below {B : Nat} {w w1 : World} (hb : Below B w w1) {n : Nat} (h : n < B) : rowOf w1 (.pointer (some ⟨n, 0, Option.none⟩)) = rowOf w (.pointer (some ⟨n, 0, Option.none⟩)) := by
  simp only [rowOf, hb.block n h]
theorem rowOf_cell (w : World) (n i : Nat) (v : Value) (h : (rowOf w (.pointer (some ⟨n, 0, Option.none⟩)))[i]? = some v) : w.cell? ⟨n, i, Option.none⟩ = some v := by
  simp only [rowOf] at h
  split at h
  · rename_i cs t f hg
    rw [cell_of_row w n i cs t f hg]; exact h
  · simp at h

theorem owp_load22 (dst : Option Tmp) (x : Operand) (ty : TypeId) (pos : String) (after : Array Edge) (guard : Option (Nat × Bool)) (a : Act) (w : World) (K : Act → World → Prop) (Q : Exit → Act → World → Prop)
    (h : (rowOf w (a.eval x)).size = 256) :
    Oper.wp Try.prog { dst, op := .load 22 x, type := ty, pos, after, guard } a w K Q = K (a.put dst (.agg (rowOf w (a.eval x)))) w := by
  unfold Oper.wp execOp
  generalize hv : a.eval x = v at h ⊢
  unfold rowOf at h
  split at h
  · rename_i g
    split at h
    · rename_i cs t f hg
      simp only [hv, Instr.loadAt, Instr.sureAddr, Sem.run_bind, Sem.run_pure, Result.andThen_ok, run_loadVar_row w g t 22 cs f _ hg Try.underlying22 rfl (by rw [h]; exact size22), Oper.upon]
      simp [rowOf, hg]
    · simp at h
  · simp at h

/-- The zero value of [256]bool. -/
def zero22 : Array Value := Array.replicate 256 (.bool false)
theorem zero22_get (i : Nat) (h : i < 256) : zero22[i]? = some (.bool false) := by
  unfold zero22
  rw [Array.getElem?_replicate, if_pos h]
theorem zero22_size : zero22.size = 256 := by unfold zero22; exact Array.size_replicate
theorem info22 : (Try.prog.info? 22).map (fun i => (i.zero, i.size)) = some (some (.agg zero22), 256) := by kernel_rfl

theorem owp_alloc22 (dst : Option Tmp) (ty : TypeId) (pos : String) (after : Array Edge) (guard : Option (Nat × Bool)) (a : Act) (w : World) (K : Act → World → Prop) (Q : Exit → Act → World → Prop) :
    Oper.wp Try.prog { dst, op := .alloc 22, type := ty, pos, after, guard } a w K Q = K (a.put dst (.pointer (some ⟨w.heap.size, 0, Option.none⟩))) (w.alloc (.cells zero22 22)) := by
  unfold Oper.wp execOp
  have hz := (zero_of_info info22).1
  simp [Instr.alloc, hz, newVar, newRow, Value.cells, Oper.upon, go_sem]

/-! The rule's struct: 256 cells, then the names. -/
theorem fold_get (l : List Value) : ∀ (k : Nat) (z : Array Value), k + l.length ≤ z.size →
    ∀ i, ((l.zipIdx k).foldl (fun cs (x : Value × Nat) => cs.setIfInBounds x.2 x.1) z)[i]? = if k ≤ i ∧ i < k + l.length then l[i - k]? else z[i]? := by
  induction l with
  | nil => intro k z _ i; simp; omega
  | cons v l ih =>
    intro k z hk i
    simp only [List.length_cons] at hk
    simp only [List.zipIdx_cons, List.foldl_cons, List.length_cons]
    rw [ih (k + 1) _ (by simp; omega)]
    by_cases h1 : k + 1 ≤ i ∧ i < k + 1 + l.length
    · rw [if_pos h1, if_pos (by omega)]
      rw [show i - k = (i - (k + 1)) + 1 by omega, List.getElem?_cons_succ]
    · rw [if_neg h1]
      by_cases h2 : i = k
      · subst h2
        rw [if_pos (by omega), Array.getElem?_setIfInBounds_self_of_lt (by omega)]
        simp
      · rw [if_neg (by omega)]
        rw [Array.getElem?_setIfInBounds_ne (by omega)]

theorem fold_size (l : List (Value × Nat)) : ∀ (z : Array Value), (l.foldl (fun cs (x : Value × Nat) => cs.setIfInBounds x.2 x.1) z).size = z.size := by
  induction l with
  | nil => intro z; rfl
  | cons x l ih => intro z; simp only [List.foldl_cons]; rw [ih]; simp

def zero41 : Array Value := zero22.push (.slice Option.none 0 0)
theorem zero41_size : zero41.size = 257 := by unfold zero41; rw [Array.size_push, zero22_size]
theorem info41 : (Try.prog.info? 41).map (fun i => (i.zero, i.size)) = some (some (.agg zero41), 257) := by kernel_rfl
theorem info26 : (Try.prog.info? 26).map (fun i => (i.zero, i.size)) = some (some (.slice Option.none 0 0), 1) := by kernel_rfl
theorem sizeOf_of_info {P : Program} {t : TypeId} {v : Value} {n : Nat} (h : (P.info? t).map (fun i => (i.zero, i.size)) = some (some v, n)) (w : World) : (sizeOf t).run P w = .ok n w := by
  cases hq : P.info? t with
  | none => simp [hq] at h
  | some i =>
    simp [hq] at h
    simp [sizeOf, typeInfo, hq, h.2]

/-- What 'build 41' makes, under a name that the walk does not open. -/
def rule41 (cs : Array Value) (v : Value) : Array Value := ((cs.toList.zipIdx 0).foldl (fun cs (x : Value × Nat) => cs.setIfInBounds x.2 x.1) zero41).setIfInBounds 256 v
theorem rule41_get (cs : Array Value) (hcs : cs.size = 256) (v : Value) (i : Nat) (hi : i < 256) : (rule41 cs v)[i]? = cs[i]? := by
  unfold rule41
  rw [Array.getElem?_setIfInBounds_ne (by omega), fold_get _ 0 _ (by simp [hcs, zero41_size])]
  simp
  omega

theorem run_build41 (cs : Array Value) (hcs : cs.size = 256) (v : Value) (hv : v.cells = #[v]) (w : World) :
    (Instr.build 41 #[(0, .agg cs), (1, v)]).run Try.prog w = .ok (.agg (rule41 cs v)) w := by
  have hz := (zero_of_info info41).1
  have h22 := sizeOf_of_info info22
  have h26 := sizeOf_of_info info26
  have hu := run_underlying Try.underlying41
  have hs : ((cs.toList.zipIdx 0).foldl (fun cs (x : Value × Nat) => cs.setIfInBounds x.2 x.1) zero41).size = 257 := by rw [fold_size, zero41_size]
  have e : Array.foldl (fun cs (x : Value × Nat) => cs.setIfInBounds x.2 x.1) zero41 cs.zipIdx = (cs.toList.zipIdx 0).foldl (fun cs (x : Value × Nat) => cs.setIfInBounds x.2 x.1) zero41 := by
    rw [← Array.foldl_toList, Array.toList_zipIdx]
  rw [show cs.zipIdx.size = 256 by simp [hcs]] at e
  have hc : (Value.agg cs).cells = cs := rfl
  simp [Instr.build, hz, hu, h22, h26, Instr.fill, hc, show (Value.agg zero41).cells = zero41 from rfl, hv, hcs, zero41_size]
  rw [e, if_neg (by omega)]
  rfl

theorem owp_build41 (dst : Option Tmp) (x y : Operand) (ty : TypeId) (pos : String) (after : Array Edge) (guard : Option (Nat × Bool)) (a : Act) (w : World) (K : Act → World → Prop) (Q : Exit → Act → World → Prop)
    (h1 : a.eval x = .agg (a.eval x).cells) (h2 : (a.eval x).cells.size = 256) (h3 : (a.eval y).cells = #[a.eval y]) :
    Oper.wp Try.prog { dst, op := .build 41 #[(0, x), (1, y)], type := ty, pos, after, guard } a w K Q = K (a.put dst (.agg (rule41 (a.eval x).cells (a.eval y)))) w := by
  have hr := run_build41 (a.eval x).cells h2 (a.eval y) h3 w
  rw [← h1] at hr
  unfold Oper.wp execOp
  simp [hr, Oper.upon]
end Go.Proofs.Qxb6608715a
