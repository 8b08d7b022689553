/-
  The buffer: make, copy from a string, one store, back to a string.
-/
import Derived.Test.Qxb6608807aEnd
import Derived.Deep.WholeRow
namespace Go.Proofs.Qxb6608807a
open Go.RowKit
set_option linter.unusedVariables false

theorem info5 : (Try.prog.info? 5).map (fun i => (i.zero, i.size, i.bytes)) = some (some (.int .u8 0), 1, 1) := by kernel_rfl

/-- n zero bytes. -/
def bytes0 (n : Nat) : Array Value := madeCells #[.int .u8 0] n
theorem bytes0_eq (n : Nat) : bytes0 n = Array.replicate n (.int .u8 0) := by
  unfold bytes0 madeCells
  apply Array.ext
  · simp
  · intro i h1 h2
    simp [Nat.mod_one]

theorem make_buf (n : Nat) (hn : n ≤ 1048576) (w : World) :
    (Instr.makeSlice 35 (.int .i64 ((n : Int) + 1)) (.int .i64 ((n : Int) + 1))).run Try.prog w = .ok (.slice (some ⟨w.heap.size, 0, none⟩) (n + 1) (n + 1)) (w.alloc (.cells (bytes0 (n + 1)) 5)) := by
  obtain ⟨i, hi, hz0, hz1, hz2⟩ := info_parts info5
  have h := run_make (P := Try.prog) w 35 5 i _ Try.underlying35 hi hz0 .i64 .i64 ((n : Int) + 1) ((n : Int) + 1) (by omega) (by omega) (by rw [hz2]; omega) (by omega)
  rw [h]
  have e : ((n : Int) + 1).toNat = n + 1 := by omega
  rw [e, hz1, Nat.mul_one]
  rfl

/-- The bytes of a string as cells. -/
def strCells (s : ByteArray) : List Value := s.data.toList.map fun b => Value.int .u8 b.toNat
theorem strCells_length (s : ByteArray) : (strCells s).length = s.size := by simp [strCells]
/-- The buffer behind the copy. -/
def bytes1 (s : ByteArray) : Array Value := (strCells s ++ [Value.int .u8 0]).toArray

theorem copy_buf (s : ByteArray) (ty : TypeId) (w : World) :
    (Builtin.copy_ #[35, 9] ty #[.slice (some ⟨w.heap.size, 0, none⟩) (s.size + 1) (s.size + 1), .string s]).run Try.prog (w.alloc (.cells (bytes0 (s.size + 1)) 5)) =
      .ok (goInt s.size) (w.alloc (.cells (bytes1 s) 5)) := by
  obtain ⟨i, hi, hz0, hz1, hz2⟩ := info_parts info5
  have hst := run_storeCells_at Try.prog w.heap.size 0 5 (strCells s) 0 (bytes0 (s.size + 1)) (w.alloc (.cells (bytes0 (s.size + 1)) 5)) (heap_alloc_last w _) (by rw [strCells_length, bytes0_eq]; simp) (fun v hv => by
    obtain ⟨b, _, rfl⟩ := List.mem_map.1 hv; rfl)
  rw [World.setRow_alloc_new] at hst
  have hmin : Nat.min s.size (s.size + 1) = s.size := Nat.min_eq_left (by omega)
  have hcells : ((s.extract 0 s.size).data.map fun b => (Value.int .u8 b.toNat)).toList = strCells s := by simp [strCells]
  have hres : ((bytes0 (s.size + 1)).toList.take (0 + 0) ++ strCells s ++ (bytes0 (s.size + 1)).toList.drop (0 + 0 + (strCells s).length)).toArray = bytes1 s := by
    rw [strCells_length, bytes0_eq]
    unfold bytes1
    simp
  rw [hres] at hst
  have htake : List.take s.size (List.map (fun b => Value.int .u8 b.toNat) s.data.toList) = strCells s := by
    rw [List.take_of_length_le (by simp)]; rfl
  simp [Builtin.copy_, run_underlying Try.underlying35, Builtin.lenOf, Builtin.firstCells, sizeOf, typeInfo, hi, hmin, htake, hst]

/-- The numbers in the buffer behind the store of c at its end. -/
def nums2 (s : ByteArray) (c : Int) : List Int := (s.data.toList.map fun b => (b.toNat : Int)) ++ [c]
theorem nums2_length (s : ByteArray) (c : Int) : (nums2 s c).length = s.size + 1 := by simp [nums2]
theorem bytes1_last (s : ByteArray) : (bytes1 s)[s.size]? = some (.int .u8 0) := by
  simp [bytes1, strCells]
theorem bytes1_set (s : ByteArray) (c : Int) : (bytes1 s).setIfInBounds s.size (.int .u8 c) = ((nums2 s c).map (Value.int .u8)).toArray := by
  unfold bytes1 nums2 strCells
  apply Array.ext'
  simp
theorem conv_buf (s : ByteArray) (c : Int) (w : World) :
    (convert 35 9 (.slice (some ⟨w.heap.size, 0, none⟩) (s.size + 1) (s.size + 1))).run Try.prog (w.alloc (.cells ((bytes1 s).setIfInBounds s.size (.int .u8 c)) 5)) =
      .ok (.string (strOfNums (nums2 s c))) (w.alloc (.cells ((bytes1 s).setIfInBounds s.size (.int .u8 c)) 5)) := by
  refine run_convert_bytes_arg _ 35 5 Try.underlying35 Try.underlying5 w.heap.size 0 (s.size + 1) (s.size + 1) (nums2 s c) (nums2_length s c) (fun i hi => ?_) 9 Try.underlying9
  rw [World.cell?_alloc_new, bytes1_set]
  have hl := nums2_length s c
  simp [List.getD, List.getElem?_eq_getElem (show i < (nums2 s c).length by omega)]
end Go.Proofs.Qxb6608807a
