/-
  The walks of Lookup (11) and ZZlookupString (7).
-/
import Derived.Test.Qxb6608963aObj
namespace Go.Proofs.Qxb6608963a
open Go.RowKit
set_option linter.unusedVariables false

/-- The members of an object that lies at the head of block g. -/
def ObjAt (w : World) (g : Nat) (ps : List (ByteArray × ByteArray)) : Prop :=
  ∀ j p, ps[j]? = some p → w.cell? ⟨g, j * 2, Option.none⟩ = some (.string p.1) ∧ w.cell? ⟨g, j * 2 + 1, Option.none⟩ = some (.iface 9 (.string p.2))

/-- What Lookup hands back. -/
def lookVal : Option ByteArray → Value
  | some v => .tuple #[.iface 9 (.string v), .bool true]
  | Option.none => .tuple #[.nilIface, .bool false]
/-- What ZZlookupString hands back. -/
def lookStr : Option ByteArray → Value
  | some v => .tuple #[.string v, .bool true, .bool true]
  | Option.none => .tuple #[.string ByteArray.empty, .bool false, .bool false]

theorem ta_yes (s : ByteArray) (w : World) : (Instr.typeAssert (.iface 9 (.string s)) 20 9 true).run Try.prog w = .ok (.tuple #[.string s, .bool true]) w := by kernel_rfl
theorem ta_no (w : World) : (Instr.typeAssert .nilIface 20 9 true).run Try.prog w = .ok (.tuple #[.string ByteArray.empty, .bool false]) w := by kernel_rfl

set_option maxRecDepth 20000 in
set_option maxHeartbeats 1000000 in
theorem lookup_any (g : Nat) (ps : List (ByteArray × ByteArray)) (nm : ByteArray) (w : World) (ho : ObjAt w g ps) (hl : ps.length ≤ 1048576) :
    Calls Try.prog 11 #[.slice (some ⟨g, 0, Option.none⟩) ps.length ps.length, .string nm] w fun e w' => e = .returned (lookVal (look ps nm)) ∧ Below w.heap.size w w' := by
  have HO := hide ho
  clear ho
  go_enter Try.func11, Try.ntmps11
  go_wp2_with fail
  go_loopw [10] (fun i wr => ∃ k : Nat, k ≤ ps.length ∧ i = .int .i64 k ∧ look (ps.take k) nm = Option.none ∧ Below w.heap.size w wr) (fun i _ => ps.length - (intOf i).toNat)
  case atStart => exact ⟨0, by omega, rfl, rfl, Below.refl _ _⟩
  case round =>
    obtain ⟨k, hk, rfl, hf, hb⟩ := hrel
    by_cases hlt : k < ps.length
    · obtain ⟨p, hp⟩ : ∃ p, ps[k]? = some p := ⟨_, List.getElem?_eq_getElem hlt⟩
      obtain ⟨d1, d2⟩ := HO.out k p hp
      have lt1 := World.block_lt_of_cell? w _ d1
      simp only at lt1
      have c1 := hb.cell (p := ⟨g, k * 2, Option.none⟩) lt1
      have c2 := hb.cell (p := ⟨g, k * 2 + 1, Option.none⟩) lt1
      rw [d1] at c1
      rw [d2] at c2
      have hlt' : (k : Int) < ps.length := by omega
      have hsz := hb.size
      cases hn : (p.1.toList == nm.toList)
      · have HM := hide (look_more hf hp hn)
        have HB := hide hb
        obtain ⟨s, v⟩ := p
        simp only at c1 c2 hn
        clear hf hp hb d1 d2 hsz lt1
        go_wp2_with fail
        go_roundw
        case rel => exact ⟨k + 1, by omega, by go_num, HM.out, HB.out.alloc HB.out.size _⟩
        case measure => simp [intOf]; omega
      · have HM := hide (look_at hf hp hn)
        have HB := hide hb
        obtain ⟨s, v⟩ := p
        simp only at c1 c2 hn HM
        clear hf hp hb d1 d2 hsz lt1
        go_wp2_with fail
        go_ret2
        rw [HM.out]
        exact ⟨rfl, HB.out.alloc HB.out.size _⟩
    · have hlt' : ¬ (k : Int) < ps.length := by omega
      have HM : Hid (look ps nm = Option.none) := by
        show _ = _
        rw [List.take_of_length_le (by omega)] at hf
        exact hf
      have HB := hide hb
      clear hf hb
      go_wp2_with fail
      go_ret2
      rw [HM.out]
      exact ⟨rfl, HB.out⟩

theorem lookup_yes (g : Nat) (ps : List (ByteArray × ByteArray)) (nm v : ByteArray) (w : World) (ho : ObjAt w g ps) (hl : ps.length ≤ 1048576) (hv : look ps nm = some v) :
    Calls Try.prog 11 #[.slice (some ⟨g, 0, Option.none⟩) ps.length ps.length, .string nm] w fun e w' => e = .returned (.tuple #[.iface 9 (.string v), .bool true]) ∧ Below w.heap.size w w' := by
  have h := lookup_any g ps nm w ho hl
  rw [hv] at h
  exact h
theorem lookup_no (g : Nat) (ps : List (ByteArray × ByteArray)) (nm : ByteArray) (w : World) (ho : ObjAt w g ps) (hl : ps.length ≤ 1048576) (hv : look ps nm = Option.none) :
    Calls Try.prog 11 #[.slice (some ⟨g, 0, Option.none⟩) ps.length ps.length, .string nm] w fun e w' => e = .returned (.tuple #[.nilIface, .bool false]) ∧ Below w.heap.size w w' := by
  have h := lookup_any g ps nm w ho hl
  rw [hv] at h
  exact h

set_option maxHeartbeats 400000 in
theorem str_yes (g : Nat) (ps : List (ByteArray × ByteArray)) (nm v : ByteArray) (w : World) (ho : ObjAt w g ps) (hl : ps.length ≤ 1048576) (hv : look ps nm = some v) :
    Calls Try.prog 7 #[.slice (some ⟨g, 0, Option.none⟩) ps.length ps.length, .string nm] w fun e w' => e = .returned (.tuple #[.string v, .bool true, .bool true]) ∧ Below w.heap.size w w' := by
  have H := hide (lookup_yes g ps nm v w ho hl hv)
  have hta := ta_yes v
  clear ho hv
  go_enter Try.func7, Try.ntmps7
  go_wp2_with (go_at_call 11; refine H.out.mono ?_; rintro e w' ⟨rfl, hb⟩)
  go_ret3
  exact ⟨rfl, hb⟩
set_option maxHeartbeats 400000 in
theorem str_no (g : Nat) (ps : List (ByteArray × ByteArray)) (nm : ByteArray) (w : World) (ho : ObjAt w g ps) (hl : ps.length ≤ 1048576) (hv : look ps nm = Option.none) :
    Calls Try.prog 7 #[.slice (some ⟨g, 0, Option.none⟩) ps.length ps.length, .string nm] w fun e w' => e = .returned (.tuple #[.string ByteArray.empty, .bool false, .bool false]) ∧ Below w.heap.size w w' := by
  have H := hide (lookup_no g ps nm w ho hl hv)
  have hta := ta_no
  clear ho hv
  go_enter Try.func7, Try.ntmps7
  go_wp2_with (go_at_call 11; refine H.out.mono ?_; rintro e w' ⟨rfl, hb⟩)
  go_ret3
  exact ⟨rfl, hb⟩

theorem str_any (g : Nat) (ps : List (ByteArray × ByteArray)) (nm : ByteArray) (w : World) (ho : ObjAt w g ps) (hl : ps.length ≤ 1048576) :
    Calls Try.prog 7 #[.slice (some ⟨g, 0, Option.none⟩) ps.length ps.length, .string nm] w fun e w' => e = .returned (lookStr (look ps nm)) ∧ Below w.heap.size w w' := by
  cases h : look ps nm with
  | some v => exact str_yes g ps nm v w ho hl h
  | none => exact str_no g ps nm w ho hl h
end Go.Proofs.Qxb6608963a
