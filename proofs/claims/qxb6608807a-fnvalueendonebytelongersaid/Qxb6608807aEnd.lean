/-
  The walks of valueEnd (11, 8), alignUp (12), valueEndIs (9), zzColumn (6), ZZnewValue (7); the plain function vEnd.
-/
import Derived.Test.Qxb6608807aRows
import Derived.WalkKit
import Derived.ProofKit
import Derived.WalkSpells
import Derived.Deep.QuietTactic
import Derived.BigQuiet
namespace Go.Proofs.Qxb6608807a
open Go.RowKit
set_option linter.unusedVariables false

theorem hide {p : Prop} (h : p) : Hid p := h
theorem ret_int {k : IntKind} {a b : Int} (h : a = b) : Ending.returned (.int k a) = .returned (.int k b) := by rw [h]

/-- n rounded up to a multiple of 4. -/
def al4 (n : Int) : Int := (n + 3) / 4 * 4
theorem al4_facts (n : Int) : n ≤ al4 n ∧ al4 n ≤ n + 3 ∧ al4 n % 4 = 0 := by unfold al4; omega
theorem al4_four (n : Int) : al4 (n + 4) = al4 n + 4 := by unfold al4; omega

/-- Where a value ends that starts at offset a. -/
def vEnd (a : Int) (isInt valid : Bool) (n : Nat) : Int :=
  match valid, isInt with
  | false, _ => a
  | true, true => al4 a + 4
  | true, false => if n ≤ 126 then a + 1 + n else al4 a + 4 + n

set_option maxHeartbeats 400000 in
theorem align_any (n : Int) (h0 : 0 ≤ n) (h1 : n ≤ 2147483648) (w : World) :
    Calls Try.prog 12 #[.int .i64 n, .int .i64 4] w fun e w' => e = .returned (.int .i64 (al4 n)) ∧ w' = w := by
  go_enter Try.func12, Try.ntmps12
  go_wp2
  go_ret
  exact ⟨ret_int (by unfold al4; omega), rfl⟩

set_option maxHeartbeats 400000 in
theorem end_null (a : Int) (nm tn tx : ByteArray) (ln i : Int) (pk : Bool) (w : World) :
    Calls Try.prog 11 #[.int .i64 a, .agg #[.string nm, .string tn, .int .i64 ln, .bool pk], .agg #[.bool false, .int .i64 i, .string tx]] w fun e w' => e = .returned (.int .i64 a) ∧
      ∃ n, w' = ((w.alloc (.cells #[.string nm, .string tn, .int .i64 ln, .bool pk] 27)).alloc (.cells #[.bool false, .int .i64 i, .string tx] 30)).drewN n := by
  go_enter Try.func11, Try.ntmps11
  go_wp2
  go_ret
  exact ⟨rfl, 0, rfl⟩

set_option maxHeartbeats 400000 in
theorem end_int (a : Int) (h0 : 0 ≤ a) (h1 : a ≤ 1073741828) (nm tn tx : ByteArray) (ln i : Int) (pk : Bool) (hi : (tn.toList == [105, 110, 116, 101, 103, 101, 114]) = true) (w : World) :
    Calls Try.prog 11 #[.int .i64 a, .agg #[.string nm, .string tn, .int .i64 ln, .bool pk], .agg #[.bool true, .int .i64 i, .string tx]] w fun e w' => e = .returned (.int .i64 (al4 a + 4)) ∧
      ∃ n, w' = ((w.alloc (.cells #[.string nm, .string tn, .int .i64 ln, .bool pk] 27)).alloc (.cells #[.bool true, .int .i64 i, .string tx] 30)).drewN n := by
  obtain ⟨hl1, hl2, _⟩ := al4_facts a
  go_enter Try.func11, Try.ntmps11
  go_wp2_with (go_at_call 12; refine (align_any a h0 (by omega) _).mono ?_; rintro e w' ⟨rfl, rfl⟩)
  go_ret
  exact ⟨rfl, 0, rfl⟩

set_option maxHeartbeats 400000 in
theorem end_short (a : Int) (h0 : 0 ≤ a) (h1 : a ≤ 1073741828) (nm tn tx : ByteArray) (hx : tx.size ≤ 126) (ln i : Int) (pk : Bool) (hi : (tn.toList == [105, 110, 116, 101, 103, 101, 114]) = false) (w : World) :
    Calls Try.prog 11 #[.int .i64 a, .agg #[.string nm, .string tn, .int .i64 ln, .bool pk], .agg #[.bool true, .int .i64 i, .string tx]] w fun e w' => e = .returned (.int .i64 (a + 1 + tx.size)) ∧
      ∃ n, w' = ((w.alloc (.cells #[.string nm, .string tn, .int .i64 ln, .bool pk] 27)).alloc (.cells #[.bool true, .int .i64 i, .string tx] 30)).drewN n := by
  have hx' : (tx.size : Int) ≤ 126 := by omega
  go_enter Try.func11, Try.ntmps11
  go_wp2_with fail
  go_ret
  exact ⟨rfl, 0, rfl⟩

theorem wrap_small (x : Int) (h0 : 0 ≤ x) (h1 : x ≤ 4294967296) : IntKind.i64.wrap x = x := by
  rw [IntKind.wrap_i64]; omega

set_option maxHeartbeats 400000 in
theorem end_long (a : Int) (h0 : 0 ≤ a) (h1 : a ≤ 1073741828) (nm tn tx : ByteArray) (hx : ¬ tx.size ≤ 126) (hx2 : tx.size ≤ 1048576) (ln i : Int) (pk : Bool) (hi : (tn.toList == [105, 110, 116, 101, 103, 101, 114]) = false) (w : World) :
    Calls Try.prog 11 #[.int .i64 a, .agg #[.string nm, .string tn, .int .i64 ln, .bool pk], .agg #[.bool true, .int .i64 i, .string tx]] w fun e w' => e = .returned (.int .i64 (al4 a + 4 + tx.size)) ∧
      ∃ n, w' = ((w.alloc (.cells #[.string nm, .string tn, .int .i64 ln, .bool pk] 27)).alloc (.cells #[.bool true, .int .i64 i, .string tx] 30)).drewN n := by
  have hx' : ¬ (tx.size : Int) ≤ 126 := by omega
  obtain ⟨hl1, hl2, _⟩ := al4_facts a
  have e1 := wrap_small (al4 a + 4) (by omega) (by omega)
  have e2 := wrap_small (al4 a + 4 + tx.size) (by omega) (by omega)
  go_enter Try.func11, Try.ntmps11
  go_wp2_with fail
  go_quiet ((go_at_call 12; exact Calls.quiet_of_same (align_any a h0 (by omega) _)))
  go_wp2_with fail
  go_ret
  exact ⟨rfl, nq, rfl⟩

theorem end_any (a : Int) (h0 : 0 ≤ a) (h1 : a ≤ 1073741828) (nm tn tx : ByteArray) (hx2 : tx.size ≤ 1048576) (ln i : Int) (pk v b : Bool) (hi : (tn.toList == [105, 110, 116, 101, 103, 101, 114]) = b) (w : World) :
    Calls Try.prog 11 #[.int .i64 a, .agg #[.string nm, .string tn, .int .i64 ln, .bool pk], .agg #[.bool v, .int .i64 i, .string tx]] w fun e w' => e = .returned (.int .i64 (vEnd a b v tx.size)) ∧
      ∃ n, w' = ((w.alloc (.cells #[.string nm, .string tn, .int .i64 ln, .bool pk] 27)).alloc (.cells #[.bool v, .int .i64 i, .string tx] 30)).drewN n := by
  cases v with
  | false => exact end_null a nm tn tx ln i pk w
  | true =>
    cases b with
    | true => exact end_int a h0 h1 nm tn tx ln i pk hi w
    | false =>
      by_cases hx : tx.size ≤ 126
      · have e : vEnd a false true tx.size = a + 1 + tx.size := by simp [vEnd, hx]
        rw [e]
        exact end_short a h0 h1 nm tn tx hx ln i pk hi w
      · have e : vEnd a false true tx.size = al4 a + 4 + tx.size := by simp [vEnd, hx]
        rw [e]
        exact end_long a h0 h1 nm tn tx hx hx2 ln i pk hi w

/-- ZZvalueEnd: four new blocks, some draws. -/
def w8 (w : World) (c v : Array Value) (n : Nat) : World := ((((w.alloc (.cells c 27)).alloc (.cells v 30)).alloc (.cells c 27)).alloc (.cells v 30)).drewN n

set_option maxHeartbeats 400000 in
theorem callEnd (a : Int) (h0 : 0 ≤ a) (h1 : a ≤ 1073741828) (nm tn tx : ByteArray) (hx2 : tx.size ≤ 1048576) (ln i : Int) (pk v b : Bool) (hi : (tn.toList == [105, 110, 116, 101, 103, 101, 114]) = b) (w : World) :
    Calls Try.prog 8 #[.int .i64 a, .agg #[.string nm, .string tn, .int .i64 ln, .bool pk], .agg #[.bool v, .int .i64 i, .string tx]] w fun e w' => e = .returned (.int .i64 (vEnd a b v tx.size)) ∧
      ∃ n, w' = ((((w.alloc (.cells #[.string nm, .string tn, .int .i64 ln, .bool pk] 27)).alloc (.cells #[.bool v, .int .i64 i, .string tx] 30)).alloc (.cells #[.string nm, .string tn, .int .i64 ln, .bool pk] 27)).alloc (.cells #[.bool v, .int .i64 i, .string tx] 30)).drewN n := by
  have HI := hide hi
  clear hi
  go_enter Try.func8, Try.ntmps8
  go_wp2_with (go_at_call 11; refine (end_any a h0 h1 nm tn tx hx2 ln i pk v b HI.out _).mono ?_; rintro e w' ⟨rfl, n, rfl⟩)
  go_ret
  exact ⟨rfl, n, rfl⟩

set_option maxHeartbeats 400000 in
theorem column_any (nm tn : ByteArray) (ln : Int) (pk : Bool) (w : World) :
    Calls Try.prog 6 #[.string nm, .string tn, .int .i64 ln, .bool pk] w fun e w' => e = .returned (.agg #[.string nm, .string tn, .int .i64 ln, .bool pk]) ∧
      w' = w.alloc (.cells #[.string nm, .string tn, .int .i64 ln, .bool pk] 27) := by
  go_enter Try.func6, Try.ntmps6
  go_wp2
  exact bodyPost_ret (v := .agg #[.string nm, .string tn, .int .i64 ln, .bool pk]) (by simp [results, Try.results6, go_sem]) rfl ⟨rfl, rfl⟩

set_option maxHeartbeats 400000 in
theorem value_any (v : Bool) (i : Int) (tx : ByteArray) (w : World) :
    Calls Try.prog 7 #[.bool v, .int .i64 i, .string tx] w fun e w' => e = .returned (.agg #[.bool v, .int .i64 i, .string tx]) ∧
      w' = w.alloc (.cells #[.bool v, .int .i64 i, .string tx] 30) := by
  go_enter Try.func7, Try.ntmps7
  go_wp2
  exact bodyPost_ret (v := .agg #[.bool v, .int .i64 i, .string tx]) (by simp [results, Try.results7, go_sem]) rfl ⟨rfl, rfl⟩

/-- valueEndIs at a value's own end. -/
theorem is_null (a : Int) (b : Bool) (n : Nat) (w : World) :
    Calls Try.prog 9 #[.int .i64 a, .bool b, .bool false, .int .i64 n, .int .i64 a] w fun e w' => e = .returned (.bool true) ∧ w' = w := by
  go_enter Try.func9, Try.ntmps9
  go_wp2
  go_ret
  exact ⟨rfl, rfl⟩

set_option maxHeartbeats 400000 in
theorem is_int (a : Int) (h0 : 0 ≤ a) (h1 : a ≤ 1073741828) (n : Nat) (r : Int) (h2 : (r % 4 == 0) = true) (h3 : a + 4 ≤ r) (h4 : r ≤ a + 7) (w : World) :
    Calls Try.prog 9 #[.int .i64 a, .bool true, .bool true, .int .i64 n, .int .i64 r] w fun e w' => e = .returned (.bool true) ∧ w' = w := by
  go_enter Try.func9, Try.ntmps9
  go_wp2
  go_ret
  exact ⟨rfl, rfl⟩

set_option maxHeartbeats 400000 in
theorem is_short (a : Int) (h0 : 0 ≤ a) (h1 : a ≤ 1073741828) (n : Nat) (hn : n ≤ 126) (w : World) :
    Calls Try.prog 9 #[.int .i64 a, .bool false, .bool true, .int .i64 n, .int .i64 (a + 1 + n)] w fun e w' => e = .returned (.bool true) ∧ w' = w := by
  have hn' : (n : Int) ≤ 126 := by omega
  go_enter Try.func9, Try.ntmps9
  go_wp2
  go_ret
  exact ⟨rfl, rfl⟩

set_option maxHeartbeats 400000 in
theorem is_long (a : Int) (h0 : 0 ≤ a) (h1 : a ≤ 1073741828) (n : Nat) (hn : ¬ n ≤ 126) (hn2 : n ≤ 1048576) (r : Int) (h2 : ((r - n) % 4 == 0) = true) (h3 : a + 4 ≤ r - n) (h4 : r - n ≤ a + 7) (w : World) :
    Calls Try.prog 9 #[.int .i64 a, .bool false, .bool true, .int .i64 n, .int .i64 r] w fun e w' => e = .returned (.bool true) ∧ w' = w := by
  have hn' : ¬ (n : Int) ≤ 126 := by omega
  go_enter Try.func9, Try.ntmps9
  go_wp2
  go_ret
  exact ⟨rfl, rfl⟩

theorem is_any (a : Int) (h0 : 0 ≤ a) (h1 : a ≤ 1073741828) (n : Nat) (hn2 : n ≤ 1048576) (b v : Bool) (w : World) :
    Calls Try.prog 9 #[.int .i64 a, .bool b, .bool v, .int .i64 n, .int .i64 (vEnd a b v n)] w fun e w' => e = .returned (.bool true) ∧ w' = w := by
  obtain ⟨hl1, hl2, hl3⟩ := al4_facts a
  cases v with
  | false => exact is_null a b n w
  | true =>
    cases b with
    | true => exact is_int a h0 h1 n _ (by show ((al4 a + 4) % 4 == 0) = true; rw [beq_iff_eq]; omega) (by show _ ≤ al4 a + 4; omega) (by show al4 a + 4 ≤ _; omega) w
    | false =>
      by_cases hx : n ≤ 126
      · have e : vEnd a false true n = a + 1 + n := by simp [vEnd, hx]
        rw [e]
        exact is_short a h0 h1 n hx w
      · have e : vEnd a false true n = al4 a + 4 + n := by simp [vEnd, hx]
        rw [e]
        exact is_long a h0 h1 n hx hn2 _ (by rw [beq_iff_eq]; omega) (by omega) (by omega) w
end Go.Proofs.Qxb6608807a
