/-
  FnValueEndOneByteLonger (4): every way.
-/
import Derived.Test.Qxb6608807aLaw4
namespace Go.Proofs.Qxb6608807a
open Go.RowKit
set_option linter.unusedVariables false

theorem walk4in (a ln i c : Int) (nm tn tx : ByteArray) (pk v : Bool) (h1 : nm.size ≤ 262144) (h2 : tn.size ≤ 262144) (h3 : tx.size ≤ 524288) (ha0 : 0 ≤ a) (ha1 : a ≤ 1073741824) (b : Bool)
    (hi : (tn.toList == [105, 110, 116, 101, 103, 101, 114]) = b) (w : World) :
    Calls Try.prog 4 #[.int .i64 a, .string nm, .string tn, .int .i64 ln, .bool pk, .bool v, .int .i64 i, .string tx, .int .u8 c] w fun e w' => e = .returned (.bool true) ∧ Grown w w' := by
  cases v with
  | false => exact walk4null a ln i c nm tn tx pk h1 h2 h3 ha0 ha1 b hi w
  | true =>
    cases b with
    | true => exact walk4int a ln i c nm tn tx pk h1 h2 h3 ha0 ha1 hi w
    | false =>
      by_cases h126 : tx.size = 126
      · exact walk4edge a ln i c nm tn tx pk h1 h2 h3 ha0 ha1 h126 hi w
      · exact walk4text a ln i c nm tn tx pk h1 h2 h3 ha0 ha1 h126 hi w

set_option maxRecDepth 20000 in
set_option maxHeartbeats 1000000 in
theorem walk4 (a ln i c : Int) (nm tn tx : ByteArray) (pk v : Bool) (h1 : nm.size ≤ maxLen) (h2 : tn.size ≤ maxLen) (h3 : tx.size ≤ maxLen) (w : World) :
    Calls Try.prog 4 #[.int .i64 a, .string nm, .string tn, .int .i64 ln, .bool pk, .bool v, .int .i64 i, .string tx, .int .u8 c] w fun e w' => e = .returned (.bool true) ∧ Grown w w' := by
  by_cases hs : (nm.size : Int) + tn.size + tx.size ≤ 1048576
  · by_cases g1 : (262144 : Int) < nm.size
    · clear h1 h2 h3
      go_enter Try.func4, Try.ntmps4
      go_wp2_with (go_at_call 10; refine (bytes10_yes _ _ _ _ _ _ _ _ _ hs _).mono ?_; rintro e w' ⟨rfl, rfl⟩)
      go_ret
      exact ⟨rfl, Grown.refl _⟩
    · by_cases g2 : (262144 : Int) < tn.size
      · clear h1 h2 h3
        go_enter Try.func4, Try.ntmps4
        go_wp2_with (go_at_call 10; refine (bytes10_yes _ _ _ _ _ _ _ _ _ hs _).mono ?_; rintro e w' ⟨rfl, rfl⟩)
        go_ret
        exact ⟨rfl, Grown.refl _⟩
      · by_cases g3 : (524288 : Int) < tx.size
        · clear h1 h2 h3
          go_enter Try.func4, Try.ntmps4
          go_wp2_with (go_at_call 10; refine (bytes10_yes _ _ _ _ _ _ _ _ _ hs _).mono ?_; rintro e w' ⟨rfl, rfl⟩)
          go_ret
          exact ⟨rfl, Grown.refl _⟩
        · by_cases g4 : a < 0
          · clear h1 h2 h3
            go_enter Try.func4, Try.ntmps4
            go_wp2_with (go_at_call 10; refine (bytes10_yes _ _ _ _ _ _ _ _ _ hs _).mono ?_; rintro e w' ⟨rfl, rfl⟩)
            go_ret
            exact ⟨rfl, Grown.refl _⟩
          · by_cases g5 : 1073741824 < a
            · clear h1 h2 h3
              go_enter Try.func4, Try.ntmps4
              go_wp2_with (go_at_call 10; refine (bytes10_yes _ _ _ _ _ _ _ _ _ hs _).mono ?_; rintro e w' ⟨rfl, rfl⟩)
              go_ret
              exact ⟨rfl, Grown.refl _⟩
            · exact walk4in a ln i c nm tn tx pk v (by omega) (by omega) (by omega) (by omega) (by omega) _ rfl w
  · go_enter Try.func4, Try.ntmps4
    go_wp2_with (go_at_call 10; refine (bytes10_no _ _ _ _ _ _ _ _ _ h1 h2 h3 hs _).mono ?_; rintro e w' ⟨rfl, rfl⟩)
    go_ret
    exact ⟨rfl, Grown.refl _⟩
end Go.Proofs.Qxb6608807a
