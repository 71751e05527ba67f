/- The bounds on the lengths (8, 10). -/
import Derived.Test.Qxb6619836aCopy
namespace Go.Proofs.Qxb6619836a
open Go.ChangeShapes Go.WideShapes Go.ChangeAt Go.RowKit

theorem ret_bool {a b : Bool} (h : a = b) : Ending.returned (.bool a) = .returned (.bool b) := by rw [h]
/-- do the three lengths pass the bound? -/
def fit3 (l5 l6 l7 : Nat) : Bool := decide (l5 ≤ 1048576) && (decide (l6 ≤ 1048576) && (decide (l5 + l6 ≤ 1048576) && (decide (l7 ≤ 1048576) && decide (l5 + l6 + l7 ≤ 1048576))))

theorem bytes8_any (f l s e t : Int) (a5 a6 a7 : Option Addr) (l5 c5 l6 c6 l7 c7 : Nat) (b l2 e2 t2 : Int) (w : World) (h5 : (l5 : Int) ≤ 16384) (h6 : (l6 : Int) ≤ 16384) (h7 : (l7 : Int) ≤ 16384) :
    Calls Try.prog 8 #[.int .u64 f, .int .u64 l, .int .u64 s, .int .i64 e, .int .i64 t, .slice a5 l5 c5, .slice a6 l6 c6, .slice a7 l7 c7, .int .i64 b, .int .u64 l2, .int .i64 e2, .int .i64 t2] w fun ee w' => ee = .returned (.bool true) ∧ w = w' := by
  go_enter Try.func8, Try.ntmps8
  go_wp2
  go_ret
  exact ⟨rfl, rfl⟩
set_option maxHeartbeats 1600000 in
theorem bytes8_some (f l s e t : Int) (a5 a6 a7 : Option Addr) (l5 c5 l6 c6 l7 c7 : Nat) (b l2 e2 t2 : Int) (w : World) (m5 : l5 ≤ maxLen) (m6 : l6 ≤ maxLen) (m7 : l7 ≤ maxLen) :
    Calls Try.prog 8 #[.int .u64 f, .int .u64 l, .int .u64 s, .int .i64 e, .int .i64 t, .slice a5 l5 c5, .slice a6 l6 c6, .slice a7 l7 c7, .int .i64 b, .int .u64 l2, .int .i64 e2, .int .i64 t2] w fun ee w' => ee = .returned (.bool (fit3 l5 l6 l7)) ∧ w = w' := by
  unfold maxLen at m5 m6 m7
  by_cases h0 : (l5 : Int) ≤ 1048576
  · by_cases h1 : (l6 : Int) ≤ 1048576
    · by_cases h2 : (l5 : Int) + l6 ≤ 1048576
      · by_cases h3 : (l7 : Int) ≤ 1048576
        · by_cases h4 : (l5 : Int) + l6 + l7 ≤ 1048576
          · go_enter Try.func8, Try.ntmps8
            go_wp2
            go_ret
            exact ⟨ret_bool (by simp [fit3]; omega), rfl⟩
          · go_enter Try.func8, Try.ntmps8
            go_wp2
            go_ret
            exact ⟨ret_bool (by simp [fit3]; omega), rfl⟩
        · go_enter Try.func8, Try.ntmps8
          go_wp2
          go_ret
          exact ⟨ret_bool (by simp [fit3]; omega), rfl⟩
      · go_enter Try.func8, Try.ntmps8
        go_wp2
        go_ret
        exact ⟨ret_bool (by simp [fit3]; omega), rfl⟩
    · go_enter Try.func8, Try.ntmps8
      go_wp2
      go_ret
      exact ⟨ret_bool (by simp [fit3]; omega), rfl⟩
  · go_enter Try.func8, Try.ntmps8
    go_wp2
    go_ret
    exact ⟨ret_bool (by simp [fit3]; omega), rfl⟩
theorem bytes10_any (f l s e t : Int) (a5 a6 a7 : Option Addr) (l5 c5 l6 c6 l7 c7 : Nat) (k b : Int) (w : World) (h5 : (l5 : Int) ≤ 16384) (h6 : (l6 : Int) ≤ 16384) (h7 : (l7 : Int) ≤ 16384) :
    Calls Try.prog 10 #[.int .u64 f, .int .u64 l, .int .u64 s, .int .i64 e, .int .i64 t, .slice a5 l5 c5, .slice a6 l6 c6, .slice a7 l7 c7, .int .i64 k, .int .i64 b] w fun ee w' => ee = .returned (.bool true) ∧ w = w' := by
  go_enter Try.func10, Try.ntmps10
  go_wp2
  go_ret
  exact ⟨rfl, rfl⟩
set_option maxHeartbeats 1600000 in
theorem bytes10_some (f l s e t : Int) (a5 a6 a7 : Option Addr) (l5 c5 l6 c6 l7 c7 : Nat) (k b : Int) (w : World) (m5 : l5 ≤ maxLen) (m6 : l6 ≤ maxLen) (m7 : l7 ≤ maxLen) :
    Calls Try.prog 10 #[.int .u64 f, .int .u64 l, .int .u64 s, .int .i64 e, .int .i64 t, .slice a5 l5 c5, .slice a6 l6 c6, .slice a7 l7 c7, .int .i64 k, .int .i64 b] w fun ee w' => ee = .returned (.bool (fit3 l5 l6 l7)) ∧ w = w' := by
  unfold maxLen at m5 m6 m7
  by_cases h0 : (l5 : Int) ≤ 1048576
  · by_cases h1 : (l6 : Int) ≤ 1048576
    · by_cases h2 : (l5 : Int) + l6 ≤ 1048576
      · by_cases h3 : (l7 : Int) ≤ 1048576
        · by_cases h4 : (l5 : Int) + l6 + l7 ≤ 1048576
          · go_enter Try.func10, Try.ntmps10
            go_wp2
            go_ret
            exact ⟨ret_bool (by simp [fit3]; omega), rfl⟩
          · go_enter Try.func10, Try.ntmps10
            go_wp2
            go_ret
            exact ⟨ret_bool (by simp [fit3]; omega), rfl⟩
        · go_enter Try.func10, Try.ntmps10
          go_wp2
          go_ret
          exact ⟨ret_bool (by simp [fit3]; omega), rfl⟩
      · go_enter Try.func10, Try.ntmps10
        go_wp2
        go_ret
        exact ⟨ret_bool (by simp [fit3]; omega), rfl⟩
    · go_enter Try.func10, Try.ntmps10
      go_wp2
      go_ret
      exact ⟨ret_bool (by simp [fit3]; omega), rfl⟩
  · go_enter Try.func10, Try.ntmps10
    go_wp2
    go_ret
    exact ⟨ret_bool (by simp [fit3]; omega), rfl⟩
set_option maxRecDepth 100000 in
set_option maxHeartbeats 800000 in
theorem kept_big (f l s e t : Int) (a5 a6 a7 : Option Addr) (l5 c5 l6 c6 l7 c7 : Nat) (b l2 e2 t2 : Int) (w : World) (m5 : l5 ≤ maxLen) (m6 : l6 ≤ maxLen) (m7 : l7 ≤ maxLen) (h : 16384 < l5 ∨ 16384 < l6 ∨ 16384 < l7) :
    Calls Try.prog 4 #[.int .u64 f, .int .u64 l, .int .u64 s, .int .i64 e, .int .i64 t, .slice a5 l5 c5, .slice a6 l6 c6, .slice a7 l7 c7, .int .i64 b, .int .u64 l2, .int .i64 e2, .int .i64 t2] w fun ee w' => ee = .returned (.bool true) ∧ Below w.heap.size w w' := by
  have n5 := m5
  have n6 := m6
  have n7 := m7
  unfold maxLen at n5 n6 n7
  cases hb : fit3 l5 l6 l7 with
  | false =>
    go_enter Try.func4, Try.ntmps4
    go_wp2_with (go_at_call 8; refine (bytes8_some _ _ _ _ _ _ _ _ _ _ _ _ _ _ _ _ _ _ _ m5 m6 m7).mono ?_; rintro ee wx ⟨rfl, rfl⟩)
    go_ret
    exact ⟨rfl, Below.refl _ _⟩
  | true =>
    by_cases h1 : (16384 : Int) < l5
    · clear h
      go_enter Try.func4, Try.ntmps4
      go_wp2_with (go_at_call 8; refine (bytes8_some _ _ _ _ _ _ _ _ _ _ _ _ _ _ _ _ _ _ _ m5 m6 m7).mono ?_; rintro ee wx ⟨rfl, rfl⟩)
      go_ret
      exact ⟨rfl, Below.refl _ _⟩
    by_cases h2 : (16384 : Int) < l6
    · clear h
      go_enter Try.func4, Try.ntmps4
      go_wp2_with (go_at_call 8; refine (bytes8_some _ _ _ _ _ _ _ _ _ _ _ _ _ _ _ _ _ _ _ m5 m6 m7).mono ?_; rintro ee wx ⟨rfl, rfl⟩)
      go_ret
      exact ⟨rfl, Below.refl _ _⟩
    have h3 : (16384 : Int) < l7 := by omega
    clear h
    go_enter Try.func4, Try.ntmps4
    go_wp2_with (go_at_call 8; refine (bytes8_some _ _ _ _ _ _ _ _ _ _ _ _ _ _ _ _ _ _ _ m5 m6 m7).mono ?_; rintro ee wx ⟨rfl, rfl⟩)
    go_ret
    exact ⟨rfl, Below.refl _ _⟩
set_option maxRecDepth 100000 in
set_option maxHeartbeats 800000 in
theorem cut_big (f l s e t : Int) (a5 a6 a7 : Option Addr) (l5 c5 l6 c6 l7 c7 : Nat) (k b : Int) (w : World) (m5 : l5 ≤ maxLen) (m6 : l6 ≤ maxLen) (m7 : l7 ≤ maxLen) (h : 16384 < l5 ∨ 16384 < l6 ∨ 16384 < l7) :
    Calls Try.prog 5 #[.int .u64 f, .int .u64 l, .int .u64 s, .int .i64 e, .int .i64 t, .slice a5 l5 c5, .slice a6 l6 c6, .slice a7 l7 c7, .int .i64 k, .int .i64 b] w fun ee w' => ee = .returned (.bool true) ∧ Below w.heap.size w w' := by
  have n5 := m5
  have n6 := m6
  have n7 := m7
  unfold maxLen at n5 n6 n7
  cases hb : fit3 l5 l6 l7 with
  | false =>
    go_enter Try.func5, Try.ntmps5
    go_wp2_with (go_at_call 10; refine (bytes10_some _ _ _ _ _ _ _ _ _ _ _ _ _ _ _ _ _ m5 m6 m7).mono ?_; rintro ee wx ⟨rfl, rfl⟩)
    go_ret
    exact ⟨rfl, Below.refl _ _⟩
  | true =>
    by_cases h1 : (16384 : Int) < l5
    · clear h
      go_enter Try.func5, Try.ntmps5
      go_wp2_with (go_at_call 10; refine (bytes10_some _ _ _ _ _ _ _ _ _ _ _ _ _ _ _ _ _ m5 m6 m7).mono ?_; rintro ee wx ⟨rfl, rfl⟩)
      go_ret
      exact ⟨rfl, Below.refl _ _⟩
    by_cases h2 : (16384 : Int) < l6
    · clear h
      go_enter Try.func5, Try.ntmps5
      go_wp2_with (go_at_call 10; refine (bytes10_some _ _ _ _ _ _ _ _ _ _ _ _ _ _ _ _ _ m5 m6 m7).mono ?_; rintro ee wx ⟨rfl, rfl⟩)
      go_ret
      exact ⟨rfl, Below.refl _ _⟩
    have h3 : (16384 : Int) < l7 := by omega
    clear h
    go_enter Try.func5, Try.ntmps5
    go_wp2_with (go_at_call 10; refine (bytes10_some _ _ _ _ _ _ _ _ _ _ _ _ _ _ _ _ _ m5 m6 m7).mono ?_; rintro ee wx ⟨rfl, rfl⟩)
    go_ret
    exact ⟨rfl, Below.refl _ _⟩
end Go.Proofs.Qxb6619836a
