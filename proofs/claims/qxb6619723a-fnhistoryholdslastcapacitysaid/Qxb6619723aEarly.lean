/- FnHistoryHoldsLastCapacity (3): the early ways out. -/
import Derived.Test.Qxb6619723aLaw
namespace Go.Proofs.Qxb6619723a
open Go.ChangeShapes Go.WideShapes Go.ChangeAt Go.RowKit

set_option maxRecDepth 100000 in
set_option maxHeartbeats 400000 in
theorem early_big (a0 a3 : Option Addr) (l0 k0 l3 k3 : Nat) (c nx : Int) (w : World) (m0 : l0 ≤ maxLen) (m3 : l3 ≤ maxLen) (h : 65536 < l0 ∨ 65536 < l3) :
    Calls Try.prog 3 #[.slice a0 l0 k0, .int .i64 c, .int .i64 nx, .slice a3 l3 k3] w fun e w' => e = .returned (.bool true) ∧ Below w.heap.size w w' := by
  have n0 := m0
  have n3 := m3
  unfold maxLen at n0 n3
  cases hb : fitB l0 l3 with
  | false =>
    go_enter Try.func3, Try.ntmps3
    go_wp2_with (go_at_call 6; refine (bytes_some _ _ _ _ _ _ _ _ _ m0 m3).mono ?_; rintro e wx ⟨rfl, rfl⟩)
    go_ret
    exact ⟨rfl, Below.refl _ _⟩
  | true =>
    by_cases h1 : (65536 : Int) < l0
    · clear h
      go_enter Try.func3, Try.ntmps3
      go_wp2_with (go_at_call 6; refine (bytes_some _ _ _ _ _ _ _ _ _ m0 m3).mono ?_; rintro e wx ⟨rfl, rfl⟩)
      go_ret
      exact ⟨rfl, Below.refl _ _⟩
    · have h2 : (65536 : Int) < l3 := by omega
      clear h
      go_enter Try.func3, Try.ntmps3
      go_wp2_with (go_at_call 6; refine (bytes_some _ _ _ _ _ _ _ _ _ m0 m3).mono ?_; rintro e wx ⟨rfl, rfl⟩)
      go_ret
      exact ⟨rfl, Below.refl _ _⟩

set_option maxRecDepth 100000 in
set_option maxHeartbeats 800000 in
theorem early_rest (a0 a3 : Option Addr) (l0 k0 l3 k3 : Nat) (c nx : Int) (w : World) (h0 : (l0 : Int) ≤ 65536) (h3 : (l3 : Int) ≤ 65536)
    (hbad : ¬ (0 ≤ c ∧ c ≤ 65536 ∧ l0 ≤ c ∧ (l0 < c ∨ c = 0 → nx = 0) ∧ (l0 = c → 0 < c → 0 ≤ nx ∧ nx < c))) :
    Calls Try.prog 3 #[.slice a0 l0 k0, .int .i64 c, .int .i64 nx, .slice a3 l3 k3] w fun e w' => e = .returned (.bool true) ∧ Below w.heap.size w w' := by
  by_cases q1 : c < 0
  · clear hbad
    go_enter Try.func3, Try.ntmps3
    go_wp2_with (go_at_call 6; refine (bytes_any _ _ _ _ _ _ _ _ _ (by omega) (by omega)).mono ?_; rintro e wx ⟨rfl, rfl⟩)
    go_ret
    exact ⟨rfl, Below.refl _ _⟩
  by_cases q2 : 65536 < c
  · clear hbad
    go_enter Try.func3, Try.ntmps3
    go_wp2_with (go_at_call 6; refine (bytes_any _ _ _ _ _ _ _ _ _ (by omega) (by omega)).mono ?_; rintro e wx ⟨rfl, rfl⟩)
    go_ret
    exact ⟨rfl, Below.refl _ _⟩
  by_cases q3 : c < l0
  · clear hbad
    go_enter Try.func3, Try.ntmps3
    go_wp2_with (go_at_call 6; refine (bytes_any _ _ _ _ _ _ _ _ _ (by omega) (by omega)).mono ?_; rintro e wx ⟨rfl, rfl⟩)
    go_ret
    exact ⟨rfl, Below.refl _ _⟩
  by_cases q4 : (l0 : Int) < c
  · have q5 : (nx != 0) = true := by
      have : nx ≠ 0 := fun e => hbad ⟨by omega, by omega, by omega, fun _ => e, fun _ _ => by omega⟩
      simpa using this
    clear hbad
    go_enter Try.func3, Try.ntmps3
    go_wp2_with (go_at_call 6; refine (bytes_any _ _ _ _ _ _ _ _ _ (by omega) (by omega)).mono ?_; rintro e wx ⟨rfl, rfl⟩)
    go_ret
    exact ⟨rfl, Below.refl _ _⟩
  by_cases q6 : c = 0
  · have q5 : (nx != 0) = true := by
      have : nx ≠ 0 := fun e => hbad ⟨by omega, by omega, by omega, fun _ => e, fun _ _ => by omega⟩
      simpa using this
    clear hbad
    subst q6
    go_enter Try.func3, Try.ntmps3
    go_wp2_with (go_at_call 6; refine (bytes_any _ _ _ _ _ _ _ _ _ (by omega) (by omega)).mono ?_; rintro e wx ⟨rfl, rfl⟩)
    go_ret
    exact ⟨rfl, Below.refl _ _⟩
  have q6b : (c == 0) = false := by simpa using q6
  by_cases q7 : nx < 0
  · clear hbad q6
    go_enter Try.func3, Try.ntmps3
    go_wp2_with (go_at_call 6; refine (bytes_any _ _ _ _ _ _ _ _ _ (by omega) (by omega)).mono ?_; rintro e wx ⟨rfl, rfl⟩)
    go_ret
    exact ⟨rfl, Below.refl _ _⟩
  have q8 : c ≤ nx := by
    by_cases h : c ≤ nx
    · exact h
    · exact absurd ⟨by omega, by omega, by omega, fun _ => by omega, fun _ _ => by omega⟩ hbad
  clear hbad q6
  go_enter Try.func3, Try.ntmps3
  go_wp2_with (go_at_call 6; refine (bytes_any _ _ _ _ _ _ _ _ _ (by omega) (by omega)).mono ?_; rintro e wx ⟨rfl, rfl⟩)
  go_ret
  exact ⟨rfl, Below.refl _ _⟩
end Go.Proofs.Qxb6619723a
