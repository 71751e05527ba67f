/- FnECPAdvanceCountsRuns (4): the early ways out. -/
import Derived.Test.Qxb6619723aRuns
namespace Go.Proofs.Qxb6619723a
open Go.ChangeShapes Go.WideShapes Go.ChangeAt Go.RowKit

set_option maxRecDepth 100000 in
set_option maxHeartbeats 800000 in
theorem ecp_big (id ld ph u met : Int) (det : Bool) (ao : Option Addr) (len cap : Nat) (po : Option Addr) (w : World) (h : 65536 < len) :
    Calls Try.prog 4 #[.int .i64 id, .int .i64 ld, .int .i64 ph, .int .i64 u, .int .i64 met, .bool det, .slice ao len cap, .pointer po] w fun e w' => e = .returned (.bool true) ∧ Below w.heap.size w w' := by
  by_cases hb : (len : Int) ≤ 1048576
  · go_enter Try.func4, Try.ntmps4
    go_wp2_with (go_at_call 11; refine (bytes2_any _ _ _ _ _ _ _ _ _ _ _ (by omega)).mono ?_; rintro e wx ⟨rfl, rfl⟩)
    go_ret
    exact ⟨rfl, Below.refl _ _⟩
  · go_enter Try.func4, Try.ntmps4
    go_wp2_with (go_at_call 11; refine (bytes2_over _ _ _ _ _ _ _ _ _ _ _ (by omega)).mono ?_; rintro e wx ⟨rfl, rfl⟩)
    go_ret
    exact ⟨rfl, Below.refl _ _⟩

set_option maxRecDepth 100000 in
set_option maxHeartbeats 800000 in
theorem ecp_bad (id ld ph u met : Int) (ao : Option Addr) (len cap : Nat) (po : Option Addr) (w : World) (h : (len : Int) ≤ 65536) (hbad : ¬ okM u met) :
    Calls Try.prog 4 #[.int .i64 id, .int .i64 ld, .int .i64 ph, .int .i64 u, .int .i64 met, .bool false, .slice ao len cap, .pointer po] w fun e w' => e = .returned (.bool true) ∧ Below w.heap.size w w' := by
  unfold okM at hbad
  by_cases q1 : met < 0
  · clear hbad
    go_enter Try.func4, Try.ntmps4
    go_wp2_with (go_at_call 11; refine (bytes2_any _ _ _ _ _ _ _ _ _ _ _ (by omega)).mono ?_; rintro e wx ⟨rfl, rfl⟩)
    go_ret
    exact ⟨rfl, Below.refl _ _⟩
  have q2 : (met != 0) = true := by
    have : met ≠ 0 := fun e => hbad ⟨by omega, .inl e⟩
    simpa using this
  have q3 : u ≤ met := by
    by_cases h : u ≤ met
    · exact h
    · exact absurd ⟨by omega, .inr (by omega)⟩ hbad
  clear hbad
  go_enter Try.func4, Try.ntmps4
  go_wp2_with (go_at_call 11; refine (bytes2_any _ _ _ _ _ _ _ _ _ _ _ (by omega)).mono ?_; rintro e wx ⟨rfl, rfl⟩)
  go_ret
  exact ⟨rfl, Below.refl _ _⟩
end Go.Proofs.Qxb6619723a
