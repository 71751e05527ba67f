/- The law itself (3): the early ways out. -/
import Derived.Test.Qxb6619715aReady
namespace Go.Proofs.Qxb6619715a
open Go.ChangeShapes Go.WideShapes Go.ChangeAt Go.RowKit

set_option maxHeartbeats 400000 in
theorem early_big (n0 : Int) (sure : Bool) (ao : Option Addr) (len cap : Nat) (e1 s1 : Int) (c1 : Bool) (e2 s2 : Int) (c2 : Bool) (w : World) (h : 16384 < len) :
    Calls Try.prog 3 #[.int .i64 n0, .bool sure, .slice ao len cap, .int .i64 e1, .int .i64 s1, .bool c1, .int .i64 e2, .int .i64 s2, .bool c2] w fun e w' => e = .returned (.bool true) ∧ Below w.heap.size w w' := by
  by_cases hb : (len : Int) ≤ 1048576
  · go_enter Try.func3, Try.ntmps3
    go_wp2_with (go_at_call 5; refine (bytes_any _ _ _ _ _ _ _ _ _ _ _ _ (by omega)).mono ?_; rintro e wx ⟨rfl, rfl⟩)
    go_ret
    exact ⟨rfl, Below.refl _ _⟩
  · go_enter Try.func3, Try.ntmps3
    go_wp2_with (go_at_call 5; refine (bytes_over _ _ _ _ _ _ _ _ _ _ _ _ (by omega)).mono ?_; rintro e wx ⟨rfl, rfl⟩)
    go_ret
    exact ⟨rfl, Below.refl _ _⟩

set_option maxHeartbeats 400000 in
theorem early_count (n0 : Int) (sure : Bool) (ao : Option Addr) (len cap : Nat) (e1 s1 : Int) (c1 : Bool) (e2 s2 : Int) (c2 : Bool) (w : World) (h : len ≤ 16384) (hn : n0 < 1 ∨ 16384 < n0) :
    Calls Try.prog 3 #[.int .i64 n0, .bool sure, .slice ao len cap, .int .i64 e1, .int .i64 s1, .bool c1, .int .i64 e2, .int .i64 s2, .bool c2] w fun e w' => e = .returned (.bool true) ∧ Below w.heap.size w w' := by
  by_cases hb : n0 < 1
  · go_enter Try.func3, Try.ntmps3
    go_wp2_with (go_at_call 5; refine (bytes_any _ _ _ _ _ _ _ _ _ _ _ _ (by omega)).mono ?_; rintro e wx ⟨rfl, rfl⟩)
    go_ret
    exact ⟨rfl, Below.refl _ _⟩
  · have hb2 : 16384 < n0 := by omega
    clear hn
    go_enter Try.func3, Try.ntmps3
    go_wp2_with (go_at_call 5; refine (bytes_any _ _ _ _ _ _ _ _ _ _ _ _ (by omega)).mono ?_; rintro e wx ⟨rfl, rfl⟩)
    go_ret
    exact ⟨rfl, Below.refl _ _⟩

set_option maxHeartbeats 800000 in
theorem early_event (n0 : Int) (sure : Bool) (ao : Option Addr) (b off cap : Nat) (hs : List Hd) (e1 s1 : Int) (c1 : Bool) (e2 s2 : Int) (c2 : Bool) (w : World) (hC : Came ao b off cap hs w) (h : hs.length ≤ 16384) (hn0 : 1 ≤ n0) (hn1 : n0 ≤ 16384)
    (hbad : ¬ (0 ≤ e1 ∧ e1 < n0 ∧ 0 ≤ e2 ∧ e2 < n0) ∨ withinB hs n0 = false) :
    Calls Try.prog 3 #[.int .i64 n0, .bool sure, .slice ao hs.length cap, .int .i64 e1, .int .i64 s1, .bool c1, .int .i64 e2, .int .i64 s2, .bool c2] w fun e w' => e = .returned (.bool true) ∧ Below w.heap.size w w' := by
  have hw := hide (within_any ao b off cap hs n0 w hC.addr (by omega) hC.held)
  clear hC
  by_cases q1 : e1 < 0
  · go_enter Try.func3, Try.ntmps3
    go_wp2_with (go_at_call 5; refine (bytes_any _ _ _ _ _ _ _ _ _ _ _ _ (by omega)).mono ?_; rintro e wx ⟨rfl, rfl⟩)
    go_ret
    exact ⟨rfl, Below.refl _ _⟩
  by_cases q2 : n0 ≤ e1
  · go_enter Try.func3, Try.ntmps3
    go_wp2_with (go_at_call 5; refine (bytes_any _ _ _ _ _ _ _ _ _ _ _ _ (by omega)).mono ?_; rintro e wx ⟨rfl, rfl⟩)
    go_ret
    exact ⟨rfl, Below.refl _ _⟩
  by_cases q3 : e2 < 0
  · go_enter Try.func3, Try.ntmps3
    go_wp2_with (go_at_call 5; refine (bytes_any _ _ _ _ _ _ _ _ _ _ _ _ (by omega)).mono ?_; rintro e wx ⟨rfl, rfl⟩)
    go_ret
    exact ⟨rfl, Below.refl _ _⟩
  by_cases q4 : n0 ≤ e2
  · go_enter Try.func3, Try.ntmps3
    go_wp2_with (go_at_call 5; refine (bytes_any _ _ _ _ _ _ _ _ _ _ _ _ (by omega)).mono ?_; rintro e wx ⟨rfl, rfl⟩)
    go_ret
    exact ⟨rfl, Below.refl _ _⟩
  have hwf : withinB hs n0 = false := by
    rcases hbad with h | h
    · omega
    · exact h
  rw [hwf] at hw
  clear hbad hwf
  go_enter Try.func3, Try.ntmps3
  go_wp2_with (first | (go_at_call 5; refine (bytes_any _ _ _ _ _ _ _ _ _ _ _ _ (by omega)).mono ?_; rintro e wx ⟨rfl, rfl⟩) | (go_at_call 6; refine hw.out.mono ?_; rintro e wx ⟨rfl, rfl⟩))
  go_ret
  exact ⟨rfl, Below.refl _ _⟩
end Go.Proofs.Qxb6619715a
