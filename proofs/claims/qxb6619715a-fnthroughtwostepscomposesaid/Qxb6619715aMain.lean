/- The law itself (3): the main way where both steps go through one event. -/
import Derived.Test.Qxb6619715aReady
namespace Go.Proofs.Qxb6619715a
open Go.ChangeShapes Go.WideShapes Go.ChangeAt Go.RowKit

set_option maxRecDepth 100000 in
set_option maxHeartbeats 1600000 in
theorem same_sure (n : Nat) (ao : Option Addr) (b off cap : Nat) (hs : List Hd) (e1 : Nat) (s1 : Int) (s2 : Int) (c2 : Bool) (w : World) (hC : Came ao b off cap hs w) (h : hs.length ≤ 16384) (hn0 : 1 ≤ n) (hn1 : n ≤ 16384)
    (he1 : e1 < n) (hw : withinB hs n = true) :
    Calls Try.prog 3 #[.int .i64 (n : Int), .bool true, .slice ao hs.length cap, .int .i64 (e1 : Int), .int .i64 s1, .bool false, .int .i64 (e1 : Int), .int .i64 s2, .bool c2] w fun e w' => e = .returned (.bool true) ∧ Below w.heap.size w w' := by
  have hwi := hide (within_any ao b off cap hs n w hC.addr (by omega) hC.held)
  rw [hw] at hwi
  have hin := hide (within_all hw)
  have CC := hide hC
  have hO := hide (okay_of hin.out)
  have q29 : ∀ (w : World) (a : Option Addr) (n c n' c' : Nat), (binOp .eql 29 (.slice a n c) (.slice none n' c')).run Try.prog w = .ok (.bool a.isNone) w := fun w a n c n' c' => Lib.run_eql_slice_nil w _ _ a n c n' c' Try.underlying29
  have he1i : (e1 : Int) < (n : Int) := by omega
  have he10 : (0 : Int) ≤ (e1 : Int) := by omega
  clear hC hw
  go_enter Try.func3, Try.ntmps3
  go_wp2_with (first | (go_at_call 5; refine (bytes_any _ _ _ _ _ _ _ _ _ _ _ _ (by omega)).mono ?_; rintro e wx ⟨rfl, rfl⟩) | (go_at_call 6; refine hwi.out.mono ?_; rintro e wx ⟨rfl, rfl⟩) | (go_at_call 7; refine (makeNodes_any n hn1 _).mono ?_; rintro e w1 ⟨rfl, hM⟩; have m1 := made_row hM e1 he1; unfold np at m1) | (go_at_call 8; refine (needVia_any _ _ _ _ _ (hM.node e1 he1)).mono ?_; rintro e w2 ⟨rfl, hL⟩; have R := ready_same CC.out hM he1 hL; clear m1 hM hL; have m2 := R.row e1 he1; unfold np at m2))
  have hH0 := R.size
  go_region_held3 (fun w' => w'.cell? ⟨w.heap.size, e1, none⟩ = some (.pointer (some ⟨w.heap.size + 1 + e1, 0, none⟩)))
    (first | go_keep | (exact R5.row e1 he1) | (exact R4.row e1 he1))
    (first | (go_at_call 10; refine (holders_r R.drew CC.out.addr CC.out.none h hin.out).mono ?_; rintro e w4 ⟨ao4, g4, cap4, rfl, hLd, R4, hb4⟩) | (go_at_call 9; refine (step1_yes R4 _ hLd (by omega) hO.out he1).mono ?_; rintro e w5 ⟨ao5, g5, cap5, rfl, hLd5, R5, hb5⟩))
  have m5 := R5.row e1 he1
  unfold np at m5
  go_wp2_with (first | (go_at_call 9; refine (step2_yes R5 _ hLd5 (by have := stepL_len e1 s1 hs; omega) (stepL_okay e1 n s1 hs hO.out) he1).mono ?_; rintro e w6 ⟨ao6, g6, cap6, rfl, hLd6, R6, hb6⟩) | (go_at_call 12; refine (model_r (cg := cap6) R6 CC.out.addr h hin.out hLd6).mono ?_; rintro e w7 ⟨v7, rfl, hW7, hV7, R7⟩) | (go_at_call 11; refine (same_r R7 h hin.out hV7 hW7).mono ?_; rintro e w8 ⟨rfl, hb8⟩))
  go_ret
  exact ⟨rfl, hb8⟩

set_option maxRecDepth 100000 in
set_option maxHeartbeats 1600000 in
theorem same_cond (n : Nat) (ao : Option Addr) (b off cap : Nat) (hs : List Hd) (e1 : Nat) (s1 : Int) (s2 : Int) (c2 : Bool) (w : World) (hC : Came ao b off cap hs w) (h : hs.length ≤ 16384) (hn0 : 1 ≤ n) (hn1 : n ≤ 16384)
    (he1 : e1 < n) (hw : withinB hs n = true) :
    Calls Try.prog 3 #[.int .i64 (n : Int), .bool true, .slice ao hs.length cap, .int .i64 (e1 : Int), .int .i64 s1, .bool true, .int .i64 (e1 : Int), .int .i64 s2, .bool c2] w fun e w' => e = .returned (.bool true) ∧ Below w.heap.size w w' := by
  have hwi := hide (within_any ao b off cap hs n w hC.addr (by omega) hC.held)
  rw [hw] at hwi
  have hin := hide (within_all hw)
  have CC := hide hC
  have hO := hide (okay_of hin.out)
  have q29 : ∀ (w : World) (a : Option Addr) (n c n' c' : Nat), (binOp .eql 29 (.slice a n c) (.slice none n' c')).run Try.prog w = .ok (.bool a.isNone) w := fun w a n c n' c' => Lib.run_eql_slice_nil w _ _ a n c n' c' Try.underlying29
  have he1i : (e1 : Int) < (n : Int) := by omega
  have he10 : (0 : Int) ≤ (e1 : Int) := by omega
  clear hC hw
  go_enter Try.func3, Try.ntmps3
  go_wp2_with (first | (go_at_call 5; refine (bytes_any _ _ _ _ _ _ _ _ _ _ _ _ (by omega)).mono ?_; rintro e wx ⟨rfl, rfl⟩) | (go_at_call 6; refine hwi.out.mono ?_; rintro e wx ⟨rfl, rfl⟩) | (go_at_call 7; refine (makeNodes_any n hn1 _).mono ?_; rintro e w1 ⟨rfl, hM⟩; have m1 := made_row hM e1 he1; unfold np at m1) | (go_at_call 8; refine (needVia_any _ _ _ _ _ (hM.node e1 he1)).mono ?_; rintro e w2 ⟨rfl, hL⟩; have R := ready_same CC.out hM he1 hL; clear m1 hM hL; have m2 := R.row e1 he1; unfold np at m2))
  have hH0 := R.size
  go_region_held3 (fun w' => w'.cell? ⟨w.heap.size, e1, none⟩ = some (.pointer (some ⟨w.heap.size + 1 + e1, 0, none⟩)))
    (first | go_keep | (exact R5.row e1 he1) | (exact R4.row e1 he1))
    (first | (go_at_call 10; refine (holders_r R.drew CC.out.addr CC.out.none h hin.out).mono ?_; rintro e w4 ⟨ao4, g4, cap4, rfl, hLd, R4, hb4⟩) | (go_at_call 9; refine (step1_no R4 _ _ _ _ (by simp)).mono ?_; rintro e w5 ⟨rfl, R5, hb5⟩))
  have m5 := R5.row e1 he1
  unfold np at m5
  go_wp2_with (first | (go_at_call 9; refine (step2_no R5 _ _ _ _ (by simp)).mono ?_; rintro e w6 ⟨rfl, R6, hb6⟩))
  go_ret
  exact ⟨rfl, R6.bel⟩

set_option maxRecDepth 100000 in
set_option maxHeartbeats 1600000 in
theorem same_unsure (n : Nat) (ao : Option Addr) (b off cap : Nat) (hs : List Hd) (e1 : Nat) (s1 : Int) (s2 : Int) (c1 : Bool) (c2 : Bool) (w : World) (hC : Came ao b off cap hs w) (h : hs.length ≤ 16384) (hn0 : 1 ≤ n) (hn1 : n ≤ 16384)
    (he1 : e1 < n) (hw : withinB hs n = true) :
    Calls Try.prog 3 #[.int .i64 (n : Int), .bool false, .slice ao hs.length cap, .int .i64 (e1 : Int), .int .i64 s1, .bool c1, .int .i64 (e1 : Int), .int .i64 s2, .bool c2] w fun e w' => e = .returned (.bool true) ∧ Below w.heap.size w w' := by
  have hwi := hide (within_any ao b off cap hs n w hC.addr (by omega) hC.held)
  rw [hw] at hwi
  have hin := hide (within_all hw)
  have CC := hide hC
  have hO := hide (okay_of hin.out)
  have q29 : ∀ (w : World) (a : Option Addr) (n c n' c' : Nat), (binOp .eql 29 (.slice a n c) (.slice none n' c')).run Try.prog w = .ok (.bool a.isNone) w := fun w a n c n' c' => Lib.run_eql_slice_nil w _ _ a n c n' c' Try.underlying29
  have he1i : (e1 : Int) < (n : Int) := by omega
  have he10 : (0 : Int) ≤ (e1 : Int) := by omega
  clear hC hw
  go_enter Try.func3, Try.ntmps3
  go_wp2_with (first | (go_at_call 5; refine (bytes_any _ _ _ _ _ _ _ _ _ _ _ _ (by omega)).mono ?_; rintro e wx ⟨rfl, rfl⟩) | (go_at_call 6; refine hwi.out.mono ?_; rintro e wx ⟨rfl, rfl⟩) | (go_at_call 7; refine (makeNodes_any n hn1 _).mono ?_; rintro e w1 ⟨rfl, hM⟩; have m1 := made_row hM e1 he1; unfold np at m1) | (go_at_call 8; refine (needVia_any _ _ _ _ _ (hM.node e1 he1)).mono ?_; rintro e w2 ⟨rfl, hL⟩; have R := ready_same CC.out hM he1 hL; clear m1 hM hL; have m2 := R.row e1 he1; unfold np at m2))
  have hH0 := R.size
  go_region_held3 (fun w' => w'.cell? ⟨w.heap.size, e1, none⟩ = some (.pointer (some ⟨w.heap.size + 1 + e1, 0, none⟩)))
    (first | go_keep | (exact R5.row e1 he1) | (exact R4.row e1 he1))
    (first | (go_at_call 10; refine (holders_r R.drew CC.out.addr CC.out.none h hin.out).mono ?_; rintro e w4 ⟨ao4, g4, cap4, rfl, hLd, R4, hb4⟩) | (go_at_call 9; refine (step1_no R4 _ _ _ _ (by simp)).mono ?_; rintro e w5 ⟨rfl, R5, hb5⟩))
  have m5 := R5.row e1 he1
  unfold np at m5
  go_wp2_with (first | (go_at_call 9; refine (step2_no R5 _ _ _ _ (by simp)).mono ?_; rintro e w6 ⟨rfl, R6, hb6⟩))
  go_ret
  exact ⟨rfl, R6.bel⟩
end Go.Proofs.Qxb6619715a
