/- FnHistoryHoldsLastCapacity (3): the main way, no capacity. -/
import Derived.Test.Qxb6619723aAid
namespace Go.Proofs.Qxb6619723a
open Go.ChangeShapes Go.WideShapes Go.ChangeAt Go.RowKit

set_option maxRecDepth 100000 in
set_option maxHeartbeats 1600000 in
theorem main_zero (a0 a3 : Option Addr) (b0 o0 b3 o3 k0 k3 : Nat) (xs : List Nat) (w : World) (h0 : FCame a0 b0 o0 [] w) (h3 : FCame a3 b3 o3 xs w) (m3 : xs.length ≤ 65536) :
    Calls Try.prog 3 #[.slice a0 0 k0, .int .i64 0, .int .i64 0, .slice a3 xs.length k3] w fun e w' => e = .returned (.bool true) ∧ Below w.heap.size w w' := by
  have hmk := run_make_lc 0 0 (by omega) (by omega)
  obtain ⟨w1, hcp, hz1, hown1, hb1⟩ := copy_est w 0 a0 k0 b0 o0 [] (by simp) (by omega) h0
  have HS := hide (hist_start (nx := 0) hz1 hown1 hb1)
  simp only [List.length_nil, Int.natCast_zero] at hcp hmk
  have H3 := hide h3
  have ha3 := h3.addr
  clear h0 h3 hown1 hb1
  go_enter Try.func3, Try.ntmps3
  go_wp2_with (first | (go_at_call 6; refine (bytes_any _ _ _ _ _ _ _ _ _ (by omega) (by omega)).mono ?_; rintro e wx ⟨rfl, rfl⟩) | (go_at_call 7; refine (new_any _ _ _ _ _).mono ?_; rintro e wx ⟨rfl, rfl⟩))
  go_loopw [11] (fun i wr => ∃ k : Nat, k ≤ xs.length ∧ i = .int .i64 k ∧ Hist w.heap.size 0 0 [] w wr) (fun i _ => xs.length - (intOf i).toNat)
  case atStart => exact ⟨0, Nat.zero_le _, rfl, HS.out⟩
  case round =>
    obtain ⟨k, hk, rfl, hh⟩ := hrel
    clear hcp hmk hz1
    by_cases hlt : k < xs.length
    · obtain rfl := ha3 (by omega)
      have hx := seq_xs H3.out hh.bel (es := []) 0 (0 + k) (by simp) (by simpa using hlt)
      simp only [List.length_nil, Nat.sub_zero, Nat.zero_add] at hx
      obtain ⟨y, hy⟩ : ∃ y, seqN [] xs 0 k = y := ⟨_, rfl⟩
      rw [hy] at hx
      clear hy
      go_wp2_with (go_at_call 8; refine (zzadd_any y hh (by omega) (by simp) (fun h => h)).mono ?_; rintro e wx ⟨rfl, hh2⟩)
      go_roundw
      case rel => exact ⟨k + 1, by omega, by go_num, by simpa [addR, addN] using hh2⟩
      case measure => simp [intOf]; omega
    · obtain rfl : k = xs.length := by omega
      clear ha3 hk hlt
      by_cases hgt : 0 < xs.length
      · have hgi : (0 : Int) < (xs.length : Int) := by omega
        go_wp2_with (go_at_call 9; refine (state_any hh).mono ?_; rintro e wx ⟨rfl, hh2⟩)
        go_loop [19, 20, 21] (fun j _ _ => j = .int .i64 0) (fun _ _ _ => 0)
        case atStart => rfl
        case round =>
          obtain rfl := hrel
          go_wp2
          go_ret
          exact ⟨rfl, hh2.bel⟩
      · obtain rfl : xs = [] := List.eq_nil_of_length_eq_zero (by omega)
        go_wp2_with (go_at_call 9; refine (state_any hh).mono ?_; rintro e wx ⟨rfl, hh2⟩)
        go_loop [19, 20, 21] (fun j _ _ => j = .int .i64 0) (fun _ _ _ => 0)
        case atStart => rfl
        case round =>
          obtain rfl := hrel
          go_wp2
          go_ret
          exact ⟨rfl, hh2.bel⟩
end Go.Proofs.Qxb6619723a
