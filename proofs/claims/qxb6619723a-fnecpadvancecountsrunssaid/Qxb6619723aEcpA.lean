/- FnECPAdvanceCountsRuns (4): a detector already detected. -/
import Derived.Test.Qxb6619723aRuns
import Derived.Deep.Cut
namespace Go.Proofs.Qxb6619723a
open Go.ChangeShapes Go.WideShapes Go.ChangeAt Go.RowKit
attribute [local go_sem] run_store_float

set_option maxRecDepth 100000 in
set_option maxHeartbeats 3200000 in
theorem ecp_det0 (id ld ph u met : Int) (ao : Option Addr) (b off cap : Nat) (ms : List Bool) (w : World) (hB : BCame ao b off ms w) (hl : ms.length ≤ 65536)
    (p0 : -9223372036854775808 ≤ ph) (p1 : ph ≤ 9223372036854775807) :
    Calls Try.prog 4 #[.int .i64 id, .int .i64 ld, .int .i64 ph, .int .i64 u, .int .i64 met, .bool true, .slice ao ms.length cap, .pointer none] w fun e w' => e = .returned (.bool true) ∧ Below w.heap.size w w' := by
  have BB := hide hB
  have hao := hB.addr
  clear hB
  go_enter Try.func4, Try.ntmps4
  go_wp2_with (first | (go_at_call 11; refine (bytes2_any _ _ _ _ _ _ _ _ _ _ _ (by omega)).mono ?_; rintro e wx ⟨rfl, rfl⟩) | (go_at_call 12; refine (set_any (st_start0 _ _ rfl rfl rfl rfl rfl rfl) u met true).mono ?_; rintro e wx ⟨rfl, hS⟩))
  go_loopw [20] (fun i wr => ∃ k : Nat, k ≤ ms.length ∧ i = .int .i64 k ∧ St w.heap.size w.heap.size none 0 id ld u true ph met 0 w wr) (fun i _ => ms.length - (intOf i).toNat)
  case atStart => exact ⟨0, Nat.zero_le _, rfl, hS⟩
  case round =>
    clear hS
    obtain ⟨k, hk, rfl, hS⟩ := hrel
    by_cases hlt : k < ms.length
    · obtain rfl := hao (by omega)
      have cm := BB.out.here rfl hS.bel k hlt
      obtain ⟨mb, hmb⟩ : ∃ mb, ms[k] = mb := ⟨_, rfl⟩
      rw [hmb] at cm
      clear hmb
      go_wp2_with (go_at_call 13; refine (zzadv_det _ hS _).mono ?_; rintro e wx ⟨rfl, rfl⟩)
      go_roundw
      case rel => exact ⟨k + 1, by omega, by go_num, hS⟩
      case measure => simp [intOf]; omega
    · go_upto_region 18 with (go_at_call 14; refine (get_any hS).mono ?_; rintro e wx ⟨rfl, hS⟩)
      have c0 := hS.c0
      have c6 := hS.c6
      have c7 := hS.c7
      go_wp2
      go_ret
      exact ⟨rfl, hS.bel⟩

set_option maxRecDepth 100000 in
set_option maxHeartbeats 3200000 in
theorem ecp_det1 (id ld ph u met : Int) (ao : Option Addr) (b off cap : Nat) (ms : List Bool) (w : World) (hB : BCame ao b off ms w) (hl : ms.length ≤ 65536) (cb co : Nat) (v : Nat) (hcb : cb < w.heap.size) (hcv : w.cell? ⟨cb, co, none⟩ = some (.float .f64 v))
    (p0 : -9223372036854775808 ≤ ph) (p1 : ph ≤ 9223372036854775807) :
    Calls Try.prog 4 #[.int .i64 id, .int .i64 ld, .int .i64 ph, .int .i64 u, .int .i64 met, .bool true, .slice ao ms.length cap, .pointer (some ⟨cb, co, none⟩)] w fun e w' => e = .returned (.bool true) ∧ Below w.heap.size w w' := by
  have BB := hide hB
  have hao := hB.addr
  clear hB
  go_enter Try.func4, Try.ntmps4
  go_wp2_with (first | (go_at_call 11; refine (bytes2_any _ _ _ _ _ _ _ _ _ _ _ (by omega)).mono ?_; rintro e wx ⟨rfl, rfl⟩) | (go_at_call 12; refine (set_any (st_start1 _ _ _ rfl rfl rfl rfl rfl rfl) u met true).mono ?_; rintro e wx ⟨rfl, hS⟩))
  go_loopw [20] (fun i wr => ∃ k : Nat, k ≤ ms.length ∧ i = .int .i64 k ∧ St w.heap.size (w.heap.size + 1) (some w.heap.size) v id ld u true ph met 0 w wr) (fun i _ => ms.length - (intOf i).toNat)
  case atStart => exact ⟨0, Nat.zero_le _, rfl, hS⟩
  case round =>
    clear hS
    obtain ⟨k, hk, rfl, hS⟩ := hrel
    by_cases hlt : k < ms.length
    · obtain rfl := hao (by omega)
      have cm := BB.out.here rfl hS.bel k hlt
      obtain ⟨mb, hmb⟩ : ∃ mb, ms[k] = mb := ⟨_, rfl⟩
      rw [hmb] at cm
      clear hmb
      go_wp2_with (go_at_call 13; refine (zzadv_det _ hS _).mono ?_; rintro e wx ⟨rfl, rfl⟩)
      go_roundw
      case rel => exact ⟨k + 1, by omega, by go_num, hS⟩
      case measure => simp [intOf]; omega
    · go_upto_region 18 with (go_at_call 14; refine (get_any hS).mono ?_; rintro e wx ⟨rfl, hS⟩)
      have c0 := hS.c0
      have c6 := hS.c6
      have c7 := hS.c7
      have cv := (hS.bel.cell (p := ⟨cb, co, none⟩) hcb).trans hcv
      go_wp2
      have ST := hide hS
      clear hS c0 c6 c7 cv
      go_loopw [31, 32] (fun x t wr => ∃ (tt xx : Nat), tt ≤ 0 ∧ t = .int .i64 tt ∧ x = .float .f64 xx ∧ Cl v tt xx ∧ St w.heap.size (w.heap.size + 1) (some w.heap.size) v id ld u true ph met 0 w wr) (fun _ t _ => 0 - (intOf t).toNat)
      case atStart => exact ⟨0, v, Nat.zero_le _, rfl, rfl, cl_zero v, ST.out⟩
      case round =>
        obtain ⟨tt, xx, htt, rfl, rfl, hcl, hS⟩ := hrel
        by_cases htl : tt < 0
        · exact absurd htl (Nat.not_lt_zero _)
        · obtain rfl : tt = 0 := by omega
          obtain ⟨_, _, _, ⟨y, cy, hy⟩, _⟩ := hS.cnt _ rfl
          go_wp2_with (go_at_call 10; refine (sameF_cl hy hcl _).mono ?_; rintro e wx ⟨rfl, rfl⟩)
          go_ret
          exact ⟨rfl, hS.bel⟩
end Go.Proofs.Qxb6619723a
