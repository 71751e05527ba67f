/- FnECPAdvanceCountsRuns (4): a detector not yet detected. -/
import Derived.Test.Qxb6619723aRuns
import Derived.Deep.Cut
namespace Go.Proofs.Qxb6619723a
open Go.ChangeShapes Go.WideShapes Go.ChangeAt Go.RowKit
attribute [local go_sem] run_store_float

set_option maxRecDepth 100000 in
set_option maxHeartbeats 3200000 in
theorem ecp_run0z (id ld ph u : Int) (ao : Option Addr) (b off cap : Nat) (ms : List Bool) (w : World) (hB : BCame ao b off ms w) (hl : ms.length ≤ 65536)
    (p0 : -9223372036854775808 ≤ ph) (p1 : ph ≤ 9223372036854775807) (u0 : -9223372036854775808 ≤ u) (u1 : u ≤ 9223372036854775807) :
    Calls Try.prog 4 #[.int .i64 id, .int .i64 ld, .int .i64 ph, .int .i64 u, .int .i64 0, .bool false, .slice ao ms.length cap, .pointer none] w fun e w' => e = .returned (.bool true) ∧ Below w.heap.size w w' := by
  have BB := hide hB
  have hao := hB.addr
  clear hB
  have HM : Hid (okM u 0) := ⟨by omega, .inl rfl⟩
  go_enter Try.func4, Try.ntmps4
  go_wp2_with (first | (go_at_call 11; refine (bytes2_any _ _ _ _ _ _ _ _ _ _ _ (by omega)).mono ?_; rintro e wx ⟨rfl, rfl⟩) | (go_at_call 12; refine (set_any (st_start0 _ _ rfl rfl rfl rfl rfl rfl) u 0 false).mono ?_; rintro e wx ⟨rfl, hS⟩))
  go_loopw [20] (fun i wr => ∃ k : Nat, k ≤ ms.length ∧ i = .int .i64 k ∧ St w.heap.size w.heap.size none 0 id ld u false (wrap64 (ph + ((sim u (0, 0) (ms.take k)).2 : Int))) (sim u (0, 0) (ms.take k)).1 (sim u (0, 0) (ms.take k)).2 w wr) (fun i _ => ms.length - (intOf i).toNat)
  case atStart => exact ⟨0, Nat.zero_le _, rfl, hS.ph_eq (by show ph = wrap64 (ph + ((0 : Nat) : Int)); unfold wrap64; omega)⟩
  case round =>
    clear hS
    obtain ⟨k, hk, rfl, hS⟩ := hrel
    by_cases hlt : k < ms.length
    · obtain rfl := hao (by omega)
      have cm := BB.out.here rfl hS.bel k hlt
      have HK := hide (sim_ok (s := (0, 0)) HM.out (ms.take k))
      obtain ⟨mb, hmb⟩ : ∃ mb, ms[k] = mb := ⟨_, rfl⟩
      have HS : Hid (sim u (0, 0) (ms.take (k + 1)) = stp u (sim u (0, 0) (ms.take k)) mb) := by rw [List.take_succ_eq_append_getElem hlt, sim_snoc, hmb]; exact rfl
      rw [hmb] at cm
      clear hmb
      go_wp2_with (go_at_call 13; refine (zzadv_any hS HK.out u1 _ _ rfl).mono ?_; rintro e wx ⟨rfl, hS2⟩)
      go_roundw
      case rel => exact ⟨k + 1, by omega, by go_num, by rw [HS.out]; exact hS2⟩
      case measure => simp [intOf]; omega
    · obtain rfl : k = ms.length := by omega
      rw [List.take_length] at hS
      clear hk hlt
      obtain ⟨M, K, hF⟩ : ∃ M K, sim u (0, 0) ms = (M, K) := ⟨_, _, rfl⟩
      rw [hF] at hS
      have hKl := sim_cnt u ms (0, 0)
      rw [hF] at hKl
      simp only [Nat.zero_add] at hKl
      have FF := hide hF
      clear hF
      go_upto_region 18 with (go_at_call 14; refine (get_any hS).mono ?_; rintro e wx ⟨rfl, hS⟩)
      go_wp2
      go_loopw [24, 25, 26, 27, 28, 29, 30] (fun kk wm i _ _ _ _ wr => ∃ (n : Nat) (mn : Int) (cn : Nat), n ≤ ms.length ∧ i = .int .i64 n ∧ kk = .int .i64 (cn : Int) ∧ wm = .int .i64 mn ∧ sim u (0, 0) (ms.take n) = (mn, cn) ∧ atRun ms n mn ∧ St w.heap.size w.heap.size none 0 id ld u false (wrap64 (ph + (K : Int))) M K w wr) (fun _ _ i _ _ _ _ _ => ms.length - (intOf i).toNat)
      case atStart => exact ⟨0, 0, 0, Nat.zero_le _, rfl, rfl, rfl, rfl, .inl rfl, hS⟩
      case round =>
        clear hS
        obtain ⟨n, mn, cn, hn, rfl, rfl, rfl, hsim, hat, hS⟩ := hrel
        have HQ := hide (And.intro hsim hat)
        have OK := hide (sim_ok (s := (0, 0)) HM.out (ms.take n))
        rw [hsim] at OK
        have hcl := sim_cnt u (ms.take n) (0, 0)
        rw [hsim] at hcl
        simp only [Nat.zero_add, List.length_take] at hcl
        have hcn : cn ≤ n := by omega
        clear hsim hat hcl
        by_cases hlt : n < ms.length
        · obtain rfl := hao (by omega)
          have cm := BB.out.here rfl hS.bel n hlt
          cases hb : ms[n] with
          | false =>
            have SN := hide (sim_no hlt HQ.out.1 hb)
            rw [hb] at cm
            clear hb
            go_wp2
            go_roundw
            case rel => exact ⟨n + 1, 0, cn, by omega, by go_num, rfl, rfl, SN.out, .inr fun _ _ => rfl, hS⟩
            case measure => simp [intOf]; omega
          | true =>
            have HB := hide hb
            rw [hb] at cm
            clear hb
            go_wp2
            go_loop [27] (fun j => ∃ m : Nat, n ≤ m ∧ m ≤ ms.length ∧ j = .int .i64 m ∧ Hid (∀ (i : Nat) (hi : i < ms.length), n ≤ i → i < m → ms[i] = true)) (fun j => ms.length - (intOf j).toNat)
            case atStart => exact ⟨n, Nat.le_refl _, hn, rfl, fun i hi h1 h2 => by omega⟩
            case round =>
              obtain ⟨m, hnm, hmle, rfl, HT⟩ := hrel
              by_cases hml : m < ms.length
              · have cj := BB.out.here rfl hS.bel m hml
                cases hj : ms[m] with
                | true =>
                  have HJ := hide hj
                  rw [hj] at cj
                  clear hj
                  go_wp2
                  go_round
                  case rel =>
                    refine ⟨m + 1, by omega, by omega, by go_num, fun i hi h1 h2 => ?_⟩
                    by_cases e : i = m
                    · subst e; exact HJ.out
                    · exact HT.out i hi h1 (by omega)
                  case measure => simp [intOf]; omega
                | false =>
                  have HE : ∀ r0, atRun ms m r0 := fun r0 => .inr fun h h2 => by rw [hj] at h2; cases h2
                  have HNM : n < m := by
                    rcases Nat.lt_or_ge n m with h | h
                    · exact h
                    · have e : n = m := by omega
                      have h3 := HB.out
                      simp only [e] at h3
                      rw [hj] at h3; cases h3
                  rw [hj] at cj
                  clear hj
                  obtain ⟨l, hL⟩ : ∃ l : Nat, m - n = l := ⟨_, rfl⟩
                  have hli : (m : Int) - (n : Int) = (l : Int) := by omega
                  have SR := hide (sim_run_to (s0 := (0, 0)) HM.out HQ.out.1 hnm hmle HT.out)
                  rw [hL] at SR
                  have SC := hide (sim_cnt u (ms.take m) (0, 0))
                  have hmn : n < m := HNM
                  have hrun := runD_any mn (l : Int) u wr OK.out (by omega) (by omega) u0 u1
                  have hd0 := runD_nonneg OK.out l
                  obtain ⟨d, hd⟩ : ∃ d, (runD mn (l : Int) u).1 = d := ⟨_, rfl⟩
                  obtain ⟨r, hr⟩ : ∃ r, (runD mn (l : Int) u).2 = r := ⟨_, rfl⟩
                  rw [hd, hr] at hrun SR
                  rw [hd] at hd0
                  have hd1 : (cn : Int) + d ≤ 65536 := by
                    have h1 := SC.out
                    rw [SR.out] at h1
                    simp only [List.length_take] at h1
                    omega
                  have RUN := hide hrun
                  clear hrun hd hr hL
                  by_cases hn0 : n = 0
                  · have hnb : ((n : Int) == 0) = true := by simpa using hn0
                    have hmn0 : mn = 0 := by
                      have := HQ.out.1
                      rw [hn0] at this
                      have h2 : (0, 0) = (mn, cn) := this
                      injection h2 with h2 _
                      exact h2.symm
                    have RUN0 := hide RUN.out
                    rw [hmn0] at RUN0
                    clear hn0 hmn0 RUN
                    go_wp2_with (go_at_call 15; refine RUN0.out.mono ?_; rintro e wx ⟨rfl, hbx⟩)
                    go_roundw
                    case rel => exact ⟨m, r, cn + d.toNat, hmle, rfl, val_int (by omega), rfl, SR.out, HE _, hS.below hbx⟩
                    case measure => simp [intOf]; omega
                  · have hnb : ((n : Int) == 0) = false := by simpa using hn0
                    have hmn0 : mn = 0 := by
                      rcases HQ.out.2 with h | h
                      · exact absurd h hn0
                      · exact h hlt HB.out
                    have RUN0 := hide RUN.out
                    rw [hmn0] at RUN0
                    clear hn0 hmn0 RUN
                    go_wp2_with (go_at_call 15; refine RUN0.out.mono ?_; rintro e wx ⟨rfl, hbx⟩)
                    go_roundw
                    case rel => exact ⟨m, r, cn + d.toNat, hmle, rfl, val_int (by omega), rfl, SR.out, HE _, hS.below hbx⟩
                    case measure => simp [intOf]; omega
              · have HE : ∀ r0, atRun ms m r0 := fun r0 => .inr fun h _ => absurd h hml
                have HNM : n < m := by omega
                obtain ⟨l, hL⟩ : ∃ l : Nat, m - n = l := ⟨_, rfl⟩
                have hli : (m : Int) - (n : Int) = (l : Int) := by omega
                have SR := hide (sim_run_to (s0 := (0, 0)) HM.out HQ.out.1 hnm hmle HT.out)
                rw [hL] at SR
                have SC := hide (sim_cnt u (ms.take m) (0, 0))
                have hmn : n < m := HNM
                have hrun := runD_any mn (l : Int) u wr OK.out (by omega) (by omega) u0 u1
                have hd0 := runD_nonneg OK.out l
                obtain ⟨d, hd⟩ : ∃ d, (runD mn (l : Int) u).1 = d := ⟨_, rfl⟩
                obtain ⟨r, hr⟩ : ∃ r, (runD mn (l : Int) u).2 = r := ⟨_, rfl⟩
                rw [hd, hr] at hrun SR
                rw [hd] at hd0
                have hd1 : (cn : Int) + d ≤ 65536 := by
                  have h1 := SC.out
                  rw [SR.out] at h1
                  simp only [List.length_take] at h1
                  omega
                have RUN := hide hrun
                clear hrun hd hr hL
                by_cases hn0 : n = 0
                · have hnb : ((n : Int) == 0) = true := by simpa using hn0
                  have hmn0 : mn = 0 := by
                    have := HQ.out.1
                    rw [hn0] at this
                    have h2 : (0, 0) = (mn, cn) := this
                    injection h2 with h2 _
                    exact h2.symm
                  have RUN0 := hide RUN.out
                  rw [hmn0] at RUN0
                  clear hn0 hmn0 RUN
                  go_wp2_with (go_at_call 15; refine RUN0.out.mono ?_; rintro e wx ⟨rfl, hbx⟩)
                  go_roundw
                  case rel => exact ⟨m, r, cn + d.toNat, hmle, rfl, val_int (by omega), rfl, SR.out, HE _, hS.below hbx⟩
                  case measure => simp [intOf]; omega
                · have hnb : ((n : Int) == 0) = false := by simpa using hn0
                  have hmn0 : mn = 0 := by
                    rcases HQ.out.2 with h | h
                    · exact absurd h hn0
                    · exact h hlt HB.out
                  have RUN0 := hide RUN.out
                  rw [hmn0] at RUN0
                  clear hn0 hmn0 RUN
                  go_wp2_with (go_at_call 15; refine RUN0.out.mono ?_; rintro e wx ⟨rfl, hbx⟩)
                  go_roundw
                  case rel => exact ⟨m, r, cn + d.toNat, hmle, rfl, val_int (by omega), rfl, SR.out, HE _, hS.below hbx⟩
                  case measure => simp [intOf]; omega
        · obtain rfl : n = ms.length := by omega
          have hfin := HQ.out.1
          rw [List.take_length, FF.out] at hfin
          injection hfin with hf1 hf2
          subst hf1 hf2
          have c0 := hS.c0
          have c6 := hS.c6
          have c7 := hS.c7
          go_wp2
          go_ret
          exact ⟨rfl, hS.bel⟩
end Go.Proofs.Qxb6619723a
