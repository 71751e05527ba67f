/- FnHistoryHoldsLastCapacity (3): the main way, est shorter than the capacity. -/
import Derived.Test.Qxb6619723aAid
namespace Go.Proofs.Qxb6619723a
open Go.ChangeShapes Go.WideShapes Go.ChangeAt Go.RowKit

set_option maxRecDepth 100000 in
set_option maxHeartbeats 1600000 in
theorem main_part (a0 a3 : Option Addr) (b0 o0 b3 o3 k0 k3 : Nat) (es xs : List Nat) (c : Nat) (w : World) (h0 : FCame a0 b0 o0 es w) (h3 : FCame a3 b3 o3 xs w) (m0 : es.length ≤ 65536) (m3 : xs.length ≤ 65536) (hc : c ≤ 65536) (hl : es.length < c) :
    Calls Try.prog 3 #[.slice a0 es.length k0, .int .i64 (c : Int), .int .i64 0, .slice a3 xs.length k3] w fun e w' => e = .returned (.bool true) ∧ Below w.heap.size w w' := by
  have hI := hide (inv_start es xs (c := c) (nx0 := 0) (by omega) (fun _ => rfl) (fun _ _ => by omega))
  have hmk := run_make_lc es.length c (by omega) hc
  obtain ⟨w1, hcp, hz1, hown1, hb1⟩ := copy_est w c a0 k0 b0 o0 es (by omega) hc h0
  have H0 := hide h0
  have H3 := hide h3
  have ha3 := h3.addr
  clear h0 h3
  go_enter Try.func3, Try.ntmps3
  go_wp2_with (first | (go_at_call 6; refine (bytes_any _ _ _ _ _ _ _ _ _ (by omega) (by omega)).mono ?_; rintro e wx ⟨rfl, rfl⟩) | (go_at_call 7; refine (new_any _ _ _ _ _).mono ?_; rintro e wx ⟨rfl, rfl⟩))
  go_loopw [11] (fun i wr => ∃ (k : Nat) (rs : List Nat) (nx : Nat), k ≤ xs.length ∧ i = .int .i64 k ∧ Inv c 0 es.length (seqN es xs 0) (es.length + k) rs nx ∧ Hist w.heap.size c nx rs w wr) (fun i _ => xs.length - (intOf i).toNat)
  case atStart => exact ⟨0, es, 0, Nat.zero_le _, rfl, hI.out, hist_start hz1 hown1 hb1⟩
  case round =>
    obtain ⟨k, rs, nx, hk, rfl, hinv, hh⟩ := hrel
    clear hcp hmk hown1 hb1 hz1
    by_cases hlt : k < xs.length
    · obtain rfl := ha3 (by omega)
      have hx := seq_xs H3.out hh.bel (es := es) 0 (es.length + k) (by omega) (by omega)
      rw [show es.length + k - es.length = k from by omega] at hx
      have IS := hide (inv_step hinv)
      have hll := hinv.len
      have hnl := fun h => hinv.nx_lt h
      have HL := hide (And.intro hll hnl)
      clear hll hnl hinv
      obtain ⟨y, hy⟩ : ∃ y, seqN es xs 0 (es.length + k) = y := ⟨_, rfl⟩
      rw [hy] at hx IS
      clear hy
      go_wp2_with (go_at_call 8; refine (zzadd_any y hh (by omega) (by have := HL.out.1; omega) HL.out.2).mono ?_; rintro e wx ⟨rfl, hh2⟩)
      go_roundw
      case rel => exact ⟨k + 1, _, _, by omega, by go_num, IS.out, hh2⟩
      case measure => simp [intOf]; omega
    · obtain rfl : k = xs.length := by omega
      clear ha3 hk hlt
      have hneq : ((es.length : Int) == (c : Int)) = false := by simp; omega
      have hlen := hinv.len
      have hpos := hinv.pos (by omega)
      have IV := hide hinv
      clear hinv hI
      by_cases hgt : c < es.length + xs.length
      · have hrl : rs.length = c := by omega
        have RL := hide hrl
        have hE : ((xs.length : Int) - ((c : Int) - (es.length : Int))) % (c : Int) = (nx : Int) := by
          rw [hpos, hrl, show (xs.length : Int) - ((c : Int) - (es.length : Int)) = ((0 + (es.length + xs.length - c) : Nat) : Int) from by omega]; simp
        have hdec : decide ((c : Int) - (es.length : Int) < (xs.length : Int)) = true := by simp; omega
        have hgi : (c : Int) < (es.length : Int) + (xs.length : Int) := by omega
        have hnn : (0 : Int) < (c : Int) := by omega
        have BT := hide hgt
        have hnlt : (nx : Int) < (c : Int) := by have := IV.out.nx_lt (by omega); omega
        clear hpos hlen hgt
        go_wp2_with (go_at_call 9; refine (state_any hh).mono ?_; rintro e wx ⟨rfl, hh2⟩)
        simp only [hE]
        go_loop [19, 20, 21] (fun j _ _ => ∃ jj : Nat, jj ≤ c ∧ j = .int .i64 jj) (fun j _ _ => c - (intOf j).toNat)
        case atStart => exact ⟨0, Nat.zero_le _, rfl⟩
        case round =>
          obtain ⟨jj, hjj, rfl⟩ := hrel
          by_cases hj : jj < c
          · obtain ⟨i, hi⟩ : ∃ i : Nat, es.length + xs.length - c + jj = i := ⟨_, rfl⟩
            have hii : (es.length : Int) + (xs.length : Int) - (c : Int) + (jj : Int) = (i : Int) := by omega
            obtain ⟨p, hp⟩ : ∃ p : Nat, (nx + jj) % rs.length = p := ⟨_, rfl⟩
            have hpi : ((nx : Int) + (jj : Int)) % (c : Int) = (p : Int) := by rw [← hp, RL.out]; simp
            have hpl : (p : Int) < (c : Int) := by have := Nat.mod_lt (nx + jj) (y := rs.length) (by rw [RL.out]; omega); rw [hp, RL.out] at this; omega
            have cg := got_at hh2 IV.out jj p i (by rw [RL.out]; exact hj) hp (by rw [RL.out]; exact hi)
            obtain ⟨y, hy⟩ : ∃ y, seqN es xs 0 i = y := ⟨_, rfl⟩
            rw [hy] at cg
            have HH := hide (And.intro hp hi)
            clear hp hi
            by_cases hie : i < es.length
            · obtain ⟨q, hq⟩ : ∃ q : Nat, (0 + i) % es.length = q := ⟨_, rfl⟩
              have hqi : (i : Int) % (es.length : Int) = (q : Int) := by rw [← hq]; simp
              have hql : (q : Int) < (es.length : Int) := by have := Nat.mod_lt (0 + i) (y := es.length) (by omega); rw [hq] at this; omega
              have ce := seq_est H0.out hh2.bel (xs := xs) 0 i q hie hq
              rw [hy] at ce
              have A0 := H0.out.addr (by omega)
              have HQ := hide (And.intro hq hy)
              clear hq hy
              subst A0
              go_wp2_with (go_at_call 10; refine (sameF_any y _).mono ?_; rintro e wx ⟨rfl, rfl⟩)
              go_round
              case rel => exact ⟨jj + 1, by omega, by go_num⟩
              case measure => simp [intOf]; omega
            · have cx := seq_xs H3.out hh2.bel (es := es) 0 i (by omega) (by have := HH.out; have := BT.out; omega)
              rw [hy] at cx
              have A3 := H3.out.addr (by have := HH.out; have := BT.out; omega)
              have HQ := hide hy
              clear hy
              subst A3
              go_wp2_with (go_at_call 10; refine (sameF_any y _).mono ?_; rintro e wx ⟨rfl, rfl⟩)
              go_round
              case rel => exact ⟨jj + 1, by omega, by go_num⟩
              case measure => simp [intOf]; omega
          · go_wp2
            go_ret
            exact ⟨rfl, hh2.bel⟩
      · have hrl : rs.length = es.length + xs.length := by omega
        have RL := hide hrl
        obtain rfl : nx = 0 := by rw [hpos, hrl]; simp
        obtain ⟨t, ht⟩ : ∃ t : Nat, es.length + xs.length = t := ⟨_, rfl⟩
        rw [ht] at hrl RL
        have hti : (es.length : Int) + (xs.length : Int) = (t : Int) := by omega
        have htc : (t : Int) ≤ (c : Int) := by omega
        have hdec : decide ((c : Int) - (es.length : Int) < (xs.length : Int)) = false := by simp; omega
        have hdec2 : decide (c < t) = false := by simp; omega
        have HT := hide ht
        have BT := hide ht
        clear hpos hlen hgt ht
        go_wp2_with (go_at_call 9; refine (state_any hh).mono ?_; rintro e wx ⟨rfl, hh2⟩)
        skip
        go_loop [19, 20, 21] (fun j _ _ => ∃ jj : Nat, jj ≤ t ∧ j = .int .i64 jj) (fun j _ _ => t - (intOf j).toNat)
        case atStart => exact ⟨0, Nat.zero_le _, rfl⟩
        case round =>
          obtain ⟨jj, hjj, rfl⟩ := hrel
          by_cases hj : jj < t
          · obtain ⟨i, hi⟩ : ∃ i : Nat, es.length + xs.length - t + jj = i := ⟨_, rfl⟩
            have hii : i = jj := by have := HT.out; omega
            subst hii
            obtain ⟨p, hp⟩ : ∃ p : Nat, (0 + i) % rs.length = p := ⟨_, rfl⟩
            have hpi : (i : Int) % (t : Int) = (p : Int) := by rw [← hp, RL.out]; simp
            have hpl : (p : Int) < (t : Int) := by have := Nat.mod_lt (0 + i) (y := rs.length) (by rw [RL.out]; omega); rw [hp, RL.out] at this; omega
            have cg := got_at hh2 IV.out i p i (by rw [RL.out]; exact hj) hp (by rw [RL.out]; exact hi)
            obtain ⟨y, hy⟩ : ∃ y, seqN es xs 0 i = y := ⟨_, rfl⟩
            rw [hy] at cg
            have HH := hide (And.intro hp hi)
            clear hp hi
            by_cases hie : i < es.length
            · obtain ⟨q, hq⟩ : ∃ q : Nat, (0 + i) % es.length = q := ⟨_, rfl⟩
              have hqi : (i : Int) % (es.length : Int) = (q : Int) := by rw [← hq]; simp
              have hql : (q : Int) < (es.length : Int) := by have := Nat.mod_lt (0 + i) (y := es.length) (by omega); rw [hq] at this; omega
              have ce := seq_est H0.out hh2.bel (xs := xs) 0 i q hie hq
              rw [hy] at ce
              have A0 := H0.out.addr (by omega)
              have HQ := hide (And.intro hq hy)
              clear hq hy
              subst A0
              go_wp2_with (go_at_call 10; refine (sameF_any y _).mono ?_; rintro e wx ⟨rfl, rfl⟩)
              go_round
              case rel => exact ⟨i + 1, by omega, by go_num⟩
              case measure => simp [intOf]; omega
            · have cx := seq_xs H3.out hh2.bel (es := es) 0 i (by omega) (by have := HH.out; have := BT.out; omega)
              rw [hy] at cx
              have A3 := H3.out.addr (by have := HH.out; have := BT.out; omega)
              have HQ := hide hy
              clear hy
              subst A3
              go_wp2_with (go_at_call 10; refine (sameF_any y _).mono ?_; rintro e wx ⟨rfl, rfl⟩)
              go_round
              case rel => exact ⟨i + 1, by omega, by go_num⟩
              case measure => simp [intOf]; omega
          · go_wp2
            go_ret
            exact ⟨rfl, hh2.bel⟩
end Go.Proofs.Qxb6619723a
