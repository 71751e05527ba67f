/- FnHistoryHoldsLastCapacity (3): the main way, est as long as the capacity. -/
import Derived.Test.Qxb6619723aAid
namespace Go.Proofs.Qxb6619723a
open Go.ChangeShapes Go.WideShapes Go.ChangeAt Go.RowKit

set_option maxRecDepth 100000 in
set_option maxHeartbeats 1600000 in
theorem main_full (a0 a3 : Option Addr) (b0 o0 b3 o3 k0 k3 : Nat) (es xs : List Nat) (nx0 : Nat) (w : World) (h0 : FCame a0 b0 o0 es w) (h3 : FCame a3 b3 o3 xs w) (m0 : es.length ≤ 65536) (m3 : xs.length ≤ 65536) (hpos0 : 0 < es.length) (hn : nx0 < es.length) :
    Calls Try.prog 3 #[.slice a0 es.length k0, .int .i64 (es.length : Int), .int .i64 (nx0 : Int), .slice a3 xs.length k3] w fun e w' => e = .returned (.bool true) ∧ Below w.heap.size w w' := by
  have hI := hide (inv_start es xs (c := es.length) (nx0 := nx0) (Nat.le_refl _) (fun h => by rcases h with h | h <;> omega) (fun _ _ => hn))
  have hmk := run_make_lc es.length es.length (by omega) (by omega)
  obtain ⟨w1, hcp, hz1, hown1, hb1⟩ := copy_est w es.length a0 k0 b0 o0 es (by omega) (by omega) h0
  have hne0 : ((es.length : Int) == 0) = false := beq_eq_false_iff_ne.2 (by omega)
  have hni : (nx0 : Int) < (es.length : Int) := by omega
  have H0 := hide h0
  have H3 := hide h3
  have ha3 := h3.addr
  clear h0 h3
  go_enter Try.func3, Try.ntmps3
  go_wp2_with (first | (go_at_call 6; refine (bytes_any _ _ _ _ _ _ _ _ _ (by omega) (by omega)).mono ?_; rintro e wx ⟨rfl, rfl⟩) | (go_at_call 7; refine (new_any _ _ _ _ _).mono ?_; rintro e wx ⟨rfl, rfl⟩))
  go_loopw [11] (fun i wr => ∃ (k : Nat) (rs : List Nat) (nx : Nat), k ≤ xs.length ∧ i = .int .i64 k ∧ Inv es.length nx0 es.length (seqN es xs nx0) (es.length + k) rs nx ∧ Hist w.heap.size es.length nx rs w wr) (fun i _ => xs.length - (intOf i).toNat)
  case atStart => exact ⟨0, es, nx0, Nat.zero_le _, rfl, hI.out, hist_start hz1 hown1 hb1⟩
  case round =>
    obtain ⟨k, rs, nx, hk, rfl, hinv, hh⟩ := hrel
    clear hcp hmk hown1 hb1 hz1
    by_cases hlt : k < xs.length
    · obtain rfl := ha3 (by omega)
      have hx := seq_xs H3.out hh.bel (es := es) nx0 (es.length + k) (by omega) (by omega)
      rw [show es.length + k - es.length = k from by omega] at hx
      have IS := hide (inv_step hinv)
      have hll := hinv.len
      have hnl := fun h => hinv.nx_lt h
      have HL := hide (And.intro hll hnl)
      clear hll hnl hinv
      obtain ⟨y, hy⟩ : ∃ y, seqN es xs nx0 (es.length + k) = y := ⟨_, rfl⟩
      rw [hy] at hx IS
      clear hy
      go_wp2_with (go_at_call 8; refine (zzadd_any y hh (by omega) (by have := HL.out.1; omega) HL.out.2).mono ?_; rintro e wx ⟨rfl, hh2⟩)
      go_roundw
      case rel => exact ⟨k + 1, _, _, by omega, by go_num, IS.out, hh2⟩
      case measure => simp [intOf]; omega
    · obtain rfl : k = xs.length := by omega
      clear ha3 hk hlt
      have hlen := hinv.len
      have hpos := hinv.pos (by omega)
      have IV := hide hinv
      clear hinv hI
      have hrl : rs.length = es.length := by omega
      have RL := hide hrl
      have hE : ((nx0 : Int) + (xs.length : Int)) % (es.length : Int) = (nx : Int) := by
        rw [hpos, hrl, show es.length + xs.length - es.length = xs.length from by omega]; simp
      have hnlt : (nx : Int) < (es.length : Int) := by have := IV.out.nx_lt (by omega); omega
      by_cases hgt : 0 < xs.length
      · have BT := hide hgt
        have hgi : (es.length : Int) < (es.length : Int) + (xs.length : Int) := by omega
        clear hpos hlen hgt
        go_wp2_with (go_at_call 9; refine (state_any hh).mono ?_; rintro e wx ⟨rfl, hh2⟩)
        simp only [hE]
        go_loop [19, 20, 21] (fun j _ _ => ∃ jj : Nat, jj ≤ es.length ∧ j = .int .i64 jj) (fun j _ _ => es.length - (intOf j).toNat)
        case atStart => exact ⟨0, Nat.zero_le _, rfl⟩
        case round =>
          obtain ⟨jj, hjj, rfl⟩ := hrel
          by_cases hj : jj < es.length
          · obtain ⟨i, hi⟩ : ∃ i : Nat, es.length + xs.length - es.length + jj = i := ⟨_, rfl⟩
            have hii : (es.length : Int) + (xs.length : Int) - (es.length : Int) + (jj : Int) = (i : Int) := by omega
            have hii2 : (xs.length : Int) + (jj : Int) = (i : Int) := by omega
            obtain ⟨p, hp⟩ : ∃ p : Nat, (nx + jj) % rs.length = p := ⟨_, rfl⟩
            have hpi : ((nx : Int) + (jj : Int)) % (es.length : Int) = (p : Int) := by rw [← hp, RL.out]; simp
            have hpl : (p : Int) < (es.length : Int) := by have := Nat.mod_lt (nx + jj) (y := rs.length) (by rw [RL.out]; omega); rw [hp, RL.out] at this; omega
            have cg := got_at hh2 IV.out jj p i (by rw [RL.out]; exact hj) hp (by rw [RL.out]; exact hi)
            obtain ⟨y, hy⟩ : ∃ y, seqN es xs nx0 i = y := ⟨_, rfl⟩
            rw [hy] at cg
            have HH := hide (And.intro hp hi)
            clear hp hi
            by_cases hie : i < es.length
            · obtain ⟨q, hq⟩ : ∃ q : Nat, (nx0 + i) % es.length = q := ⟨_, rfl⟩
              have hqi : ((nx0 : Int) + (i : Int)) % (es.length : Int) = (q : Int) := by rw [← hq]; simp
              have hql : (q : Int) < (es.length : Int) := by have := Nat.mod_lt (nx0 + i) (y := es.length) (by omega); rw [hq] at this; omega
              have ce := seq_est H0.out hh2.bel (xs := xs) nx0 i q hie hq
              rw [hy] at ce
              have A0 := H0.out.addr (by omega)
              have HQ := hide (And.intro hq hy)
              clear hq hy
              subst A0
              go_wp2_with (go_at_call 10; refine (sameF_any y _).mono ?_; rintro e wx ⟨rfl, rfl⟩)
              go_round
              case rel => exact ⟨jj + 1, by omega, by go_num⟩
              case measure => simp [intOf]; omega
            · have cx := seq_xs H3.out hh2.bel (es := es) nx0 i (by omega) (by have := HH.out; have := BT.out; omega)
              rw [hy] at cx
              have A3 := H3.out.addr (by have := HH.out; have := BT.out; omega)
              have HQ := hide hy
              clear hy
              subst A3
              go_wp2_with (go_at_call 10; refine (sameF_any y _).mono ?_; rintro e wx ⟨rfl, rfl⟩)
              go_round
              case rel => exact ⟨jj + 1, by omega, by go_num⟩
              case measure => simp [intOf]; omega
          · go_wp2
            go_ret
            exact ⟨rfl, hh2.bel⟩
      · obtain rfl : xs = [] := List.eq_nil_of_length_eq_zero (by omega)
        have BT := hide hgt
        simp only [List.length_nil, Int.natCast_zero, Int.add_zero] at hE
        clear hpos hlen hgt
        go_wp2_with (go_at_call 9; refine (state_any hh).mono ?_; rintro e wx ⟨rfl, hh2⟩)
        simp only [hE]
        go_loop [19, 20, 21] (fun j _ _ => ∃ jj : Nat, jj ≤ es.length ∧ j = .int .i64 jj) (fun j _ _ => es.length - (intOf j).toNat)
        case atStart => exact ⟨0, Nat.zero_le _, rfl⟩
        case round =>
          obtain ⟨jj, hjj, rfl⟩ := hrel
          by_cases hj : jj < es.length
          · obtain ⟨i, hi⟩ : ∃ i : Nat, es.length + ([] : List Nat).length - es.length + jj = i := ⟨_, rfl⟩
            have hii : i = jj := by simp at hi; omega
            subst hii
            obtain ⟨p, hp⟩ : ∃ p : Nat, (nx + i) % rs.length = p := ⟨_, rfl⟩
            have hpi : ((nx : Int) + (i : Int)) % (es.length : Int) = (p : Int) := by rw [← hp, RL.out]; simp
            have hpl : (p : Int) < (es.length : Int) := by have := Nat.mod_lt (nx + i) (y := rs.length) (by rw [RL.out]; omega); rw [hp, RL.out] at this; omega
            have cg := got_at hh2 IV.out i p i (by rw [RL.out]; exact hj) hp (by rw [RL.out]; exact hi)
            obtain ⟨y, hy⟩ : ∃ y, seqN es [] nx0 i = y := ⟨_, rfl⟩
            rw [hy] at cg
            have HH := hide (And.intro hp hi)
            clear hp hi
            by_cases hie : i < es.length
            · obtain ⟨q, hq⟩ : ∃ q : Nat, (nx0 + i) % es.length = q := ⟨_, rfl⟩
              have hqi : ((nx0 : Int) + (i : Int)) % (es.length : Int) = (q : Int) := by rw [← hq]; simp
              have hql : (q : Int) < (es.length : Int) := by have := Nat.mod_lt (nx0 + i) (y := es.length) (by omega); rw [hq] at this; omega
              have ce := seq_est H0.out hh2.bel (xs := []) nx0 i q hie hq
              rw [hy] at ce
              have A0 := H0.out.addr (by omega)
              have HQ := hide (And.intro hq hy)
              clear hq hy
              subst A0
              go_wp2_with (go_at_call 10; refine (sameF_any y _).mono ?_; rintro e wx ⟨rfl, rfl⟩)
              go_round
              case rel => exact ⟨i + 1, by omega, by go_num⟩
              case measure => simp [intOf]; omega
            · exact absurd hj hie
          · go_wp2
            go_ret
            exact ⟨rfl, hh2.bel⟩
end Go.Proofs.Qxb6619723a
