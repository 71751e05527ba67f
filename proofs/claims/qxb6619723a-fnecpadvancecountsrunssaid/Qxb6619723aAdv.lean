/- ECP.advance (20), ZZAdvance (13), ZZSetPhaseDetector (12), ZZPhaseDetector (14). -/
import Derived.Test.Qxb6619723aEcp
import Derived.Deep.Cut
namespace Go.Proofs.Qxb6619723a
open Go.ChangeShapes Go.WideShapes Go.ChangeAt Go.RowKit
attribute [local go_sem] run_store_float

section
variable {H nb : Nat} {v : Nat} {id ld u : Int} {det : Bool} {ph met : Int} {k : Nat} {w wr : World}

theorem adv_det {co : Option Nat} (po : Option Addr) (h : St H nb co v id ld u true ph met k w wr) (b : Bool) :
    Calls Try.prog 20 #[.pointer (some ⟨nb, 0, none⟩), .bool b, .pointer po] wr fun e w' => e = .returned (.tuple #[]) ∧ wr = w' := by
  have hc := hide (cyc_det h b)
  clear h
  go_enter Try.func20, Try.ntmps20
  go_wp2_with (go_at_call 22; refine hc.out.mono ?_; rintro e wx ⟨rfl, rfl⟩)
  refine bodyPost_ret (results_none rfl _ _ _) rfl ?_
  exact ⟨rfl, rfl⟩
theorem adv_no {co : Option Nat} (po : Option Addr) (h : St H nb co v id ld u false ph met k w wr) :
    Calls Try.prog 20 #[.pointer (some ⟨nb, 0, none⟩), .bool false, .pointer po] wr fun e w' => e = .returned (.tuple #[]) ∧ St H nb co v id ld u false ph 0 k w w' := by
  have hc := hide (cyc_no h)
  clear h
  go_enter Try.func20, Try.ntmps20
  go_wp2_with (go_at_call 22; refine hc.out.mono ?_; rintro e wx ⟨rfl, h2⟩)
  refine bodyPost_ret (results_none rfl _ _ _) rfl ?_
  exact ⟨rfl, h2⟩
theorem adv_inc {co : Option Nat} (po : Option Addr) (h : St H nb co v id ld u false ph met k w wr) (h0 : 0 ≤ met) (h1 : met < 9223372036854775807) (hu : ¬ u ≤ met + 1) :
    Calls Try.prog 20 #[.pointer (some ⟨nb, 0, none⟩), .bool true, .pointer po] wr fun e w' => e = .returned (.tuple #[]) ∧ St H nb co v id ld u false ph (met + 1) k w w' := by
  have hc := hide (cyc_yes h h0 h1)
  rw [decide_eq_false hu] at hc
  clear h hu
  go_enter Try.func20, Try.ntmps20
  go_wp2_with (go_at_call 22; refine hc.out.mono ?_; rintro e wx ⟨rfl, h2⟩)
  refine bodyPost_ret (results_none rfl _ _ _) rfl ?_
  exact ⟨rfl, h2⟩
/-- the phase moved on, the detector laid anew -/
theorem moved {co : Option Nat} {met' : Int} {det' : Bool} (h : St H nb co v id ld u det' ph met' k w wr) (x : Int) :
    St H nb co v id ld u false x 0 k w ((((wr.setCell ⟨nb, 6, none⟩ (.int .i64 x)).setCell ⟨nb, 12, none⟩ (.int .i64 u)).setCell ⟨nb, 13, none⟩ (.int .i64 0)).setCell ⟨nb, 14, none⟩ (.bool false)) :=
  (((h.set6 x).set12 u).set13 0).set14 false
set_option maxHeartbeats 800000 in
theorem adv_hit0 (h : St H nb none v id ld u false ph met k w wr) (h0 : 0 ≤ met) (h1 : met < 9223372036854775807) (hu : u ≤ met + 1) :
    Calls Try.prog 20 #[.pointer (some ⟨nb, 0, none⟩), .bool true, .pointer none] wr fun e w' => e = .returned (.tuple #[]) ∧ St H nb none v id ld u false (wrap64 (ph + 1)) 0 (k + 1) w w' := by
  have hc := hide (cyc_yes h h0 h1)
  rw [decide_eq_true hu] at hc
  clear h hu
  go_enter Try.func20, Try.ntmps20
  go_wp2_with (go_at_call 22; refine hc.out.mono ?_; rintro e wx ⟨rfl, h2⟩; have c6 := h2.c6; have c12 := h2.c12; have c13 := h2.c13; have c14 := h2.c14; have f6 := h2.fr 6; have f12 := h2.fr 12; have f13 := h2.fr 13; have f14 := h2.fr 14)
  go_end0
  exact ⟨rfl, (moved h2 _).tick0⟩
set_option maxHeartbeats 1600000 in
theorem adv_hit1 {cb : Nat} (h : St H nb (some cb) v id ld u false ph met k w wr) (h0 : 0 ≤ met) (h1 : met < 9223372036854775807) (hu : u ≤ met + 1) :
    Calls Try.prog 20 #[.pointer (some ⟨nb, 0, none⟩), .bool true, .pointer (some ⟨cb, 0, none⟩)] wr fun e w' => e = .returned (.tuple #[]) ∧ St H nb (some cb) v id ld u false (wrap64 (ph + 1)) 0 (k + 1) w w' := by
  have hc := hide (cyc_yes h h0 h1)
  rw [decide_eq_true hu] at hc
  clear h hu
  go_enter Try.func20, Try.ntmps20
  go_upto_region 4 with (go_at_call 22; refine hc.out.mono ?_; rintro e wx ⟨rfl, h2⟩; have c6 := h2.c6; have c12 := h2.c12; have c13 := h2.c13; have c14 := h2.c14; have f6 := h2.fr 6; have f12 := h2.fr 12; have f13 := h2.fr 13; have f14 := h2.fr 14; obtain ⟨cn, _, _, ⟨x, cx, hx⟩, cf⟩ := h2.cnt cb rfl)
  cases ha : FloatKind.f64.format.add x 4607182418800017408 with
  | some r =>
    have hr := run_add_some x _ r ha
    have HX := hide (cl_some hx ha)
    clear ha
    go_wp2
    go_end0
    exact ⟨rfl, (moved h2 _).tick r HX.out⟩
  | none =>
    have hr := run_add_none x _ ha
    have HX := hide (fun w => cl_none hx ha (nanAt_isN w x 4607182418800017408))
    clear ha
    go_wp2
    go_end0
    exact ⟨rfl, ((moved h2 _).tick _ (HX.out _)).drewN 1⟩

/-- the count's pointer -/
def cptr : Option Nat → Option Addr
  | none => none
  | some cb => some ⟨cb, 0, none⟩
/-- one cycle: (consecutive met cycles, detections) -/
def stp (u : Int) (s : Int × Nat) (b : Bool) : Int × Nat := if b = true then (if u ≤ s.1 + 1 then (0, s.2 + 1) else (s.1 + 1, s.2)) else (0, s.2)
/-- the count of consecutive cycles is one that the detector can hold -/
def okM (u m : Int) : Prop := 0 ≤ m ∧ (m = 0 ∨ m < u)
theorem stp_ok {u : Int} {s : Int × Nat} (h : okM u s.1) (b : Bool) : okM u (stp u s b).1 := by
  unfold stp okM at *
  by_cases hb : b = true
  · rw [if_pos hb]
    by_cases hu : u ≤ s.1 + 1
    · rw [if_pos hu]; exact ⟨by omega, .inl rfl⟩
    · rw [if_neg hu]; exact ⟨by simp only; omega, .inr (by simp only; omega)⟩
  · rw [if_neg hb]; exact ⟨by omega, .inl rfl⟩

theorem wrap_next (p : Int) (k : Nat) : wrap64 (wrap64 (p + (k : Int)) + 1) = wrap64 (p + ((k + 1 : Nat) : Int)) := by
  unfold wrap64; omega

theorem adv_any {co : Option Nat} {p : Int} (h : St H nb co v id ld u false (wrap64 (p + (k : Int))) met k w wr) (hm : okM u met) (hu : u ≤ 9223372036854775807) (b : Bool) :
    Calls Try.prog 20 #[.pointer (some ⟨nb, 0, none⟩), .bool b, .pointer (cptr co)] wr fun e w' => e = .returned (.tuple #[]) ∧ St H nb co v id ld u false (wrap64 (p + ((stp u (met, k) b).2 : Int))) (stp u (met, k) b).1 (stp u (met, k) b).2 w w' := by
  obtain ⟨m0, m1⟩ := hm
  cases b with
  | false => exact adv_no _ h
  | true =>
    by_cases hh : u ≤ met + 1
    · have e : stp u (met, k) true = (0, k + 1) := by simp [stp, hh]
      rw [e]
      simp only
      rw [← wrap_next]
      cases co with
      | none => exact adv_hit0 h m0 (by omega) hh
      | some cb => exact adv_hit1 h m0 (by omega) hh
    · have e : stp u (met, k) true = (met + 1, k) := by simp [stp, hh]
      rw [e]
      exact adv_inc _ h m0 (by omega) hh

theorem zzadv_any {co : Option Nat} {p : Int} (h : St H nb co v id ld u false (wrap64 (p + (k : Int))) met k w wr) (hm : okM u met) (hu : u ≤ 9223372036854775807) (b : Bool) (po : Option Addr) (hpo : po = cptr co) :
    Calls Try.prog 13 #[.pointer (some ⟨nb, 0, none⟩), .bool b, .pointer po] wr fun e w' => e = .returned (.tuple #[]) ∧ St H nb co v id ld u false (wrap64 (p + ((stp u (met, k) b).2 : Int))) (stp u (met, k) b).1 (stp u (met, k) b).2 w w' := by
  subst hpo
  have ha := hide (adv_any h hm hu b)
  clear h hm hu
  go_enter Try.func13, Try.ntmps13
  go_wp2_with (go_at_call 20; refine ha.out.mono ?_; rintro e wx ⟨rfl, h2⟩)
  go_end0
  exact ⟨rfl, h2⟩
theorem zzadv_det {co : Option Nat} (po : Option Addr) (h : St H nb co v id ld u true ph met k w wr) (b : Bool) :
    Calls Try.prog 13 #[.pointer (some ⟨nb, 0, none⟩), .bool b, .pointer po] wr fun e w' => e = .returned (.tuple #[]) ∧ wr = w' := by
  have ha := hide (adv_det po h b)
  clear h
  go_enter Try.func13, Try.ntmps13
  go_wp2_with (go_at_call 20; refine ha.out.mono ?_; rintro e wx ⟨rfl, rfl⟩)
  go_end0
  exact ⟨rfl, rfl⟩

set_option maxHeartbeats 800000 in
theorem set_any {co : Option Nat} (h : St H nb co v id ld 0 false ph 0 k w wr) (u met : Int) (det : Bool) :
    Calls Try.prog 12 #[.pointer (some ⟨nb, 0, none⟩), .int .i64 u, .int .i64 met, .bool det] wr fun e w' => e = .returned (.tuple #[]) ∧ St H nb co v id ld u det ph met k w w' := by
  have c12 := h.c12
  have c13 := h.c13
  have c14 := h.c14
  have f12 := h.fr 12
  have f13 := h.fr 13
  have f14 := h.fr 14
  go_enter Try.func12, Try.ntmps12
  go_wp2
  go_end0
  exact ⟨rfl, ((h.set12 u).set13 met).set14 det⟩

set_option maxHeartbeats 800000 in
theorem get_any {co : Option Nat} (h : St H nb co v id ld u det ph met k w wr) :
    Calls Try.prog 14 #[.pointer (some ⟨nb, 0, none⟩)] wr fun e w' => e = .returned (.tuple #[.int .i64 u, .int .i64 met, .bool det]) ∧ St H nb co v id ld u det ph met k w w' := by
  have c12 := h.c12
  have c13 := h.c13
  have c14 := h.c14
  go_enter Try.func14, Try.ntmps14
  go_wp2
  go_quiet (fail)
  go_wp2
  go_ret3
  exact ⟨rfl, h.drewN nq⟩
end
end Go.Proofs.Qxb6619723a
