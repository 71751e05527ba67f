/- Detector.Cycle (22), ECP.advance (20), ZZAdvance (13), ZZSetPhaseDetector (12), ZZPhaseDetector (14). -/
import Derived.Test.Qxb6619723aNan
namespace Go.Proofs.Qxb6619723a
open Go.ChangeShapes Go.WideShapes Go.ChangeAt Go.RowKit
attribute [local go_sem] run_store_float

/-- the node in block nb; the count (if there is one) in block co, v and k times 1 -/
structure St (H nb : Nat) (co : Option Nat) (v : Nat) (id ld u : Int) (det : Bool) (ph met : Int) (k : Nat) (w wr : World) : Prop where
  c0 : wr.cell? ⟨nb, 0, none⟩ = some (.int .i64 id)
  c6 : wr.cell? ⟨nb, 6, none⟩ = some (.int .i64 ph)
  c7 : wr.cell? ⟨nb, 7, none⟩ = some (.int .i64 ld)
  c12 : wr.cell? ⟨nb, 12, none⟩ = some (.int .i64 u)
  c13 : wr.cell? ⟨nb, 13, none⟩ = some (.int .i64 met)
  c14 : wr.cell? ⟨nb, 14, none⟩ = some (.bool det)
  fr : ∀ j, wr.frozen? ⟨nb, j, none⟩ = false
  ge : H ≤ nb
  lt : nb < wr.heap.size
  bel : Below H w wr
  cnt : ∀ cb, co = some cb → cb ≠ nb ∧ H ≤ cb ∧ cb < wr.heap.size ∧ (∃ x, wr.cell? ⟨cb, 0, none⟩ = some (.float .f64 x) ∧ Cl v k x) ∧ wr.frozen? ⟨cb, 0, none⟩ = false

theorem ecp_ne {a b c d : Nat} (h : ¬ (a = b ∧ c = d)) : (⟨a, c, none⟩ : Addr) ≠ ⟨b, d, none⟩ := fun e => by injection e with e1 e2; exact h ⟨e1, e2⟩

section
variable {H nb : Nat} {co : Option Nat} {v : Nat} {id ld u : Int} {det : Bool} {ph met : Int} {k : Nat} {w wr : World}

theorem St.drewN (h : St H nb co v id ld u det ph met k w wr) (n : Nat) : St H nb co v id ld u det ph met k w (wr.drewN n) :=
  ⟨h.c0, h.c6, h.c7, h.c12, h.c13, h.c14, h.fr, h.ge, h.lt, below_drewN h.bel n, h.cnt⟩
theorem St.cnt_set (h : St H nb co v id ld u det ph met k w wr) (j : Nat) (x : Value) : ∀ cb, co = some cb → cb ≠ nb ∧ H ≤ cb ∧ cb < (wr.setCell ⟨nb, j, none⟩ x).heap.size ∧ (∃ y, (wr.setCell ⟨nb, j, none⟩ x).cell? ⟨cb, 0, none⟩ = some (.float .f64 y) ∧ Cl v k y) ∧ (wr.setCell ⟨nb, j, none⟩ x).frozen? ⟨cb, 0, none⟩ = false := by
  intro cb hcb
  obtain ⟨h1, h2, h3, ⟨y, h4, h5⟩, h6⟩ := h.cnt cb hcb
  refine ⟨h1, h2, by simpa using h3, ⟨y, ?_, h5⟩, by rw [World.frozen?_setCell]; exact h6⟩
  rw [World.cell?_setCell_other _ _ _ _ (ecp_ne (by omega)), h4]
theorem St.set6 (h : St H nb co v id ld u det ph met k w wr) (x : Int) : St H nb co v id ld u det x met k w (wr.setCell ⟨nb, 6, none⟩ (.int .i64 x)) := by
  refine ⟨?_, World.cell?_setCell_same _ _ _ h.c6, ?_, ?_, ?_, ?_, fun j => ?_, h.ge, by simpa using h.lt, h.bel.setCell h.ge _, h.cnt_set _ _⟩
  · rw [World.cell?_setCell_other _ _ _ _ (ecp_ne (by omega)), h.c0]
  · rw [World.cell?_setCell_other _ _ _ _ (ecp_ne (by omega)), h.c7]
  · rw [World.cell?_setCell_other _ _ _ _ (ecp_ne (by omega)), h.c12]
  · rw [World.cell?_setCell_other _ _ _ _ (ecp_ne (by omega)), h.c13]
  · rw [World.cell?_setCell_other _ _ _ _ (ecp_ne (by omega)), h.c14]
  · rw [World.frozen?_setCell]; exact h.fr j
theorem St.set12 (h : St H nb co v id ld u det ph met k w wr) (x : Int) : St H nb co v id ld x det ph met k w (wr.setCell ⟨nb, 12, none⟩ (.int .i64 x)) := by
  refine ⟨?_, ?_, ?_, World.cell?_setCell_same _ _ _ h.c12, ?_, ?_, fun j => ?_, h.ge, by simpa using h.lt, h.bel.setCell h.ge _, h.cnt_set _ _⟩
  · rw [World.cell?_setCell_other _ _ _ _ (ecp_ne (by omega)), h.c0]
  · rw [World.cell?_setCell_other _ _ _ _ (ecp_ne (by omega)), h.c6]
  · rw [World.cell?_setCell_other _ _ _ _ (ecp_ne (by omega)), h.c7]
  · rw [World.cell?_setCell_other _ _ _ _ (ecp_ne (by omega)), h.c13]
  · rw [World.cell?_setCell_other _ _ _ _ (ecp_ne (by omega)), h.c14]
  · rw [World.frozen?_setCell]; exact h.fr j
theorem St.set13 (h : St H nb co v id ld u det ph met k w wr) (x : Int) : St H nb co v id ld u det ph x k w (wr.setCell ⟨nb, 13, none⟩ (.int .i64 x)) := by
  refine ⟨?_, ?_, ?_, ?_, World.cell?_setCell_same _ _ _ h.c13, ?_, fun j => ?_, h.ge, by simpa using h.lt, h.bel.setCell h.ge _, h.cnt_set _ _⟩
  · rw [World.cell?_setCell_other _ _ _ _ (ecp_ne (by omega)), h.c0]
  · rw [World.cell?_setCell_other _ _ _ _ (ecp_ne (by omega)), h.c6]
  · rw [World.cell?_setCell_other _ _ _ _ (ecp_ne (by omega)), h.c7]
  · rw [World.cell?_setCell_other _ _ _ _ (ecp_ne (by omega)), h.c12]
  · rw [World.cell?_setCell_other _ _ _ _ (ecp_ne (by omega)), h.c14]
  · rw [World.frozen?_setCell]; exact h.fr j
theorem St.set14 (h : St H nb co v id ld u det ph met k w wr) (x : Bool) : St H nb co v id ld u x ph met k w (wr.setCell ⟨nb, 14, none⟩ (.bool x)) := by
  refine ⟨?_, ?_, ?_, ?_, ?_, World.cell?_setCell_same _ _ _ h.c14, fun j => ?_, h.ge, by simpa using h.lt, h.bel.setCell h.ge _, h.cnt_set _ _⟩
  · rw [World.cell?_setCell_other _ _ _ _ (ecp_ne (by omega)), h.c0]
  · rw [World.cell?_setCell_other _ _ _ _ (ecp_ne (by omega)), h.c6]
  · rw [World.cell?_setCell_other _ _ _ _ (ecp_ne (by omega)), h.c7]
  · rw [World.cell?_setCell_other _ _ _ _ (ecp_ne (by omega)), h.c12]
  · rw [World.cell?_setCell_other _ _ _ _ (ecp_ne (by omega)), h.c13]
  · rw [World.frozen?_setCell]; exact h.fr j
theorem St.tick {cb : Nat} (h : St H nb (some cb) v id ld u det ph met k w wr) (x : Nat) (hx : Cl v (k + 1) x) : St H nb (some cb) v id ld u det ph met (k + 1) w (wr.setCell ⟨cb, 0, none⟩ (.float .f64 x)) := by
  obtain ⟨h1, h2, h3, ⟨y, h4, h5⟩, h6⟩ := h.cnt cb rfl
  refine ⟨?_, ?_, ?_, ?_, ?_, ?_, fun j => ?_, h.ge, by simpa using h.lt, h.bel.setCell h2 _, ?_⟩
  · rw [World.cell?_setCell_other _ _ _ _ (ecp_ne (by omega)), h.c0]
  · rw [World.cell?_setCell_other _ _ _ _ (ecp_ne (by omega)), h.c6]
  · rw [World.cell?_setCell_other _ _ _ _ (ecp_ne (by omega)), h.c7]
  · rw [World.cell?_setCell_other _ _ _ _ (ecp_ne (by omega)), h.c12]
  · rw [World.cell?_setCell_other _ _ _ _ (ecp_ne (by omega)), h.c13]
  · rw [World.cell?_setCell_other _ _ _ _ (ecp_ne (by omega)), h.c14]
  · rw [World.frozen?_setCell]; exact h.fr j
  · intro cb' e
    cases e
    exact ⟨h1, h2, by simpa using h3, ⟨x, World.cell?_setCell_same _ _ _ h4, hx⟩, by rw [World.frozen?_setCell]; exact h6⟩
theorem St.tick0 (h : St H nb none v id ld u det ph met k w wr) : St H nb none v id ld u det ph met (k + 1) w wr :=
  ⟨h.c0, h.c6, h.c7, h.c12, h.c13, h.c14, h.fr, h.ge, h.lt, h.bel, fun cb e => by cases e⟩

theorem cyc_det (h : St H nb co v id ld u true ph met k w wr) (b : Bool) :
    Calls Try.prog 22 #[.pointer (some ⟨nb, 12, none⟩), .bool b] wr fun e w' => e = .returned (.bool false) ∧ wr = w' := by
  have c14 := h.c14
  go_enter Try.func22, Try.ntmps22
  go_wp2
  go_ret
  exact ⟨rfl, rfl⟩
theorem cyc_no (h : St H nb co v id ld u false ph met k w wr) :
    Calls Try.prog 22 #[.pointer (some ⟨nb, 12, none⟩), .bool false] wr fun e w' => e = .returned (.bool false) ∧ St H nb co v id ld u false ph 0 k w w' := by
  have c14 := h.c14
  have c13 := h.c13
  have f13 := h.fr 13
  go_enter Try.func22, Try.ntmps22
  go_wp2
  go_ret
  exact ⟨rfl, h.set13 0⟩
set_option maxHeartbeats 800000 in
theorem cyc_yes (h : St H nb co v id ld u false ph met k w wr) (h0 : 0 ≤ met) (h1 : met < 9223372036854775807) :
    Calls Try.prog 22 #[.pointer (some ⟨nb, 12, none⟩), .bool true] wr fun e w' => e = .returned (.bool (decide (u ≤ met + 1))) ∧ St H nb co v id ld u (decide (u ≤ met + 1)) ph (met + 1) k w w' := by
  have c14 := h.c14
  have c13 := h.c13
  have c12 := h.c12
  have f13 := h.fr 13
  have f14 := h.fr 14
  go_enter Try.func22, Try.ntmps22
  go_wp2
  go_region
  all_goals go_wp2
  all_goals go_ret
  all_goals exact ⟨rfl, ((h.set13 (met + 1)).set14 (decide (u ≤ met + 1))).drewN 1⟩
end
end Go.Proofs.Qxb6619723a
