/- History.add (19), ZZHistoryAdd (8), ZZHistoryState (9). -/
import Derived.Test.Qxb6619723aSmall
namespace Go.Proofs.Qxb6619723a
open Go.ChangeShapes Go.WideShapes Go.ChangeAt Go.RowKit
attribute [local go_sem] run_store_float

theorem info27 : (Try.prog.info? 27).map (fun i => (i.zero, i.size, i.bytes)) = some (some (.float .f64 0), 1, 8) := by kernel_rfl
def fv (x : Nat) : Value := .float .f64 x

theorem own_block {w w' : World} {base g cap n : Nat} {e : TypeId} {size : Nat} {xs : List Value} (h : w.ownsRow base e size (.slice (some ⟨g, 0, none⟩) n cap) n xs) (he : w'.heap[g]? = w.heap[g]?) : w'.ownsRow base e size (.slice (some ⟨g, 0, none⟩) n cap) n xs := by
  refine ⟨h.1, ?_⟩
  rcases h.2 with ⟨h', _⟩ | ⟨g', cap', cur, h', hb, hg, r⟩
  · cases h'
  · right
    simp only [Value.slice.injEq, Option.some.injEq, Addr.mk.injEq, and_true, true_and] at h'
    obtain ⟨rfl, rfl⟩ := h'
    exact ⟨g, cap, cur, rfl, hb, by rw [he]; exact hg, r⟩

/-- the history: its ring in block H (room c, the values rs), its struct in block H + 1 -/
structure Hist (H c nx : Nat) (rs : List Nat) (w wr : World) : Prop where
  own : wr.ownsRow H 27 1 (.slice (some ⟨H, 0, none⟩) rs.length c) rs.length (rs.map fv)
  f0 : wr.cell? ⟨H + 1, 0, none⟩ = some (.slice (some ⟨H, 0, none⟩) rs.length c)
  f1 : wr.cell? ⟨H + 1, 1, none⟩ = some (.int .i64 (nx : Int))
  fr : ∀ j, wr.frozen? ⟨H + 1, j, none⟩ = false
  size : H + 2 ≤ wr.heap.size
  bel : Below H w wr

theorem addr_ne {a b c d : Nat} (h : ¬ (a = b ∧ c = d)) : (⟨a, c, none⟩ : Addr) ≠ ⟨b, d, none⟩ := fun e => by injection e with e1 e2; exact h ⟨e1, e2⟩

theorem Hist.drewN {H c nx : Nat} {rs : List Nat} {w wr : World} (h : Hist H c nx rs w wr) (n : Nat) : Hist H c nx rs w (wr.drewN n) :=
  ⟨own_block h.own rfl, h.f0, h.f1, h.fr, h.size, below_drewN h.bel n⟩
theorem Hist.alloc {H c nx : Nat} {rs : List Nat} {w wr : World} (h : Hist H c nx rs w wr) (o : Obj) : Hist H c nx rs w (wr.alloc o) := by
  have := h.size
  exact ⟨h.own.alloc _, by rw [World.cell?_alloc_past _ _ _ (by omega)]; exact h.f0, by rw [World.cell?_alloc_past _ _ _ (by omega)]; exact h.f1, fun j => by rw [World.frozen?_alloc_past _ _ _ (by omega)]; exact h.fr j, by simp; omega, h.bel.alloc (by omega) _⟩

/-- behind an append with room, and the store of the longer slice -/
theorem Hist.push {H c nx : Nat} {rs : List Nat} {w wr w1 : World} {o : Obj} (h : Hist H c nx rs w wr) (x : Nat) (hown : w1.ownsRow H 27 1 (.slice (some ⟨H, 0, none⟩) (rs.length + 1) c) (rs.length + 1) (rs.map fv ++ [fv x])) (hg : (wr.alloc o).grownBy w1 (some H)) :
    Hist H c nx (rs ++ [x]) w (w1.setCell ⟨H + 1, 0, none⟩ (.slice (some ⟨H, 0, none⟩) (rs.length + 1) c)) := by
  have ha := h.alloc o
  have hz := ha.size
  have hz1 := hg.size
  have far : ∀ j, w1.cell? ⟨H + 1, j, none⟩ = (wr.alloc o).cell? ⟨H + 1, j, none⟩ := fun j => World.cell?_of_block (hg.block (H + 1) (by omega) (by simp))
  have farf : ∀ j, w1.frozen? ⟨H + 1, j, none⟩ = (wr.alloc o).frozen? ⟨H + 1, j, none⟩ := fun j => World.frozen?_of_block (hg.block (H + 1) (by omega) (by simp))
  have hl : (rs ++ [x]).length = rs.length + 1 := by simp
  refine ⟨?_, ?_, ?_, fun j => ?_, ?_, ?_⟩
  · rw [hl]
    refine own_block (by simpa using hown) ?_
    exact Below.heap_setCell _ _ _ _ (by show H ≠ H + 1; omega)
  · rw [hl]; exact World.cell?_setCell_same _ _ _ ((far 0).trans ha.f0)
  · rw [World.cell?_setCell_other _ _ _ _ (addr_ne (by omega)), far 1]; exact ha.f1
  · rw [World.frozen?_setCell, farf j]; exact ha.fr j
  · simp only [World.size_setCell]; omega
  · exact (ha.bel.grown hg (by omega) (fun k hk => by cases hk; omega)).setCell (by show H ≤ H + 1; omega) _

theorem far0 {H c nx : Nat} {rs : List Nat} {w wr w1 : World} {o : Obj} (h : Hist H c nx rs w wr) (hg : (wr.alloc o).grownBy w1 (some H)) : w1.cell? ⟨H + 1, 0, none⟩ = some (.slice (some ⟨H, 0, none⟩) rs.length c) := by
  have hz := (h.alloc o).size
  exact (World.cell?_of_block (hg.block (H + 1) (by omega) (by simp))).trans (h.alloc o).f0
theorem far1 {H c nx : Nat} {rs : List Nat} {w wr w1 : World} {o : Obj} (h : Hist H c nx rs w wr) (hg : (wr.alloc o).grownBy w1 (some H)) : w1.frozen? ⟨H + 1, 0, none⟩ = false := by
  have hz := (h.alloc o).size
  exact (World.frozen?_of_block (hg.block (H + 1) (by omega) (by simp))).trans ((h.alloc o).fr 0)
/-- behind a store into the full ring, and the step of 'next' -/
theorem Hist.put {H c nx : Nat} {rs : List Nat} {w wr : World} (h : Hist H c nx rs w wr) (x ny : Nat) : Hist H c ny (rs.set nx x) w ((wr.setCell ⟨H, nx, none⟩ (fv x)).setCell ⟨H + 1, 1, none⟩ (.int .i64 (ny : Int))) := by
  obtain ⟨s1, s2⟩ := h.own.stored nx (fv x)
  have hz := h.size
  refine ⟨?_, ?_, ?_, fun j => ?_, ?_, ?_⟩
  · rw [List.length_set]
    refine own_block (by rw [List.map_set]; exact s1) ?_
    exact Below.heap_setCell _ _ _ _ (by show H ≠ H + 1; omega)
  · rw [List.length_set, World.cell?_setCell_other _ _ _ _ (addr_ne (by omega)), World.cell?_setCell_other _ _ _ _ (addr_ne (by omega))]; exact h.f0
  · exact World.cell?_setCell_same _ _ _ (by rw [World.cell?_setCell_other _ _ _ _ (addr_ne (by omega))]; exact h.f1)
  · rw [World.frozen?_setCell, World.frozen?_setCell]; exact h.fr j
  · simp only [World.size_setCell]; omega
  · exact (h.bel.setCell (Nat.le_refl _) _).setCell (by show H ≤ H + 1; omega) _

set_option maxHeartbeats 800000 in
theorem add_room {H c nx : Nat} {rs : List Nat} {w wr : World} (x : Nat) (h : Hist H c nx rs w wr) (hl : rs.length < c) :
    Calls Try.prog 19 #[.pointer (some ⟨H + 1, 0, none⟩), .float .f64 x] wr fun e w' => e = .returned (.tuple #[]) ∧ Hist H c nx (rs ++ [x]) w w' := by
  obtain ⟨i0, hi0, hz0, hz1, hz2⟩ := info_parts info27
  have f0 := h.f0
  have hsz := h.size
  go_enter Try.func19, Try.ntmps19
  go_wp2
  go_quiet (fail)
  have hq := h.drewN nq
  generalize wr.drewN nq = wq at hq ⊢
  clear f0 hsz h
  have f0 := hq.f0
  have hsz := hq.size
  have fa : ∀ o, (wq.alloc o).cell? ⟨H + 1, 0, none⟩ = some (.slice (some ⟨H, 0, none⟩) rs.length c) := fun o => (hq.alloc o).f0
  go_wp2_with (at_builtin; (refine wpList_append_fits _ rfl _ _ 22 rfl H 27 i0 1 Try.underlying22 hi0 hz1 H rs.length c (rs.map fv) rfl (hq.alloc _).own ⟨wq.heap.size, 0, none⟩ 1 1 [fv x] rfl rfl (cell_one_new _ _ _) (by simp [fv, Value.oneCell']) (by omega) ?_; intro w1 hown1 hgrow; have k1 : w1.cell? ⟨H + 1, 0, none⟩ = some (.slice (some ⟨H, 0, none⟩) rs.length c) := far0 hq hgrow; have k2 : w1.frozen? ⟨H + 1, 0, none⟩ = false := far1 hq hgrow))
  go_end0
  exact ⟨rfl, hq.push x hown1 hgrow⟩

set_option maxHeartbeats 800000 in
theorem add_full {H c nx : Nat} {rs : List Nat} {w wr : World} (x : Nat) (h : Hist H c nx rs w wr) (hc : c ≤ 65536) (hl : rs.length = c) (h0 : 0 < c) (hn : nx < c) :
    Calls Try.prog 19 #[.pointer (some ⟨H + 1, 0, none⟩), .float .f64 x] wr fun e w' => e = .returned (.tuple #[]) ∧ Hist H c ((nx + 1) % c) (rs.set nx x) w w' := by
  have f0 := h.f0
  rw [hl] at f0
  have hsz := h.size
  go_enter Try.func19, Try.ntmps19
  go_wp2
  go_quiet (fail)
  have hq := h.drewN nq
  generalize wr.drewN nq = wq at hq ⊢
  clear f0 hsz h
  have f0 := hq.f0
  have f1 := hq.f1
  rw [hl] at f0
  have hsz := hq.size
  have fr := hq.fr 1
  have hcell := hq.own.cellAt nx (by omega)
  have hfz := hq.own.frozenAt nx
  obtain ⟨u, hu⟩ : ∃ u, (rs.map fv)[nx]? = some u := by
    have : nx < (rs.map fv).length := by simp; omega
    exact ⟨_, List.getElem?_eq_getElem this⟩
  rw [hu] at hcell
  clear hu
  have hnx : (0 : Int) ≤ (nx : Int) := by omega
  have hnx1 : (nx : Int) < (c : Int) := by omega
  go_wp2
  go_region
  all_goals go_wp2
  all_goals go_region
  all_goals go_wp2
  all_goals go_end0
  all_goals
    refine ⟨rfl, ?_⟩
    rw [show ((nx : Int) + 1) % (c : Int) = (((nx + 1) % c : Nat) : Int) from by simp]
    exact (hq.put x ((nx + 1) % c)).drewN 2

set_option maxHeartbeats 400000 in
theorem add_none {H nx : Nat} {w wr : World} (x : Nat) (h : Hist H 0 nx [] w wr) :
    Calls Try.prog 19 #[.pointer (some ⟨H + 1, 0, none⟩), .float .f64 x] wr fun e w' => e = .returned (.tuple #[]) ∧ Hist H 0 nx [] w w' := by
  have f0 := h.f0
  have hsz := h.size
  simp only [List.length_nil] at f0
  go_enter Try.func19, Try.ntmps19
  go_wp2
  go_quiet (fail)
  go_wp2
  go_end0
  exact ⟨rfl, h.drewN nq⟩

/-- one add, whatever the state: the ring behind it -/
def addR (c nx : Nat) (rs : List Nat) (x : Nat) : List Nat := if rs.length < c then rs ++ [x] else if 0 < c then rs.set nx x else rs
def addN (c nx : Nat) (rs : List Nat) : Nat := if rs.length < c then nx else if 0 < c then (nx + 1) % c else nx

theorem add_any {H c nx : Nat} {rs : List Nat} {w wr : World} (x : Nat) (h : Hist H c nx rs w wr) (hc : c ≤ 65536) (hl : rs.length ≤ c) (hn : 0 < c → nx < c) :
    Calls Try.prog 19 #[.pointer (some ⟨H + 1, 0, none⟩), .float .f64 x] wr fun e w' => e = .returned (.tuple #[]) ∧ Hist H c (addN c nx rs) (addR c nx rs x) w w' := by
  unfold addN addR
  by_cases h1 : rs.length < c
  · rw [if_pos h1, if_pos h1]; exact add_room x h h1
  · rw [if_neg h1, if_neg h1]
    by_cases h2 : 0 < c
    · rw [if_pos h2, if_pos h2]; exact add_full x h hc (by omega) h2 (hn h2)
    · rw [if_neg h2, if_neg h2]
      obtain rfl : c = 0 := by omega
      obtain rfl : rs = [] := List.eq_nil_of_length_eq_zero (by omega)
      exact add_none x h

theorem zzadd_any {H c nx : Nat} {rs : List Nat} {w wr : World} (x : Nat) (h : Hist H c nx rs w wr) (hc : c ≤ 65536) (hl : rs.length ≤ c) (hn : 0 < c → nx < c) :
    Calls Try.prog 8 #[.pointer (some ⟨H + 1, 0, none⟩), .float .f64 x] wr fun e w' => e = .returned (.tuple #[]) ∧ Hist H c (addN c nx rs) (addR c nx rs x) w w' := by
  have ha := hide (add_any x h hc hl hn)
  clear h
  go_enter Try.func8, Try.ntmps8
  go_wp2_with (go_at_call 19; refine ha.out.mono ?_; rintro e wx ⟨rfl, hx⟩)
  go_end0
  exact ⟨rfl, hx⟩

set_option maxHeartbeats 400000 in
theorem state_any {H c nx : Nat} {rs : List Nat} {w wr : World} (h : Hist H c nx rs w wr) :
    Calls Try.prog 9 #[.pointer (some ⟨H + 1, 0, none⟩)] wr fun e w' => e = .returned (.tuple #[.slice (some ⟨H, 0, none⟩) rs.length c, .int .i64 (nx : Int)]) ∧ Hist H c nx rs w w' := by
  have f0 := h.f0
  have f1 := h.f1
  have hsz := h.size
  go_enter Try.func9, Try.ntmps9
  go_wp2
  go_quiet (fail)
  go_wp2
  go_ret2
  exact ⟨rfl, h.drewN nq⟩
end Go.Proofs.Qxb6619723a
