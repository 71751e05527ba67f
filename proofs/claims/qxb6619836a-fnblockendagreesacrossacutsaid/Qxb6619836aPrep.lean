/- The lists one block longer: made, copied, stored. -/
import Derived.Test.Qxb6619836aBig
namespace Go.Proofs.Qxb6619836a
open Go.ChangeShapes Go.WideShapes Go.ChangeAt Go.RowKit

theorem end_of_last (l e t : Int) (zs ys ts : List Int) (h : 0 < zs.length) : endAt l e t zs ys ts (zs.length - 1) = (IntKind.u64.wrap (l + 1), e, t) := by
  unfold endAt; rw [if_neg (by omega)]
theorem end_of_new (l e t : Int) (zs ys ts : List Int) (x y z : Int) : endAt l e t (zs ++ [x]) (ys ++ [y]) (ts ++ [z]) zs.length = (IntKind.u64.wrap (l + 1), e, t) := by
  unfold endAt; rw [if_neg (by simp)]
theorem getD_app (zs : List Int) (x : Int) (i : Nat) : (zs ++ [x]).getD i 0 = if i < zs.length then zs.getD i 0 else if i = zs.length then x else 0 := by
  by_cases h : i < zs.length
  · rw [if_pos h, List.getD_eq_getElem?_getD, List.getElem?_append_left h, List.getD_eq_getElem?_getD]
  · rw [if_neg h, List.getD_eq_getElem?_getD, List.getElem?_append_right (by omega)]
    by_cases e : i = zs.length
    · subst e; simp
    · rw [if_neg e, List.getElem?_eq_none (by simp; omega)]; rfl
theorem end_kept (l e t l2 e2 t2 : Int) (zs ys ts : List Int) (b : Nat) (hb : b < zs.length) (hy : ys.length = zs.length) (ht : ts.length = zs.length) :
    endAt l2 e2 t2 (zs ++ [IntKind.u64.wrap (l + 1)]) (ys ++ [e]) (ts ++ [t]) b = endAt l e t zs ys ts b := by
  unfold endAt
  rw [if_pos (by simp; omega)]
  rw [getD_app, getD_app, getD_app, hy, ht]
  by_cases h : b + 1 < zs.length
  · rw [if_pos h, if_pos h, if_pos h, if_pos h]
  · rw [if_neg h, if_neg h, if_neg h, if_neg h, if_pos (by omega), if_pos (by omega), if_pos (by omega)]

theorem make_next (T E : TypeId) (k : IntKind) (hu : Try.prog.underlying T = some (.slice E)) (hi : (Try.prog.info? E).map (fun i => (i.zero, i.size, i.bytes)) = some (some (.int k 0), 1, 8)) (n : Nat) (hn : n ≤ 16384) (w : World) :
    (Instr.makeSlice T (.int .i64 ((n : Int) + 1)) (.int .i64 ((n : Int) + 1))).run Try.prog w = .ok (.slice (some ⟨w.heap.size, 0, none⟩) (n + 1) (n + 1)) (w.alloc (.cells (madeCells #[.int k 0] (n + 1)) E)) := by
  have h := run_make_row' (P := Try.prog) T E (.int k 0) 8 hu hi rfl .i64 .i64 (n + 1) (by omega) (by omega) w
  rw [show ((n + 1 : Nat) : Int) = (n : Int) + 1 from by omega] at h
  exact h

theorem size1 {E : TypeId} {z : Value} (hi : (Try.prog.info? E).map (fun i => (i.zero, i.size, i.bytes)) = some (some z, 1, 8)) : (Try.prog.info? E).map (·.size) = some 1 := by
  obtain ⟨i, h1, h2⟩ := Option.map_eq_some_iff.1 hi
  simp only [Prod.mk.injEq] at h2
  rw [h1]; simp [h2.2.1]

/-- the world with the three rows made -/
def made3w (n : Nat) (w : World) : World := ((w.alloc (.cells (madeCells #[.int .u64 0] (n + 1)) 25)).alloc (.cells (madeCells #[.int .i64 0] (n + 1)) 2)).alloc (.cells (madeCells #[.int .i64 0] (n + 1)) 2)

theorem rowAt_heap {k : IntKind} {w w' : World} {g o : Nat} {zs : List Int} (h : RowAt k w g o zs) (e : w'.heap[g]? = w.heap[g]?) : RowAt k w' g o zs := fun i hi => (World.cell?_of_block (a := ⟨g, o + i, none⟩) e).trans (h i hi)

theorem prep (w : World) (g5 g6 g7 c5 c6 c7 : Nat) (zs ys ts : List Int) (hy : ys.length = zs.length) (ht : ts.length = zs.length) (n5 : g5 < w.heap.size) (n6 : g6 < w.heap.size) (n7 : g7 < w.heap.size) (r5 : RowAt .u64 w g5 0 zs) (r6 : RowAt .i64 w g6 0 ys) (r7 : RowAt .i64 w g7 0 ts) :
    ∃ W1 W2 W3, (∀ ty, (Builtin.copy_ #[26, 26] ty #[.slice (some ⟨w.heap.size, 0, none⟩) (zs.length + 1) (zs.length + 1), .slice (some ⟨g5, 0, none⟩) zs.length c5]).run Try.prog (made3w zs.length w) = .ok (goInt (zs.length : Int)) W1) ∧
      (∀ ty, (Builtin.copy_ #[27, 27] ty #[.slice (some ⟨w.heap.size + 1, 0, none⟩) (zs.length + 1) (zs.length + 1), .slice (some ⟨g6, 0, none⟩) zs.length c6]).run Try.prog W1 = .ok (goInt (zs.length : Int)) W2) ∧
      (∀ ty, (Builtin.copy_ #[27, 27] ty #[.slice (some ⟨w.heap.size + 2, 0, none⟩) (zs.length + 1) (zs.length + 1), .slice (some ⟨g7, 0, none⟩) zs.length c7]).run Try.prog W2 = .ok (goInt (zs.length : Int)) W3) ∧
      (∃ f, W3.rowIs w.heap.size 25 (zs.length + 1) f ∧ ∀ j, j < zs.length → f j = .int .u64 (zs.getD j 0)) ∧ (∃ f, W3.rowIs (w.heap.size + 1) 2 (zs.length + 1) f ∧ ∀ j, j < zs.length → f j = .int .i64 (ys.getD j 0)) ∧ (∃ f, W3.rowIs (w.heap.size + 2) 2 (zs.length + 1) f ∧ ∀ j, j < zs.length → f j = .int .i64 (ts.getD j 0)) ∧
      W3.heap.size = w.heap.size + 3 ∧ Below w.heap.size w W3 := by
  have hb0 : Below w.heap.size w (made3w zs.length w) := (((Below.refl _ _).alloc (Nat.le_refl _) _).alloc (by simp) _).alloc (by simp; omega) _
  have q0 : (made3w zs.length w).rowIs w.heap.size 25 (zs.length + 1) (fun _ => .int .u64 0) := ((World.rowIs_made w (.int .u64 0) (zs.length + 1) 25).alloc _).alloc _
  have q1 : (made3w zs.length w).rowIs (w.heap.size + 1) 2 (zs.length + 1) (fun _ => .int .i64 0) := by
    have := (World.rowIs_made (w.alloc (.cells (madeCells #[.int .u64 0] (zs.length + 1)) 25)) (.int .i64 0) (zs.length + 1) 2).alloc (.cells (madeCells #[.int .i64 0] (zs.length + 1)) 2)
    rw [World.size_alloc] at this
    exact this
  have q2 : (made3w zs.length w).rowIs (w.heap.size + 2) 2 (zs.length + 1) (fun _ => .int .i64 0) := by
    have := World.rowIs_made ((w.alloc (.cells (madeCells #[.int .u64 0] (zs.length + 1)) 25)).alloc (.cells (madeCells #[.int .i64 0] (zs.length + 1)) 2)) (.int .i64 0) (zs.length + 1) 2
    rw [World.size_alloc, World.size_alloc] at this
    exact this
  have z0 : (made3w zs.length w).heap.size = w.heap.size + 3 := by unfold made3w; simp
  obtain ⟨W1, a1, a2, a3, a4, a5⟩ := copy_any 26 25 .u64 Try.underlying26 (size1 info25) (made3w zs.length w) w.heap.size (zs.length + 1) _ q0 (zs.length + 1) (zs.length + 1) (some ⟨g5, 0, none⟩) c5 zs (by omega) (Nat.le_refl _) (fun _ => ⟨g5, 0, rfl, r5.below hb0 n5⟩)
  have bl1 := a5 w.heap.size w (Nat.le_refl _) hb0
  obtain ⟨W2, d1, d2, d3, d4, d5⟩ := copy_any 27 2 .i64 Try.underlying27 (size1 info2) W1 (w.heap.size + 1) (zs.length + 1) _ (q1.of_block (a4 _ (by omega))) (zs.length + 1) (zs.length + 1) (some ⟨g6, 0, none⟩) c6 ys (by omega) (Nat.le_refl _) (fun _ => ⟨g6, 0, rfl, r6.below bl1 n6⟩)
  have bl2 := d5 w.heap.size w (by omega) bl1
  obtain ⟨W3, e1, e2, e3, e4, e5⟩ := copy_any 27 2 .i64 Try.underlying27 (size1 info2) W2 (w.heap.size + 2) (zs.length + 1) _ (q2.of_block ((d4 _ (by omega)).trans (a4 _ (by omega)))) (zs.length + 1) (zs.length + 1) (some ⟨g7, 0, none⟩) c7 ts (by omega) (Nat.le_refl _) (fun _ => ⟨g7, 0, rfl, r7.below bl2 n7⟩)
  rw [hy] at d1
  rw [ht] at e1
  refine ⟨W1, W2, W3, a1, d1, e1, ⟨_, a2.of_block ((e4 _ (by omega)).trans (d4 _ (by omega))), fun j hj => by rw [if_pos hj]⟩, ⟨_, d2.of_block (e4 _ (by omega)), fun j hj => by rw [if_pos (by omega)]⟩, ⟨_, e2, fun j hj => by rw [if_pos (by omega)]⟩, by omega, e5 w.heap.size w (by omega) bl2⟩

theorem row_next {k : IntKind} {w : World} {g E : Nat} {zs : List Int} {f : Nat → Value} (h : w.rowIs g E (zs.length + 1) f) (hf : ∀ j, j < zs.length → f j = .int k (zs.getD j 0)) (x : Int) : (w.setCell ⟨g, zs.length, none⟩ (.int k x)).rowIs g E (zs.length + 1) (fun j => .int k ((zs ++ [x]).getD j 0)) := by
  refine (h.set zs.length (.int k x)).congr fun j hj => ?_
  rw [getD_app]
  by_cases e : j = zs.length
  · rw [if_pos e, if_neg (by omega), if_pos e]
  · rw [if_neg e, if_pos (by omega), hf j (by omega)]
theorem rowAt_all {k : IntKind} {w : World} {g E N : Nat} (zs : List Int) (h : w.rowIs g E N (fun j => .int k (zs.getD j 0))) (hN : zs.length ≤ N) : RowAt k w g 0 zs := rowAt_of zs h hN fun _ _ => rfl

/-- behind the three stores -/
theorem stored {w W3 : World} {zs ys ts : List Int} (hy : ys.length = zs.length) (ht : ts.length = zs.length) (x y z : Int)
    (f5 : ∃ f, W3.rowIs w.heap.size 25 (zs.length + 1) f ∧ ∀ j, j < zs.length → f j = .int .u64 (zs.getD j 0)) (f6 : ∃ f, W3.rowIs (w.heap.size + 1) 2 (zs.length + 1) f ∧ ∀ j, j < zs.length → f j = .int .i64 (ys.getD j 0)) (f7 : ∃ f, W3.rowIs (w.heap.size + 2) 2 (zs.length + 1) f ∧ ∀ j, j < zs.length → f j = .int .i64 (ts.getD j 0))
    (hz : W3.heap.size = w.heap.size + 3) (hb : Below w.heap.size w W3) :
    RowAt .u64 (((W3.setCell ⟨w.heap.size, zs.length, none⟩ (.int .u64 x)).setCell ⟨w.heap.size + 1, zs.length, none⟩ (.int .i64 y)).setCell ⟨w.heap.size + 2, zs.length, none⟩ (.int .i64 z)) w.heap.size 0 (zs ++ [x]) ∧
    RowAt .i64 (((W3.setCell ⟨w.heap.size, zs.length, none⟩ (.int .u64 x)).setCell ⟨w.heap.size + 1, zs.length, none⟩ (.int .i64 y)).setCell ⟨w.heap.size + 2, zs.length, none⟩ (.int .i64 z)) (w.heap.size + 1) 0 (ys ++ [y]) ∧
    RowAt .i64 (((W3.setCell ⟨w.heap.size, zs.length, none⟩ (.int .u64 x)).setCell ⟨w.heap.size + 1, zs.length, none⟩ (.int .i64 y)).setCell ⟨w.heap.size + 2, zs.length, none⟩ (.int .i64 z)) (w.heap.size + 2) 0 (ts ++ [z]) ∧
    (((W3.setCell ⟨w.heap.size, zs.length, none⟩ (.int .u64 x)).setCell ⟨w.heap.size + 1, zs.length, none⟩ (.int .i64 y)).setCell ⟨w.heap.size + 2, zs.length, none⟩ (.int .i64 z)).heap.size = w.heap.size + 3 ∧
    Below w.heap.size w (((W3.setCell ⟨w.heap.size, zs.length, none⟩ (.int .u64 x)).setCell ⟨w.heap.size + 1, zs.length, none⟩ (.int .i64 y)).setCell ⟨w.heap.size + 2, zs.length, none⟩ (.int .i64 z)) := by
  obtain ⟨_, a1, a2⟩ := f5
  obtain ⟨_, b1, b2⟩ := f6
  obtain ⟨_, c1, c2⟩ := f7
  have A := ((row_next a1 a2 x).setOther (a := ⟨w.heap.size + 1, zs.length, none⟩) (by show w.heap.size ≠ w.heap.size + 1; omega) (.int .i64 y)).setOther (a := ⟨w.heap.size + 2, zs.length, none⟩) (by show w.heap.size ≠ w.heap.size + 2; omega) (.int .i64 z)
  have b1' := b1.setOther (a := ⟨w.heap.size, zs.length, none⟩) (by show w.heap.size + 1 ≠ w.heap.size; omega) (.int .u64 x)
  rw [← hy] at b1' b2
  have B := (row_next b1' b2 y).setOther (a := ⟨w.heap.size + 2, zs.length, none⟩) (by show w.heap.size + 1 ≠ w.heap.size + 2; omega) (.int .i64 z)
  have c1' := (c1.setOther (a := ⟨w.heap.size, zs.length, none⟩) (by show w.heap.size + 2 ≠ w.heap.size; omega) (.int .u64 x)).setOther (a := ⟨w.heap.size + 1, zs.length, none⟩) (by show w.heap.size + 2 ≠ w.heap.size + 1; omega) (.int .i64 y)
  rw [← ht] at c1' c2
  have C := row_next c1' c2 z
  rw [hy] at B
  rw [ht] at C
  refine ⟨rowAt_all _ A (by simp), rowAt_all _ B (by simp [hy]), rowAt_all _ C (by simp [ht]), ?_, ((hb.setCell (Nat.le_refl _) _).setCell (by show w.heap.size ≤ w.heap.size + 1; omega) _).setCell (by show w.heap.size ≤ w.heap.size + 2; omega) _⟩
  rw [World.size_setCell, World.size_setCell, World.size_setCell, hz]
end Go.Proofs.Qxb6619836a
