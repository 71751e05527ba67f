/- make and copy of rows of integers; the bounds on the lengths (8, 10). -/
import Derived.Test.Qxb6619836aZz
namespace Go.Proofs.Qxb6619836a
open Go.ChangeShapes Go.WideShapes Go.ChangeAt Go.RowKit

theorem info25 : (Try.prog.info? 25).map (fun i => (i.zero, i.size, i.bytes)) = some (some (.int .u64 0), 1, 8) := by kernel_rfl
theorem info2 : (Try.prog.info? 2).map (fun i => (i.zero, i.size, i.bytes)) = some (some (.int .i64 0), 1, 8) := by kernel_rfl

theorem setRow_rowIs {W : World} {g E N : Nat} {f : Nat → Value} (hd : W.rowIs g E N f) (zs : List Value) (hz : zs.length ≤ N) : ∃ cur : Array Value, W.heap[g]? = some (.cells cur E (0, 0)) ∧ cur.size = N ∧
    (W.setRow g (cur.toList.take 0 ++ zs ++ cur.toList.drop (0 + zs.length)).toArray).rowIs g E N (fun j => if j < zs.length then zs.getD j default else f j) := by
  obtain ⟨c, hc, hs, hf⟩ := hd
  refine ⟨c, hc, hs, ⟨_, setRow_heap W g c _ E _ hc, by simp; omega, fun j hj => ?_⟩⟩
  simp only [List.take_zero, List.nil_append, Nat.zero_add]
  by_cases h : j < zs.length
  · rw [if_pos h]
    simp only [List.getElem?_toArray]
    rw [List.getElem?_append_left h, List.getD_eq_getElem?_getD, List.getElem?_eq_getElem h]
    rfl
  · rw [if_neg h]
    simp only [List.getElem?_toArray]
    rw [List.getElem?_append_right (by omega), List.getElem?_drop, show zs.length + (j - zs.length) = j from by omega]
    simpa using hf j hj

/-- the built-in copy from a row of integers to the head of a row of the call's own -/
theorem copy_any (T E : TypeId) (k : IntKind) (hu : Try.prog.underlying T = some (.slice E)) (hsz : (Try.prog.info? E).map (·.size) = some 1) (W : World) (g N : Nat) (f : Nat → Value) (hd : W.rowIs g E N f) (dLen dCap : Nat) (ao : Option Addr) (sCap : Nat) (zs : List Int) (hz : zs.length ≤ dLen) (hN : dLen ≤ N)
    (hsrc : 0 < zs.length → ∃ b o, ao = some ⟨b, o, none⟩ ∧ RowAt k W b o zs) :
    ∃ W', (∀ ty, (Builtin.copy_ #[T, T] ty #[.slice (some ⟨g, 0, none⟩) dLen dCap, .slice ao zs.length sCap]).run Try.prog W = .ok (goInt (zs.length : Int)) W') ∧ W'.rowIs g E N (fun j => if j < zs.length then .int k (zs.getD j 0) else f j) ∧
      W'.heap.size = W.heap.size ∧ (∀ b, b ≠ g → W'.heap[b]? = W.heap[b]?) ∧ ∀ B w0, B ≤ g → Below B w0 W → Below B w0 W' := by
  by_cases h0 : zs.length = 0
  · obtain rfl : zs = [] := List.eq_nil_of_length_eq_zero h0
    refine ⟨W, fun ty => run_copy_none _ T T ty E _ _ _ _ _ _ hu hsz (by simp), hd.congr fun j _ => by simp, rfl, fun _ _ => rfl, fun _ _ _ h => h⟩
  · obtain ⟨b, o, rfl, hR⟩ := hsrc (by omega)
    obtain ⟨cur, hc, hcs, hrow⟩ := setRow_rowIs hd (zs.map (Value.int k)) (by simp; omega)
    have hrun := fun ty => run_copy_row (P := Try.prog) W T T ty E g 0 dLen dCap ⟨b, o, none⟩ zs.length sCap cur E (zs.map (Value.int k)) hu hsz hc (by simp only [List.length_map]; exact (Nat.min_eq_left hz).symm) (by
      intro j v hj
      rw [add_plain]
      rw [List.getElem?_map] at hj
      have hjl : j < zs.length := by
        rcases Nat.lt_or_ge j zs.length with h | h
        · exact h
        · rw [List.getElem?_eq_none h] at hj; cases hj
      rw [List.getElem?_eq_getElem hjl] at hj
      simp only [Option.map_some, Option.some.injEq] at hj
      rw [hR j hjl, ← hj]) (by simp; omega) (by
      intro v hv
      obtain ⟨x, _, rfl⟩ := List.mem_map.1 hv
      rfl)
    rw [List.length_map] at hrun
    rw [List.length_map] at hrow
    refine ⟨_, hrun, hrow.congr fun j _ => ?_, by simp [World.setRow], fun b hb => setRow_other W g b _ hb, fun B w0 hB h => below_setRow h hB _⟩
    by_cases h : j < zs.length
    · rw [if_pos h, if_pos h, List.getD_eq_getElem?_getD, List.getElem?_map, List.getElem?_eq_getElem h, List.getD_eq_getElem?_getD, List.getElem?_eq_getElem h]
      rfl
    · rw [if_neg h, if_neg h]

/-- a slice of integers: nil, or its elements lie in memory -/
structure Came (k : IntKind) (ao : Option Addr) (b off : Nat) (zs : List Int) (w : World) : Prop where
  addr : 0 < zs.length → ao = some ⟨b, off, none⟩
  lt : b < w.heap.size ∨ zs = []
  at_ : RowAt k w b off zs
/-- the copy that the law lays of it -/
def Cp (k : IntKind) (H : Nat) (zs : List Int) (s : Value) (w wx : World) : Prop :=
  ∃ (ao : Option Addr) (g cap : Nat), s = .slice ao zs.length cap ∧ (0 < zs.length → ao = some ⟨g, 0, none⟩ ∧ cap = zs.length) ∧ (g < wx.heap.size ∨ zs = []) ∧ RowAt k wx g 0 zs ∧ H ≤ wx.heap.size ∧ Below H w wx

theorem rowAt_nil (k : IntKind) (w : World) (g o : Nat) : RowAt k w g o [] := fun i hi => by simp at hi
theorem rowAt_of {k : IntKind} {w : World} {g E N : Nat} {f : Nat → Value} (zs : List Int) (h : w.rowIs g E N f) (hN : zs.length ≤ N) (hf : ∀ j, j < zs.length → f j = .int k (zs.getD j 0)) : RowAt k w g 0 zs := fun i hi => by
  rw [Nat.zero_add, h.cell (by omega), hf i hi, List.getD_eq_getElem?_getD, List.getElem?_eq_getElem hi]
  rfl
/-- make and copy, in whatever world -/
theorem made_copy (T E : TypeId) (k : IntKind) (hu : Try.prog.underlying T = some (.slice E)) (hi : (Try.prog.info? E).map (fun i => (i.zero, i.size, i.bytes)) = some (some (.int k 0), 1, 8)) (H : Nat) (w wx : World) (ao : Option Addr) (b off sCap : Nat) (zs : List Int) (hC : Came k ao b off zs wx) (hH : H ≤ wx.heap.size) (hb : Below H w wx) :
    ∃ W', (∀ ty, (Builtin.copy_ #[T, T] ty #[.slice (some ⟨wx.heap.size, 0, none⟩) zs.length zs.length, .slice ao zs.length sCap]).run Try.prog (wx.alloc (.cells (madeCells #[.int k 0] zs.length) E)) = .ok (goInt (zs.length : Int)) W') ∧
      Cp k H zs (.slice (some ⟨wx.heap.size, 0, none⟩) zs.length zs.length) w W' ∧ W'.heap.size = wx.heap.size + 1 ∧ Below wx.heap.size wx W' := by
  have hsz : (Try.prog.info? E).map (·.size) = some 1 := by
    obtain ⟨i, h1, h2⟩ := Option.map_eq_some_iff.1 hi
    simp only [Prod.mk.injEq] at h2
    rw [h1]; simp [h2.2.1]
  obtain ⟨W', h1, h2, h3, h4, h5⟩ := copy_any T E k hu hsz (wx.alloc (.cells (madeCells #[.int k 0] zs.length) E)) wx.heap.size zs.length _ (World.rowIs_made wx (.int k 0) zs.length E) zs.length zs.length ao sCap zs (Nat.le_refl _) (Nat.le_refl _) (fun h => by
    refine ⟨b, off, hC.addr h, ?_⟩
    have hlt : b < wx.heap.size := by
      rcases hC.lt with h' | h'
      · exact h'
      · subst h'; simp at h
    exact hC.at_.below ((Below.refl wx.heap.size wx).alloc (Nat.le_refl _) _) hlt)
  have hz' : W'.heap.size = wx.heap.size + 1 := by rw [h3]; simp
  refine ⟨W', h1, ⟨_, wx.heap.size, _, rfl, fun _ => ⟨rfl, rfl⟩, .inl (by omega), rowAt_of zs h2 (Nat.le_refl _) (fun j hj => by rw [if_pos hj]), by omega, h5 H w hH (hb.alloc hH _)⟩, hz', h5 _ wx (Nat.le_refl _) ((Below.refl _ _).alloc (Nat.le_refl _) _)⟩
theorem Cp.later {k : IntKind} {H : Nat} {zs : List Int} {s : Value} {w wx wy : World} (h : Cp k H zs s w wx) (hb : Below wx.heap.size wx wy) : Cp k H zs s w wy := by
  obtain ⟨ao, g, cap, rfl, h1, h2, h3, h4, h5⟩ := h
  have hz := hb.size
  refine ⟨ao, g, cap, rfl, h1, ?_, ?_, by omega, h5.trans (hb.mono h4)⟩
  · rcases h2 with h | h
    · exact .inl (by omega)
    · exact .inr h
  · rcases h2 with h | h
    · exact h3.below hb h
    · subst h; exact rowAt_nil _ _ _ _
theorem Came.later {k : IntKind} {ao : Option Addr} {b off : Nat} {zs : List Int} {w wx : World} (h : Came k ao b off zs w) {H : Nat} (hH : H = w.heap.size) (hb : Below H w wx) : Came k ao b off zs wx := by
  subst hH
  have hz := hb.size
  refine ⟨h.addr, ?_, ?_⟩
  · rcases h.lt with h | h
    · exact .inl (by omega)
    · exact .inr h
  · rcases h.lt with h' | h'
    · exact h.at_.below hb h'
    · subst h'; exact rowAt_nil _ _ _ _
end Go.Proofs.Qxb6619836a
