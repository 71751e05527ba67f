/- The plain side of one step through an event. -/
import Derived.Test.Qxb6619715aThrough
namespace Go.Proofs.Qxb6619715a
open Go.RowKit

def fixS (s : Int) (h : Hd) : Hd := if h.S < 0 then { h with S := s } else h
/-- what one step through the event e, by a rule of source s, leaves of the holders -/
def stepL (e : Nat) (s : Int) (l : List Hd) : List Hd := (l.filter fun h => !(h.X.toNat == e)).map (fixS s)
theorem fixS_X (s : Int) (h : Hd) : (fixS s h).X = h.X := by unfold fixS; split <;> rfl
theorem fixS_Y (s : Int) (h : Hd) : (fixS s h).Y = h.Y := by unfold fixS; split <;> rfl
theorem stepL_same (e : Nat) (s : Int) (l : List Hd) (h : l.any (hitB e) = false) : stepL e s l = l := by
  rw [List.any_eq_false] at h
  have h1 : l.filter (fun h => !(h.X.toNat == e)) = l := by
    rw [List.filter_eq_self]
    intro a ha
    have := h a ha
    simp [hitB] at this ⊢
    exact this.1
  unfold stepL
  rw [h1]
  conv => rhs; rw [← List.map_id l]
  apply List.map_congr_left
  intro a ha
  have := h a ha
  simp [hitB] at this
  unfold fixS
  rw [if_neg (by omega)]
  rfl
theorem stepL_drop (e : Nat) (s : Int) (l : List Hd) (k : Nat) (hk : k < l.length) (h : (l[k].X.toNat == e) = true) : stepL e s (l.take (k + 1)) = stepL e s (l.take k) := by
  unfold stepL
  rw [List.take_succ_eq_append_getElem hk, List.filter_append]
  simp [h]
theorem stepL_keep (e : Nat) (s : Int) (l : List Hd) (k : Nat) (hk : k < l.length) (h : (l[k].X.toNat == e) = false) : stepL e s (l.take (k + 1)) = stepL e s (l.take k) ++ [fixS s l[k]] := by
  unfold stepL
  rw [List.take_succ_eq_append_getElem hk, List.filter_append]
  simp [h]
theorem stepL_len (e : Nat) (s : Int) (l : List Hd) : (stepL e s l).length ≤ l.length := by
  unfold stepL; rw [List.length_map]; exact List.length_filter_le _ _
theorem stepL_okay (e n : Nat) (s : Int) (l : List Hd) (h : Okay n l) : Okay n (stepL e s l) := by
  have h' : ∀ a ∈ l, a.X.toNat < n ∧ a.Y.toNat < n := fun a ha => by
    obtain ⟨i, hi, rfl⟩ := List.getElem_of_mem ha; exact h i hi
  intro i hi
  have hm : (stepL e s l)[i] ∈ stepL e s l := List.getElem_mem hi
  unfold stepL at hm
  rw [List.mem_map] at hm
  obtain ⟨a, ha, he⟩ := hm
  have := h' a (List.mem_filter.1 ha).1
  show (stepL e s l)[i].X.toNat < n ∧ (stepL e s l)[i].Y.toNat < n
  unfold stepL
  rw [← he, fixS_X, fixS_Y]
  exact this

/-- what the law says two steps leave -/
def modelL (e1 e2 : Nat) (s1 s2 : Int) (l : List Hd) : List Hd := (l.filter fun h => !(h.X.toNat == e1) && !(h.X.toNat == e2)).map fun h => fixS s2 (fixS s1 h)
theorem two_steps (e1 e2 : Nat) (s1 s2 : Int) (l : List Hd) : stepL e2 s2 (stepL e1 s1 l) = modelL e1 e2 s1 s2 l := by
  unfold stepL modelL
  rw [List.filter_map, List.map_map, List.filter_filter]
  have e : (fun h : Hd => !(h.X.toNat == e1) && !(h.X.toNat == e2)) = fun a => ((fun h : Hd => !(h.X.toNat == e2)) ∘ fixS s1) a && !(a.X.toNat == e1) := by
    funext a; simp [fixS_X, Bool.and_comm]
  rw [e]
  rfl

/-- a value that leads to the holders l -/
def Hv (w : World) (N : Nat) (v : Value) (l : List Hd) : Prop :=
  ∃ (ao : Option Addr) (g cap : Nat), v = .slice ao l.length cap ∧ (0 < l.length → ao = some ⟨g, 0, none⟩) ∧ (g < w.heap.size ∨ l = []) ∧ HoldersAt w g N l
theorem HoldersAt.below {w w' : World} {g N : Nat} {l : List Hd} (h : HoldersAt w g N l) (hb : Below w.heap.size w w') (hg : g < w.heap.size ∨ l = []) : HoldersAt w' g N l := by
  intro i hi
  have hg' : g < w.heap.size := by rcases hg with h | h; exact h; subst h; simp at hi
  obtain ⟨c0, c1, c2, c3⟩ := h i hi
  exact ⟨(hb.cell (p := ⟨g, i * 4, none⟩) hg').trans c0, (hb.cell (p := ⟨g, i * 4 + 1, none⟩) hg').trans c1, (hb.cell (p := ⟨g, i * 4 + 2, none⟩) hg').trans c2, (hb.cell (p := ⟨g, i * 4 + 3, none⟩) hg').trans c3⟩
theorem Hv.below {w w' : World} {N : Nat} {v : Value} {l : List Hd} (h : Hv w N v l) (hb : Below w.heap.size w w') : Hv w' N v l := by
  obtain ⟨ao, g, cap, rfl, h1, h2, h3⟩ := h
  have := hb.size
  exact ⟨ao, g, cap, rfl, h1, by rcases h2 with h | h; exact .inl (by omega); exact .inr h, h3.below hb h2⟩
theorem hcs_get (N : Nat) : ∀ (l : List Hd) (i : Nat) (h : i < l.length) (j : Nat), j < 4 → (hcs N l)[i * 4 + j]? = (hc N l[i])[j]?
  | [], i, h, _, _ => by simp at h
  | x :: t, 0, _, j, hj => by
    show ((hc N x) ++ hcs N t)[0 * 4 + j]? = _
    rw [List.getElem?_append_left (by simp [hc]; omega)]
    simp
  | x :: t, i + 1, h, j, hj => by
    show ((hc N x) ++ hcs N t)[(i + 1) * 4 + j]? = _
    rw [List.getElem?_append_right (by simp [hc]; omega)]
    have := hcs_get N t i (by simpa using h) j hj
    rw [show (i + 1) * 4 + j - (hc N x).length = i * 4 + j from by simp [hc]; omega]
    simpa using this
theorem own_cell {w : World} {base g cap : Nat} {e : TypeId} {n : Nat} {xs : List Value} (h : w.ownsRow base e 4 (.slice (some ⟨g, 0, none⟩) n cap) n xs) {j : Nat} {u : Value} (hu : xs[j]? = some u) : w.cell? ⟨g, j, none⟩ = some u := by
  rcases h.2 with ⟨h0, _⟩ | ⟨g', cap', cur, hv, _, hh, _, _, _, ht⟩
  · cases h0
  · injection hv with h1 h2 h3
    simp only [Option.some.injEq, Addr.mk.injEq] at h1
    obtain ⟨rfl, _⟩ := h1
    have hlt : j < xs.length := (List.getElem?_eq_some_iff.1 hu).1
    rw [← ht] at hu
    rw [List.getElem?_take] at hu
    simp only [World.cell?, hh]
    split at hu
    · simpa using hu
    · cases hu
theorem Hv.of_own {w : World} {base N : Nat} {e : TypeId} {v : Value} {l : List Hd} (h : w.ownsRow base e 4 v l.length (hcs N l)) : Hv w N v l := by
  rcases h.2 with ⟨rfl, h0⟩ | ⟨g, cap, cur, rfl, _, hh, _⟩
  · have hl : l = [] := List.length_eq_zero_iff.1 h0
    subst hl
    exact ⟨none, 0, 0, rfl, fun h => by simp at h, .inr rfl, fun i hi => by simp at hi⟩
  · refine ⟨_, g, cap, rfl, fun _ => rfl, .inl ?_, fun i hi => ?_⟩
    · rcases Nat.lt_or_ge g w.heap.size with hlt | hge
      · exact hlt
      · rw [Array.getElem?_eq_none hge] at hh; cases hh
    · have c := fun j (hj : j < 4) => hcs_get N l i hi j hj
      refine ⟨?_, ?_, ?_, ?_⟩
      · exact own_cell h (c 0 (by omega))
      · exact own_cell h (c 1 (by omega))
      · exact own_cell h (c 2 (by omega))
      · exact own_cell h (c 3 (by omega))
end Go.Proofs.Qxb6619715a
