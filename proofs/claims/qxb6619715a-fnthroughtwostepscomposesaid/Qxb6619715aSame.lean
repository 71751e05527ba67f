/- sameHolders (11). -/
import Derived.Test.Qxb6619715aModel
namespace Go.Proofs.Qxb6619715a
open Go.ChangeShapes Go.WideShapes Go.ChangeAt Go.RowKit

theorem mcs_get : ∀ (l : List Hd) (i : Nat) (h : i < l.length) (j : Nat), j < 4 → (mcs l)[i * 4 + j]? = (mc l[i])[j]?
  | [], i, h, _, _ => by simp at h
  | x :: t, 0, _, j, hj => by
    show ((mc x) ++ mcs t)[0 * 4 + j]? = _
    rw [List.getElem?_append_left (by simp [mc]; omega)]
    simp
  | x :: t, i + 1, h, j, hj => by
    show ((mc x) ++ mcs t)[(i + 1) * 4 + j]? = _
    rw [List.getElem?_append_right (by simp [mc]; omega)]
    have := mcs_get t i (by simpa using h) j hj
    rw [show (i + 1) * 4 + j - (mc x).length = i * 4 + j from by simp [mc]; omega]
    simpa using this
/-- a value that leads to the holds l -/
def Wv (w : World) (v : Value) (l : List Hd) : Prop :=
  ∃ (ao : Option Addr) (g cap : Nat), v = .slice ao l.length cap ∧ (0 < l.length → ao = some ⟨g, 0, none⟩) ∧ (g < w.heap.size ∨ l = []) ∧ HeldAt w g 0 l
theorem Wv.of_own {w : World} {base : Nat} {e : TypeId} {v : Value} {l : List Hd} (h : w.ownsRow base e 4 v l.length (mcs l)) : Wv w v l := by
  rcases h.2 with ⟨rfl, h0⟩ | ⟨g, cap, cur, rfl, _, hh, _⟩
  · have hl : l = [] := List.length_eq_zero_iff.1 h0
    subst hl
    exact ⟨none, 0, 0, rfl, fun h => by simp at h, .inr rfl, fun i hi => by simp at hi⟩
  · refine ⟨_, g, cap, rfl, fun _ => rfl, .inl ?_, fun i hi => ?_⟩
    · rcases Nat.lt_or_ge g w.heap.size with hlt | hge
      · exact hlt
      · rw [Array.getElem?_eq_none hge] at hh; cases hh
    · have c := fun j (hj : j < 4) => mcs_get l i hi j hj
      simp only [Nat.zero_add]
      exact ⟨own_cell h (c 0 (by omega)), own_cell h (c 1 (by omega)), own_cell h (c 2 (by omega)), own_cell h (c 3 (by omega))⟩

set_option maxRecDepth 100000 in
set_option maxHeartbeats 1600000 in
theorem same_any (N n B : Nat) (l : List Hd) (v1 v2 : Value) (w : World) (h1 : Hv w N v1 l) (h2 : Wv w v2 l) (hl : l.length ≤ 16384) (hB : B < w.heap.size) (hR : NodeRow w B N n)
    (hin : ∀ (i : Nat) (h : i < l.length), 0 ≤ l[i].X ∧ l[i].X < n ∧ 0 ≤ l[i].Y ∧ l[i].Y < n) :
    Calls Try.prog 11 #[v1, v2, .slice (some ⟨B, 0, none⟩) n n] w fun e w' => e = .returned (.bool true) ∧ Below w.heap.size w w' := by
  obtain ⟨ao1, g1, cap1, rfl, ha1, hg1, hH1⟩ := h1
  obtain ⟨ao2, g2, cap2, rfl, ha2, hg2, hH2⟩ := h2
  have hne := ptr_neq
  go_enter Try.func11, Try.ntmps11
  go_wp2_with fail
  go_loopw [7, 8, 9, 10, 11] (fun i _ _ _ _ wr => ∃ k : Nat, k ≤ l.length ∧ i = .int .i64 k ∧ Below w.heap.size w wr) (fun i _ _ _ _ _ => l.length - (intOf i).toNat)
  case atStart => exact ⟨0, Nat.zero_le _, rfl, Below.refl _ _⟩
  case round =>
    obtain ⟨k, hk, rfl, hbel⟩ := hrel
    by_cases hlt : k < l.length
    · obtain rfl := ha1 (by omega)
      obtain rfl := ha2 (by omega)
      have hg1' : g1 < w.heap.size := by rcases hg1 with h | h; exact h; subst h; simp at hlt
      have hg2' : g2 < w.heap.size := by rcases hg2 with h | h; exact h; subst h; simp at hlt
      have hsz := hbel.size
      obtain ⟨c0, c1, c2, c3⟩ := hH1 k hlt
      obtain ⟨d0, d1, d2, d3⟩ := hH2 k hlt
      simp only [Nat.zero_add] at d0 d1 d2 d3
      obtain ⟨hx0, hx1, hy0, hy1⟩ := hin k hlt
      obtain ⟨x, hx⟩ : ∃ x : Nat, l[k].X = x := ⟨l[k].X.toNat, by omega⟩
      obtain ⟨y, hy⟩ : ∃ y : Nat, l[k].Y = y := ⟨l[k].Y.toNat, by omega⟩
      obtain ⟨li, hL⟩ : ∃ li, l[k].L = li := ⟨_, rfl⟩
      obtain ⟨s, hS⟩ : ∃ s, l[k].S = s := ⟨_, rfl⟩
      rw [hx] at c0 d0 hx0 hx1
      rw [hy] at c1 d1 hy0 hy1
      rw [hL] at c2 d2
      rw [hS] at c3 d3
      simp only [np, Int.toNat_natCast] at c0 c1
      have m0 := hR x (by omega)
      have m1 := hR y (by omega)
      unfold np at m0 m1
      replace c0 := (hbel.cell (p := ⟨g1, k * 4, none⟩) hg1').trans c0
      replace c1 := (hbel.cell (p := ⟨g1, k * 4 + 1, none⟩) hg1').trans c1
      replace c2 := (hbel.cell (p := ⟨g1, k * 4 + 2, none⟩) hg1').trans c2
      replace c3 := (hbel.cell (p := ⟨g1, k * 4 + 3, none⟩) hg1').trans c3
      have D : ∀ wx, Below wr.heap.size wr wx → wx.cell? ⟨g2, k * 4, none⟩ = some (.int .i64 (x : Int)) ∧ wx.cell? ⟨g2, k * 4 + 1, none⟩ = some (.int .i64 (y : Int)) ∧ wx.cell? ⟨g2, k * 4 + 2, none⟩ = some (.int .i64 li) ∧ wx.cell? ⟨g2, k * 4 + 3, none⟩ = some (.int .i64 s) ∧ wx.cell? ⟨B, x, none⟩ = some (.pointer (some ⟨N + x, 0, none⟩)) ∧ wx.cell? ⟨B, y, none⟩ = some (.pointer (some ⟨N + y, 0, none⟩)) := fun wx hb => by
        have hb2 := hbel.trans (hb.mono hsz)
        exact ⟨(hb2.cell (p := ⟨g2, k * 4, none⟩) hg2').trans d0, (hb2.cell (p := ⟨g2, k * 4 + 1, none⟩) hg2').trans d1, (hb2.cell (p := ⟨g2, k * 4 + 2, none⟩) hg2').trans d2, (hb2.cell (p := ⟨g2, k * 4 + 3, none⟩) hg2').trans d3,
          (hb2.cell (p := ⟨B, x, none⟩) hB).trans m0, (hb2.cell (p := ⟨B, y, none⟩) hB).trans m1⟩
      have DD := hide D
      clear D d0 d1 d2 d3 m0 m1 hx hy hL hS hH1 hH2 hR hin
      go_wp2_with (go_at_call 19; refine (parts_any _ _ _ _ _).mono ?_; rintro e wx ⟨rfl, hbx⟩; obtain ⟨f0, f1, f2, f3, f4, f5⟩ := DD.out wx hbx)
      go_roundw
      case rel => exact ⟨k + 1, by omega, by go_num, hbel.trans (hbx.mono hsz)⟩
      case measure => simp [intOf]; omega
    · go_wp2
      go_ret
      exact ⟨rfl, hbel⟩
end Go.Proofs.Qxb6619715a
