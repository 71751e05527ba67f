/- What the law reads behind its loops. -/
import Derived.Test.Qxb6619723aLaw
namespace Go.Proofs.Qxb6619723a
open Go.ChangeShapes Go.WideShapes Go.ChangeAt Go.RowKit

theorem seq_est {a0 : Option Addr} {b0 o0 : Nat} {es xs : List Nat} {w w' : World} (h0 : FCame a0 b0 o0 es w) (hb : Below w.heap.size w w') (nx0 i q : Nat) (hi : i < es.length) (hq : (nx0 + i) % es.length = q) : w'.cell? ⟨b0, o0 + q, none⟩ = some (.float .f64 (seqN es xs nx0 i)) := by
  have hql : q < es.length := by rw [← hq]; exact Nat.mod_lt _ (by omega)
  have hlt : b0 < w.heap.size := by
    rcases h0.lt with h | h
    · exact h
    · subst h; simp at hi
  rw [hb.cell (p := ⟨b0, o0 + q, none⟩) hlt, h0.at_ q hql]
  unfold seqN
  rw [if_pos hi, hq, List.getD_eq_getElem?_getD, List.getElem?_eq_getElem hql]
  rfl
theorem seq_xs {a3 : Option Addr} {b3 o3 : Nat} {es xs : List Nat} {w w' : World} (h3 : FCame a3 b3 o3 xs w) (hb : Below w.heap.size w w') (nx0 i : Nat) (hi : es.length ≤ i) (hi2 : i < es.length + xs.length) : w'.cell? ⟨b3, o3 + (i - es.length), none⟩ = some (.float .f64 (seqN es xs nx0 i)) := by
  have hql : i - es.length < xs.length := by omega
  have hlt : b3 < w.heap.size := by
    rcases h3.lt with h | h
    · exact h
    · subst h; simp at hql
  rw [hb.cell (p := ⟨b3, o3 + (i - es.length), none⟩) hlt, h3.at_ _ hql]
  unfold seqN
  rw [if_neg (by omega), List.getD_eq_getElem?_getD, List.getElem?_eq_getElem hql]
  rfl
theorem got_at {H c nx nx0 l0 t : Nat} {seq : Nat → Nat} {rs : List Nat} {w wr : World} (hh : Hist H c nx rs w wr) (hI : Inv c nx0 l0 seq t rs nx) (j p i : Nat) (hj : j < rs.length) (hp : (nx + j) % rs.length = p) (hi : t - rs.length + j = i) : wr.cell? ⟨H, p, none⟩ = some (.float .f64 (seq i)) := by
  have hpl : p < rs.length := by rw [← hp]; exact Nat.mod_lt _ (by omega)
  have := inv_read hI j hj
  rw [hp, hi] at this
  rw [hh.own.cellAt p (by omega), List.getElem?_map, this]
  rfl
theorem emod_nat (a b : Nat) : ((a : Int) + 0) % (b : Int) = ((a % b : Nat) : Int) := by simp

end Go.Proofs.Qxb6619723a
