/- The plain law of the cut. -/
import Derived.Test.Qxb6619836aPrep
namespace Go.Proofs.Qxb6619836a
open Go.ChangeShapes Go.WideShapes Go.ChangeAt Go.RowKit

theorem wrap_back (x : Int) (h0 : 0 ≤ x) (h1 : x < 18446744073709551616) : IntKind.u64.wrap (IntKind.u64.wrap (x - 1) + 1) = x := by
  simp only [IntKind.wrap_u64]
  omega
theorem getD_take (zs : List Int) (k i : Nat) (h : i < k) : (zs.take k).getD i 0 = zs.getD i 0 := by
  rw [List.getD_eq_getElem?_getD, List.getElem?_take, if_pos h, List.getD_eq_getElem?_getD]
theorem getD_drop (zs : List Int) (k i : Nat) : (zs.drop k).getD i 0 = zs.getD (k + i) 0 := by
  rw [List.getD_eq_getElem?_getD, List.getElem?_drop, List.getD_eq_getElem?_getD]
theorem rowAt_take {k : IntKind} {w : World} {g o : Nat} {zs : List Int} (h : RowAt k w g o zs) (m : Nat) : RowAt k w g o (zs.take m) := fun i hi => by
  rw [List.length_take] at hi
  rw [h i (by omega), List.getElem_take]
theorem rowAt_drop {k : IntKind} {w : World} {g : Nat} {zs : List Int} (h : RowAt k w g 0 zs) (m : Nat) : RowAt k w g m (zs.drop m) := fun i hi => by
  rw [List.length_drop] at hi
  have := h (m + i) (by omega)
  rw [Nat.zero_add] at this
  rw [this, List.getElem_drop]

/-- the first part's last block ends where block k begins -/
theorem cut_last (x y z : Int) (zs ys ts : List Int) (k : Nat) (hk : 0 < k) (hn : k < zs.length) (h0 : 0 ≤ x) (h1 : x < 18446744073709551616) :
    endAt (IntKind.u64.wrap (x - 1)) y z (zs.take k) (ys.take k) (ts.take k) (k - 1) = (x, y, z) := by
  unfold endAt
  rw [if_neg (by rw [List.length_take]; omega), wrap_back x h0 h1]
/-- a block of the first part ends where it did -/
theorem cut_left (l e t x y z : Int) (zs ys ts : List Int) (k b : Nat) (hn : k < zs.length) (hb : b < k) (h0 : 0 ≤ x) (h1 : x < 18446744073709551616) (hx : zs.getD k 0 = x) (hy : ys.getD k 0 = y) (hz : ts.getD k 0 = z) :
    endAt (IntKind.u64.wrap (x - 1)) y z (zs.take k) (ys.take k) (ts.take k) b = endAt l e t zs ys ts b := by
  unfold endAt
  rw [List.length_take, Nat.min_eq_left (by omega)]
  rw [if_pos (show b + 1 < zs.length by omega)]
  by_cases h : b + 1 < k
  · rw [if_pos h, getD_take _ _ _ h, getD_take _ _ _ h, getD_take _ _ _ h]
  · rw [if_neg h, wrap_back x h0 h1, show b + 1 = k from by omega, hx, hy, hz]
/-- a block of the second part ends where it did -/
theorem cut_right (l e t : Int) (zs ys ts : List Int) (k b : Nat) (hb : k ≤ b) : endAt l e t (zs.drop k) (ys.drop k) (ts.drop k) (b - k) = endAt l e t zs ys ts b := by
  unfold endAt
  rw [List.length_drop, getD_drop, getD_drop, getD_drop, show k + (b - k + 1) = b + 1 from by omega]
  by_cases h : b + 1 < zs.length
  · rw [if_pos h, if_pos (by omega)]
  · rw [if_neg h, if_neg (by omega)]
theorem i64_nat (n : Nat) (h : n ≤ 65536) : IntKind.i64.wrap (n : Int) = (n : Int) := by rw [IntKind.wrap_i64]; omega
/-- the copy's elements -/
theorem row_of_cp {k : IntKind} {H g n c : Nat} {zs : List Int} {w wx : World} (h : Cp k H zs (.slice (some ⟨g, 0, none⟩) n c) w wx) : RowAt k wx g 0 zs := by
  obtain ⟨ao, g', cap, hs, h1, _, h3, _⟩ := h
  by_cases h0 : 0 < zs.length
  · obtain ⟨rfl, rfl⟩ := h1 h0
    simp only [Value.slice.injEq, Option.some.injEq, Addr.mk.injEq, and_true] at hs
    obtain ⟨rfl, _⟩ := hs
    exact h3
  · obtain rfl : zs = [] := List.eq_nil_of_length_eq_zero (by omega)
    exact rowAt_nil _ _ _ _
end Go.Proofs.Qxb6619836a
