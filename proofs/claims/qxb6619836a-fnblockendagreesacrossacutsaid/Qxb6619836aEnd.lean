/- segmentIndex.blockEnd (13). -/
import Derived.Test.Qxb6619836aRows
import Derived.WalkKit
import Derived.ProofKit
import Derived.WalkLawsBesides
import Derived.Outline
import Derived.Deep.QuietTactic
import Derived.BigQuiet
import Derived.RegionTactic
import Derived.ChangeAlike
import Derived.WalkSmall
import Derived.Laws.CopyOwn
import Derived.WalkSpells
import Derived.Deep.OwnRows
namespace Go.Proofs.Qxb6619836a
open Go.ChangeShapes Go.WideShapes Go.ChangeAt Go.RowKit

theorem hide {p : Prop} (h : p) : Hid p := h

set_option maxHeartbeats 800000 in
theorem end_last (xb B n : Nat) (l e t : Int) (b : Nat) (w : World) (hn : n ≤ 16385) (hb : n ≤ b + 1) (hb2 : b < n) (hx : xb < w.heap.size) (c1 : w.cell? ⟨xb, 1, none⟩ = some (.int .u64 l)) (c3 : w.cell? ⟨xb, 3, none⟩ = some (.int .i64 e)) (c4 : w.cell? ⟨xb, 4, none⟩ = some (.int .i64 t))
    (c5 : w.cell? ⟨xb, 5, none⟩ = some (.slice (some ⟨B, 0, none⟩) n n)) :
    Calls Try.prog 13 #[.pointer (some ⟨xb, 0, none⟩), .int .i64 (b : Int)] w fun ee w' => ee = .returned (.agg #[.int .u64 (IntKind.u64.wrap (l + 1)), .int .i64 e, .int .i64 t]) ∧ Below w.heap.size w w' := by
  go_enter Try.func13, Try.ntmps13
  go_wp2
  go_region
  all_goals go_wp2
  all_goals exact bodyPost_ret (v := .agg #[.int .u64 (IntKind.u64.wrap (l + 1)), .int .i64 e, .int .i64 t]) (by simp [results, Try.results13, go_sem]) rfl ⟨rfl, ((Below.refl _ _).alloc (Nat.le_refl _) _).drew⟩
set_option maxHeartbeats 800000 in
theorem end_mid (xb B n : Nat) (p q r : Int) (b : Nat) (w : World) (hn : n ≤ 16385) (hb : b + 1 < n) (hx : xb < w.heap.size) (hB : B < w.heap.size)
    (c5 : w.cell? ⟨xb, 5, none⟩ = some (.slice (some ⟨B, 0, none⟩) n n)) (d0 : w.cell? ⟨B, (b + 1) * 3, none⟩ = some (.int .u64 p)) (d1 : w.cell? ⟨B, (b + 1) * 3 + 1, none⟩ = some (.int .i64 q)) (d2 : w.cell? ⟨B, (b + 1) * 3 + 2, none⟩ = some (.int .i64 r)) :
    Calls Try.prog 13 #[.pointer (some ⟨xb, 0, none⟩), .int .i64 (b : Int)] w fun ee w' => ee = .returned (.agg #[.int .u64 p, .int .i64 q, .int .i64 r]) ∧ Below w.heap.size w w' := by
  go_enter Try.func13, Try.ntmps13
  go_wp2
  exact bodyPost_ret (v := .agg #[.int .u64 p, .int .i64 q, .int .i64 r]) (by simp [results, Try.results13, go_sem]) rfl ⟨rfl, (Below.refl _ _).alloc (Nat.le_refl _) _⟩

/-- what blockEnd answers: the next block's entry, or the segment's end -/
def endAt (l e t : Int) (zs ys ts : List Int) (b : Nat) : Int × Int × Int :=
  if b + 1 < zs.length then (zs.getD (b + 1) 0, ys.getD (b + 1) 0, ts.getD (b + 1) 0) else (IntKind.u64.wrap (l + 1), e, t)

/-- the numbers zs lie in block g from o on -/
def RowAt (k : IntKind) (w : World) (g o : Nat) (zs : List Int) : Prop := ∀ (i : Nat) (h : i < zs.length), w.cell? ⟨g, o + i, none⟩ = some (.int k zs[i])
theorem RowAt.below {k : IntKind} {w w' : World} {g o : Nat} {zs : List Int} (h : RowAt k w g o zs) {B : Nat} (hb : Below B w w') (hg : g < B) : RowAt k w' g o zs := fun i hi => by
  rw [hb.cell (p := ⟨g, o + i, none⟩) hg]; exact h i hi

/-- cell j of the blocks' array: of the entries made of zs, ys, ts -/
def entC (zs ys ts : List Int) (j : Nat) : Value := if j % 3 = 0 then .int .u64 (zs.getD (j / 3) 0) else if j % 3 = 1 then .int .i64 (ys.getD (j / 3) 0) else .int .i64 (ts.getD (j / 3) 0)
def zerC (j : Nat) : Value := if j % 3 = 0 then .int .u64 0 else .int .i64 0
/-- k of the n entries are laid -/
structure Laid (B n k : Nat) (zs ys ts : List Int) (w wr : World) : Prop where
  row : wr.rowIs B 36 (n * 3) (fun j => if j < k * 3 then entC zs ys ts j else zerC j)
  size : wr.heap.size = B + 1
  bel : Below B w wr

theorem info36 : (Try.prog.info? 36).map (fun i => (i.zero, i.size, i.bytes)) = some (some (.agg #[.int .u64 0, .int .i64 0, .int .i64 0]), 3, 24) := by kernel_rfl
theorem run_make36 (n : Nat) (hn : n ≤ 16385) (w : World) :
    (Instr.makeSlice 32 (.int .i64 (n : Int)) (.int .i64 (n : Int))).run Try.prog w = .ok (.slice (some ⟨w.heap.size, 0, none⟩) n n) (w.alloc (.cells (madeCells #[.int .u64 0, .int .i64 0, .int .i64 0] (n * 3)) 36)) := by
  obtain ⟨i, hi, hz, hs, hb⟩ := info_parts info36
  have hb' : (i.bytes : Int) * (n : Int) ≤ 281474976710656 := by rw [hb]; omega
  have hr := run_make (P := Try.prog) w 32 36 i _ Try.underlying32 hi hz .i64 .i64 n n (by omega) (by omega) hb' (by omega)
  simp only [Int.toNat_natCast, hs] at hr
  exact hr
theorem pick3 (x y z : Value) (m : Nat) (hm : m < 3) : (#[x, y, z] : Array Value)[m]! = if m = 0 then x else if m = 1 then y else z := by
  match m, hm with
  | 0, _ => rfl
  | 1, _ => rfl
  | 2, _ => rfl
theorem made3 (N j : Nat) (h : j < N) : (madeCells #[.int .u64 0, .int .i64 0, .int .i64 0] N)[j]? = some (zerC j) := by
  have e : (madeCells #[Value.int .u64 0, .int .i64 0, .int .i64 0] N)[j]? = some ((#[Value.int .u64 0, .int .i64 0, .int .i64 0] : Array Value)[j % 3]!) := by
    unfold madeCells
    rw [Array.getElem?_map, Array.getElem?_eq_getElem (by simpa using h)]
    simp only [Array.getElem_range, Option.map_some]
    rfl
  rw [e, pick3 _ _ _ _ (Nat.mod_lt _ (by omega))]
  unfold zerC
  by_cases h0 : j % 3 = 0
  · rw [if_pos h0, if_pos h0]
  · rw [if_neg h0, if_neg h0]
    by_cases h1 : j % 3 = 1
    · rw [if_pos h1]
    · rw [if_neg h1]
theorem laid_start (w : World) (n : Nat) (zs ys ts : List Int) : Laid w.heap.size n 0 zs ys ts w (w.alloc (.cells (madeCells #[.int .u64 0, .int .i64 0, .int .i64 0] (n * 3)) 36)) := by
  refine ⟨?_, by simp, (Below.refl _ _).alloc (Nat.le_refl _) _⟩
  have hz := size_madeCells #[Value.int .u64 0, .int .i64 0, .int .i64 0] (n * 3)
  have hg := made3 (n * 3)
  generalize madeCells #[Value.int .u64 0, .int .i64 0, .int .i64 0] (n * 3) = c at hz hg ⊢
  have h := World.rowIs_alloc w c 36 (fun j => zerC j) (fun j hj => hg j (by omega))
  rw [hz] at h
  exact h.congr fun j _ => by rw [if_neg (by omega)]
theorem laid_step {B n k : Nat} {zs ys ts : List Int} {w wr : World} (h : Laid B n k zs ys ts w wr) (p q r : Int) (hp : zs.getD k 0 = p) (hq : ys.getD k 0 = q) (hr : ts.getD k 0 = r) :
    Laid B n (k + 1) zs ys ts w ((((wr.setCell ⟨B, k * 3, none⟩ (.int .u64 p)).setCell ⟨B, k * 3 + 1, none⟩ (.int .i64 q)).setCell ⟨B, k * 3 + 2, none⟩ (.int .i64 r)).drew) := by
  refine ⟨((((h.row.set (k * 3) (.int .u64 p)).set (k * 3 + 1) (.int .i64 q)).set (k * 3 + 2) (.int .i64 r)).drew).congr fun j hj => ?_, ?_, (((h.bel.setCell (Nat.le_refl _) _).setCell (Nat.le_refl _) _).setCell (Nat.le_refl _) _).drew⟩
  rotate_left
  · rw [show ((((wr.setCell ⟨B, k * 3, none⟩ (.int .u64 p)).setCell ⟨B, k * 3 + 1, none⟩ (.int .i64 q)).setCell ⟨B, k * 3 + 2, none⟩ (.int .i64 r)).drew).heap.size = (((wr.setCell ⟨B, k * 3, none⟩ (.int .u64 p)).setCell ⟨B, k * 3 + 1, none⟩ (.int .i64 q)).setCell ⟨B, k * 3 + 2, none⟩ (.int .i64 r)).heap.size from rfl, World.size_setCell, World.size_setCell, World.size_setCell]
    exact h.size
  by_cases e2 : j = k * 3 + 2
  · subst e2
    rw [if_pos rfl, if_pos (by omega)]
    simp only [entC]
    rw [if_neg (by omega), if_neg (by omega), show (k * 3 + 2) / 3 = k from by omega, hr]
  · rw [if_neg e2]
    by_cases e1 : j = k * 3 + 1
    · subst e1
      rw [if_pos rfl, if_pos (by omega)]
      simp only [entC]
      rw [if_neg (by omega), if_pos (by omega), show (k * 3 + 1) / 3 = k from by omega, hq]
    · rw [if_neg e1]
      by_cases e0 : j = k * 3
      · subst e0
        rw [if_pos rfl, if_pos (by omega)]
        simp only [entC]
        rw [if_pos (by omega), show (k * 3) / 3 = k from by omega, hp]
      · rw [if_neg e0]
        by_cases l : j < k * 3
        · rw [if_pos l, if_pos (by omega)]
        · rw [if_neg l, if_neg (by omega)]
end Go.Proofs.Qxb6619836a
