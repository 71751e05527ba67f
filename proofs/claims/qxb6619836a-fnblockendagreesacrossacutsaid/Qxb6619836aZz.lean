/- ZZblockEnd (9). -/
import Derived.Test.Qxb6619836aEnd
namespace Go.Proofs.Qxb6619836a
open Go.ChangeShapes Go.WideShapes Go.ChangeAt Go.RowKit

theorem laid_cells {B n : Nat} {zs ys ts : List Int} {w wr : World} (h : Laid B n n zs ys ts w wr) (i : Nat) (hi : i < n) :
    wr.cell? ⟨B, i * 3, none⟩ = some (.int .u64 (zs.getD i 0)) ∧ wr.cell? ⟨B, i * 3 + 1, none⟩ = some (.int .i64 (ys.getD i 0)) ∧ wr.cell? ⟨B, i * 3 + 2, none⟩ = some (.int .i64 (ts.getD i 0)) := by
  refine ⟨?_, ?_, ?_⟩
  · rw [h.row.cell (i := i * 3) (by omega)]
    simp only [entC]
    rw [if_pos (by omega), if_pos (by omega), show i * 3 / 3 = i from by omega]
  · rw [h.row.cell (i := i * 3 + 1) (by omega)]
    simp only [entC]
    rw [if_pos (by omega), if_neg (by omega), if_pos (by omega), show (i * 3 + 1) / 3 = i from by omega]
  · rw [h.row.cell (i := i * 3 + 2) (by omega)]
    simp only [entC]
    rw [if_pos (by omega), if_neg (by omega), if_neg (by omega), show (i * 3 + 2) / 3 = i from by omega]

theorem bcell {W w1 : World} (hb : Below W.heap.size W w1) : (∀ b o, b < W.heap.size → w1.cell? ⟨b, o, none⟩ = W.cell? ⟨b, o, none⟩) ∧ (∀ b o, b < W.heap.size → w1.frozen? ⟨b, o, none⟩ = W.frozen? ⟨b, o, none⟩) :=
  ⟨fun b o h => hb.cell (p := ⟨b, o, none⟩) h, fun b o h => hb.frozen (p := ⟨b, o, none⟩) h⟩

/-- blockEnd, called on the index that has just been laid -/
theorem end_any {n : Nat} {zs ys ts : List Int} {w wr : World} (f l s e t : Int) (b : Nat) (h : Laid w.heap.size n n zs ys ts w wr) (hz : zs.length = n) (hn : n ≤ 16385) (hb : b < n) :
    Calls Try.prog 13 #[.pointer (some ⟨w.heap.size + 1, 0, none⟩), .int .i64 (b : Int)] (wr.alloc (.cells #[.int .u64 f, .int .u64 l, .int .u64 s, .int .i64 e, .int .i64 t, .slice (some ⟨w.heap.size, 0, none⟩) n n] 39))
      fun ee w' => ee = .returned (.agg #[.int .u64 (endAt l e t zs ys ts b).1, .int .i64 (endAt l e t zs ys ts b).2.1, .int .i64 (endAt l e t zs ys ts b).2.2]) ∧ Below (w.heap.size + 2) (wr.alloc (.cells #[.int .u64 f, .int .u64 l, .int .u64 s, .int .i64 e, .int .i64 t, .slice (some ⟨w.heap.size, 0, none⟩) n n] 39)) w' := by
  have hs := h.size
  have c := fun i => World.cell?_alloc_at (w := wr) #[.int .u64 f, .int .u64 l, .int .u64 s, .int .i64 e, .int .i64 t, .slice (some ⟨w.heap.size, 0, none⟩) n n] 39 (w.heap.size + 1) i hs.symm
  have hz2 : (wr.alloc (.cells #[.int .u64 f, .int .u64 l, .int .u64 s, .int .i64 e, .int .i64 t, .slice (some ⟨w.heap.size, 0, none⟩) n n] 39)).heap.size = w.heap.size + 2 := by simp [hs]
  unfold endAt
  by_cases hh : b + 1 < n
  · rw [if_pos (by omega)]
    obtain ⟨d0, d1, d2⟩ := laid_cells h (b + 1) hh
    have past := fun o => World.cell?_alloc_past (w := wr) (.cells #[.int .u64 f, .int .u64 l, .int .u64 s, .int .i64 e, .int .i64 t, .slice (some ⟨w.heap.size, 0, none⟩) n n] 39) w.heap.size o (by omega)
    have := end_mid (w.heap.size + 1) w.heap.size n _ _ _ b _ hn hh (by rw [hz2]; omega) (by rw [hz2]; omega) ((c 5).trans rfl) ((past _).trans d0) ((past _).trans d1) ((past _).trans d2)
    rw [hz2] at this
    exact this
  · rw [if_neg (by omega)]
    have := end_last (w.heap.size + 1) w.heap.size n l e t b _ hn (by omega) hb (by rw [hz2]; omega) ((c 1).trans rfl) ((c 3).trans rfl) ((c 4).trans rfl) ((c 5).trans rfl)
    rw [hz2] at this
    exact this

set_option maxRecDepth 100000 in
set_option maxHeartbeats 1600000 in
theorem zz_any (f l s e t : Int) (g5 o5 c5 g6 o6 c6 g7 o7 c7 : Nat) (zs ys ts : List Int) (b : Nat) (w : World) (hz : zs.length ≤ 16385) (hy : ys.length = zs.length) (ht : ts.length = zs.length) (hb : b < zs.length)
    (n5 : g5 < w.heap.size) (n6 : g6 < w.heap.size) (n7 : g7 < w.heap.size) (r5 : RowAt .u64 w g5 o5 zs) (r6 : RowAt .i64 w g6 o6 ys) (r7 : RowAt .i64 w g7 o7 ts) :
    Calls Try.prog 9 #[.int .u64 f, .int .u64 l, .int .u64 s, .int .i64 e, .int .i64 t, .slice (some ⟨g5, o5, none⟩) zs.length c5, .slice (some ⟨g6, o6, none⟩) zs.length c6, .slice (some ⟨g7, o7, none⟩) zs.length c7, .int .i64 (b : Int)] w
      fun ee w' => ee = .returned (.tuple #[.int .u64 (endAt l e t zs ys ts b).1, .int .i64 (endAt l e t zs ys ts b).2.1, .int .i64 (endAt l e t zs ys ts b).2.2]) ∧ Below w.heap.size w w' := by
  have hmk := run_make36 zs.length hz
  have HYT := hide (And.intro hy ht)
  have R := hide (And.intro r5 (And.intro r6 r7))
  clear r5 r6 r7 hy ht
  go_enter Try.func9, Try.ntmps9
  go_wp2
  go_loopw [22] (fun i wr => ∃ k : Nat, k ≤ zs.length ∧ i = .int .i64 k ∧ Laid w.heap.size zs.length k zs ys ts w wr) (fun i _ => zs.length - (intOf i).toNat)
  case atStart => exact ⟨0, Nat.zero_le _, rfl, laid_start _ _ _ _ _⟩
  case round =>
    obtain ⟨k, hk, rfl, hL⟩ := hrel
    by_cases hlt : k < zs.length
    · have hsz := hL.size
      have x5 := (hL.bel.cell (p := ⟨g5, o5 + k, none⟩) n5).trans (R.out.1 k hlt)
      have x6 := (hL.bel.cell (p := ⟨g6, o6 + k, none⟩) n6).trans (R.out.2.1 k (by rw [HYT.out.1]; exact hlt))
      have x7 := (hL.bel.cell (p := ⟨g7, o7 + k, none⟩) n7).trans (R.out.2.2 k (by rw [HYT.out.2]; exact hlt))
      have y0 := hL.row.cell (i := k * 3) (by omega)
      have y1 := hL.row.cell (i := k * 3 + 1) (by omega)
      have y2 := hL.row.cell (i := k * 3 + 2) (by omega)
      rw [if_neg (by omega)] at y0 y1 y2
      have fz := hL.row.frozen
      obtain ⟨p, hp⟩ : ∃ p, zs[k] = p := ⟨_, rfl⟩
      obtain ⟨q, hq⟩ : ∃ q, ys[k]'(by rw [HYT.out.1]; exact hlt) = q := ⟨_, rfl⟩
      obtain ⟨r, hr⟩ : ∃ r, ts[k]'(by rw [HYT.out.2]; exact hlt) = r := ⟨_, rfl⟩
      rw [hp] at x5
      rw [hq] at x6
      rw [hr] at x7
      have G : Hid (zs.getD k 0 = p ∧ ys.getD k 0 = q ∧ ts.getD k 0 = r) := by
        refine ⟨?_, ?_, ?_⟩
        · rw [List.getD_eq_getElem?_getD, List.getElem?_eq_getElem hlt]; exact hp
        · rw [List.getD_eq_getElem?_getD, List.getElem?_eq_getElem (by rw [HYT.out.1]; exact hlt)]; exact hq
        · rw [List.getD_eq_getElem?_getD, List.getElem?_eq_getElem (by rw [HYT.out.2]; exact hlt)]; exact hr
      have hk0 : (0 : Int) ≤ (k : Int) := Int.natCast_nonneg _
      have hk1 : (k : Int) < (zs.length : Int) := by omega
      clear hp hq hr
      go_wp2
      go_region
      all_goals
        go_wp2
        go_roundw
        case rel => exact ⟨k + 1, by omega, by go_num, laid_step hL p q r G.out.1 G.out.2.1 G.out.2.2⟩
        case measure => simp [intOf]; omega
    · obtain rfl : k = zs.length := by omega
      have hsz := hL.size
      have E := hide (end_any f l s e t b hL rfl hz hb)
      go_wp2_with (go_at_call 13; refine E.out.mono ?_; rintro ee wx ⟨rfl, hbx⟩)
      have hbz := hbx.size
      simp only [World.size_alloc, hsz] at hbz
      go_quiet (fail)
      go_wp2
      go_ret3
      exact ⟨rfl, below_drewN (((hL.bel.alloc (by omega) _).trans (hbx.mono (by omega))).alloc (by omega) _) nq⟩
end Go.Proofs.Qxb6619836a
