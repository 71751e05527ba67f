/- FnBlockEndAgreesAcrossACut (5): the main way, the block lies behind the cut. -/
import Derived.Test.Qxb6619836aCutPlain
import Derived.Deep.DeepCutAuto
import Derived.Deep.RegionHeld3
namespace Go.Proofs.Qxb6619836a
open Go.ChangeShapes Go.WideShapes Go.ChangeAt Go.RowKit

set_option maxRecDepth 100000 in
set_option maxHeartbeats 6400000 in
theorem cut_right_walk (f l s e t : Int) (b5 off5 c5 b6 off6 c6 b7 off7 c7 : Nat) (z5 z6 z7 : List Int) (k bb : Nat) (w : World) (h5 : (z5.length : Int) ≤ 16384) (r5 : Came .u64 (some ⟨b5, off5, none⟩) b5 off5 z5 w) (r6 : Came .i64 (some ⟨b6, off6, none⟩) b6 off6 z6 w) (r7 : Came .i64 (some ⟨b7, off7, none⟩) b7 off7 z7 w)
    (e6 : z6.length = z5.length) (e7 : z7.length = z5.length) (hk0 : 1 ≤ k) (hkn : k < z5.length) (hbn : bb < z5.length) (hw5 : ∀ (i : Nat) (h : i < z5.length), 0 ≤ z5[i] ∧ z5[i] < 18446744073709551616) (hbk : ¬ bb < k) :
    Calls Try.prog 5 #[.int .u64 f, .int .u64 l, .int .u64 s, .int .i64 e, .int .i64 t, .slice (some ⟨b5, off5, none⟩) z5.length c5, .slice (some ⟨b6, off6, none⟩) z5.length c6, .slice (some ⟨b7, off7, none⟩) z5.length c7, .int .i64 (k : Int), .int .i64 (bb : Int)] w fun ee w' => ee = .returned (.bool true) ∧ Below w.heap.size w w' := by
  have q26 : ∀ (w : World) (a : Option Addr) (n c n' c' : Nat), (binOp .neq 26 (.slice a n c) (.slice none n' c')).run Try.prog w = .ok (.bool !a.isNone) w := fun w a n c n' c' => run_neq_slice_nil_any w _ _ a n c n' c' Try.underlying26
  have q27 : ∀ (w : World) (a : Option Addr) (n c n' c' : Nat), (binOp .neq 27 (.slice a n c) (.slice none n' c')).run Try.prog w = .ok (.bool !a.isNone) w := fun w a n c n' c' => run_neq_slice_nil_any w _ _ a n c n' c' Try.underlying27
  have k5 := run_make_row' (P := Try.prog) 26 25 (.int .u64 0) 8 Try.underlying26 info25 rfl .i64 .i64 z5.length (by omega) (by omega)
  have k6 := run_make_row' (P := Try.prog) 27 2 (.int .i64 0) 8 Try.underlying27 info2 rfl .i64 .i64 z5.length (by omega) (by omega)
  have E6 := hide e6
  have E7 := hide e7
  obtain ⟨wa, p1, P1c, sa, ba⟩ := made_copy 26 25 .u64 Try.underlying26 info25 w.heap.size w w _ b5 off5 c5 z5 r5 (Nat.le_refl _) (Below.refl _ _)
  obtain ⟨wb, p2, P2c, sb, bb6⟩ := made_copy 27 2 .i64 Try.underlying27 info2 w.heap.size w wa _ b6 off6 c6 z6 (r6.later rfl ba) (by omega) ba
  obtain ⟨wd, p3, P3c, sd, bd7⟩ := made_copy 27 2 .i64 Try.underlying27 info2 w.heap.size w wb _ b7 off7 c7 z7 (r7.later rfl (ba.trans (bb6.mono (by omega)))) (by omega) (ba.trans (bb6.mono (by omega)))
  rw [e6] at p2
  rw [e7] at p3
  have R5 := hide (((row_of_cp P1c).below bb6 (by omega)).below bd7 (by omega))
  have R6 := hide ((row_of_cp P2c).below bd7 (by omega))
  have R7 := hide (row_of_cp P3c)
  have bl7 : Below w.heap.size w wd := (ba.trans (bb6.mono (by omega))).trans (bd7.mono (by omega))
  obtain ⟨g5, hg5⟩ : ∃ g, w.heap.size = g := ⟨_, rfl⟩
  obtain ⟨g6, hg6⟩ : ∃ g, wa.heap.size = g := ⟨_, rfl⟩
  obtain ⟨g7, hg7⟩ : ∃ g, wb.heap.size = g := ⟨_, rfl⟩
  rw [hg5] at R5 p1
  rw [hg6] at R6 p2
  rw [hg7] at R7 p3
  have n5a : g5 < wd.heap.size := by omega
  have n6a : g6 < wd.heap.size := by omega
  have n7a : g7 < wd.heap.size := by omega
  have BL := hide bl7
  clear r5 r6 r7 e6 e7 P1c P2c P3c ba bb6 bd7 bl7 sa sb sd
  obtain ⟨p, q, r, hE⟩ : ∃ p q r, endAt l e t z5 z6 z7 bb = (p, q, r) := ⟨_, _, _, rfl⟩
  have A1 := hide (zz_any f l s e t g5 0 z5.length g6 0 z5.length g7 0 z5.length z5 z6 z7 bb wd (by omega) E6.out E7.out (by omega) (by omega) (by omega) (by omega) R5.out R6.out R7.out)
  rw [hE] at A1
  have ZE := hide hE
  clear hE
  go_enter Try.func5, Try.ntmps5
  go_upto_region 25 with (first | (go_at_call 10; refine (bytes10_any _ _ _ _ _ _ _ _ _ _ _ _ _ _ _ _ _ (by omega) (by omega) (by omega)).mono ?_; rintro ee wx ⟨rfl, rfl⟩) | (go_at_call 9; refine A1.out.mono ?_; rintro ee w1 ⟨rfl, hb1⟩))
  clear p1 p2 p3 k5 k6 q26 q27 hg5 hg6 hg7
  have sz1 := hb1.size
  have Q5 := hide (R5.out.below hb1 (by omega))
  have Q6 := hide (R6.out.below hb1 (by omega))
  have Q7 := hide (R7.out.below hb1 (by omega))
  have BW := hide (BL.out.trans (hb1.mono BL.out.size))
  have x5 := Q5.out k hkn
  have x6 := Q6.out k (by rw [E6.out]; exact hkn)
  have x7 := Q7.out k (by rw [E7.out]; exact hkn)
  simp only [Nat.zero_add] at x5 x6 x7
  have GX := hide (hw5 k hkn)
  obtain ⟨x, hx⟩ : ∃ x, z5[k] = x := ⟨_, rfl⟩
  obtain ⟨y, hy⟩ : ∃ y, z6[k]'(by rw [E6.out]; exact hkn) = y := ⟨_, rfl⟩
  obtain ⟨z, hz⟩ : ∃ z, z7[k]'(by rw [E7.out]; exact hkn) = z := ⟨_, rfl⟩
  rw [hx] at x5 GX
  rw [hy] at x6
  rw [hz] at x7
  have GG : Hid (z5.getD k 0 = x ∧ z6.getD k 0 = y ∧ z7.getD k 0 = z) := by
    refine ⟨?_, ?_, ?_⟩
    · rw [List.getD_eq_getElem?_getD, List.getElem?_eq_getElem hkn]; exact hx
    · rw [List.getD_eq_getElem?_getD, List.getElem?_eq_getElem (by rw [E6.out]; exact hkn)]; exact hy
    · rw [List.getD_eq_getElem?_getD, List.getElem?_eq_getElem (by rw [E7.out]; exact hkn)]; exact hz
  clear hx hy hz hw5
  have lk5 : (z5.take k).length = k := by rw [List.length_take]; omega
  have P1 := hide (zz_any f (IntKind.u64.wrap (x - 1)) s y z g5 0 z5.length g6 0 z5.length g7 0 z5.length (z5.take k) (z6.take k) (z7.take k) (k - 1) w1.drew (by rw [lk5]; omega) (by rw [lk5, List.length_take, E6.out]; omega) (by rw [lk5, List.length_take, E7.out]; omega) (by rw [lk5]; omega) (by show g5 < w1.heap.size; omega) (by show g6 < w1.heap.size; omega) (by show g7 < w1.heap.size; omega) (rowAt_take Q5.out k) (rowAt_take Q6.out k) (rowAt_take Q7.out k))
  rw [cut_last x y z z5 z6 z7 k (by omega) hkn GX.out.1 GX.out.2, lk5] at P1
  have hk1 : (k : Int) - 1 = ((k - 1 : Nat) : Int) := by omega
  have hk1w : IntKind.i64.wrap ((k - 1 : Nat) : Int) = ((k - 1 : Nat) : Int) := i64_nat _ (by omega)
  have KP : ∀ wx, Below w1.heap.size w1.drew wx → wx.cell? ⟨g5, k, none⟩ = some (.int .u64 x) ∧ wx.cell? ⟨g6, k, none⟩ = some (.int .i64 y) ∧ wx.cell? ⟨g7, k, none⟩ = some (.int .i64 z) := fun wx hb => ⟨(hb.cell (p := ⟨g5, k, none⟩) (by show g5 < w1.heap.size; omega)).trans x5, (hb.cell (p := ⟨g6, k, none⟩) (by show g6 < w1.heap.size; omega)).trans x6, (hb.cell (p := ⟨g7, k, none⟩) (by show g7 < w1.heap.size; omega)).trans x7⟩
  have KK := hide KP
  clear KP
  have kk0 : (0 : Int) ≤ (k : Int) := Int.natCast_nonneg _
  have kk1 : (k : Int) < (z5.length : Int) := by omega
  have kk2 : (k : Int) ≤ (z5.length : Int) := by omega
  clear A1
  go_region_held3 (fun w' => w'.cell? ⟨g5, k, none⟩ = some (.int .u64 x) ∧ w'.cell? ⟨g6, k, none⟩ = some (.int .i64 y) ∧ w'.cell? ⟨g7, k, none⟩ = some (.int .i64 z))
    (first | go_keep | exact KK.out _ hb2)
    (first | (go_at_call 9; refine P1.out.mono ?_; rintro ee w2 ⟨rfl, hb2⟩))
  have hb2' : Below w1.heap.size w1 w2 := (Below.refl _ _).drew.trans hb2
  have sz2 := hb2'.size
  obtain ⟨y5, y6, y7⟩ := KK.out w2 hb2
  have U5 := hide (Q5.out.below hb2' (by omega))
  have U6 := hide (Q6.out.below hb2' (by omega))
  have U7 := hide (Q7.out.below hb2' (by omega))
  have KP2 : ∀ wx, Below w2.heap.size w2.drew wx → wx.cell? ⟨g5, k, none⟩ = some (.int .u64 x) ∧ wx.cell? ⟨g6, k, none⟩ = some (.int .i64 y) ∧ wx.cell? ⟨g7, k, none⟩ = some (.int .i64 z) := fun wx hb => ⟨(hb.cell (p := ⟨g5, k, none⟩) (by show g5 < w2.heap.size; omega)).trans y5, (hb.cell (p := ⟨g6, k, none⟩) (by show g6 < w2.heap.size; omega)).trans y6, (hb.cell (p := ⟨g7, k, none⟩) (by show g7 < w2.heap.size; omega)).trans y7⟩
  have KK2 := hide KP2
  have BW2 := hide (BW.out.trans (hb2'.mono (Nat.le_trans BL.out.size sz1)))
  clear KP2 KK P1 hk1 hk1w x5 x6 x7
  have ld5 : (z5.drop k).length = z5.length - k := List.length_drop
  have P3 := hide (zz_any x l s e t g5 k (z5.length - k) g6 k (z5.length - k) g7 k (z5.length - k) (z5.drop k) (z6.drop k) (z7.drop k) (bb - k) w2.drew (by rw [ld5]; omega) (by rw [ld5, List.length_drop, E6.out]) (by rw [ld5, List.length_drop, E7.out]) (by rw [ld5]; omega) (by show g5 < w2.heap.size; omega) (by show g6 < w2.heap.size; omega) (by show g7 < w2.heap.size; omega) (rowAt_drop U5.out k) (rowAt_drop U6.out k) (rowAt_drop U7.out k))
  rw [cut_right l e t z5 z6 z7 k bb (by omega), ZE.out, ld5] at P3
  have hbk1 : (bb : Int) - (k : Int) = ((bb - k : Nat) : Int) := by omega
  have hbk2 : IntKind.i64.wrap ((bb - k : Nat) : Int) = ((bb - k : Nat) : Int) := i64_nat _ (by omega)
  have hne : (z5.length = k) = False := by simp; omega
  go_upto_region 31 with fail
  go_region_held3 (fun w' => w'.cell? ⟨g5, k, none⟩ = some (.int .u64 x) ∧ w'.cell? ⟨g6, k, none⟩ = some (.int .i64 y) ∧ w'.cell? ⟨g7, k, none⟩ = some (.int .i64 z))
    (first | go_keep | exact KK2.out _ hb3)
    (first | (go_at_call 9; refine P3.out.mono ?_; rintro ee w3 ⟨rfl, hb3⟩))
  have hb3' : Below w2.heap.size w2 w3 := (Below.refl _ _).drew.trans hb3
  go_wp2
  go_ret
  exact ⟨rfl, BW2.out.trans (hb3'.mono (Nat.le_trans (Nat.le_trans BL.out.size sz1) sz2))⟩
end Go.Proofs.Qxb6619836a
