/- FnBlockEndKeptWhenABlockIsAppended (4). -/
import Derived.Test.Qxb6619836aPrep
import Derived.Deep.DeepCutAuto
import Derived.Deep.RegionHeld3
namespace Go.Proofs.Qxb6619836a
open Go.ChangeShapes Go.WideShapes Go.ChangeAt Go.RowKit

set_option maxRecDepth 100000 in
set_option maxHeartbeats 6400000 in
theorem kept_walk (f l s e t : Int) (a5 a6 a7 : Option Addr) (b5 off5 c5 b6 off6 c6 b7 off7 c7 : Nat) (z5 z6 z7 : List Int) (b l2 e2 t2 : Int) (w : World) (h5 : (z5.length : Int) ≤ 16384) (h6 : (z6.length : Int) ≤ 16384) (h7 : (z7.length : Int) ≤ 16384) (r5 : Came .u64 a5 b5 off5 z5 w) (r6 : Came .i64 a6 b6 off6 z6 w) (r7 : Came .i64 a7 b7 off7 z7 w)
    (m5 : a5 = none → z5 = [] ∧ c5 = 0) (m6 : a6 = none → z6 = [] ∧ c6 = 0) (m7 : a7 = none → z7 = [] ∧ c7 = 0) :
    Calls Try.prog 4 #[.int .u64 f, .int .u64 l, .int .u64 s, .int .i64 e, .int .i64 t, .slice a5 z5.length c5, .slice a6 z6.length c6, .slice a7 z7.length c7, .int .i64 b, .int .u64 l2, .int .i64 e2, .int .i64 t2] w fun ee w' => ee = .returned (.bool true) ∧ Below w.heap.size w w' := by
  have C5 := hide r5
  have C6 := hide r6
  have C7 := hide r7
  have N5 := hide m5
  have N6 := hide m6
  have N7 := hide m7
  have q26 : ∀ (w : World) (a : Option Addr) (n c n' c' : Nat), (binOp .neq 26 (.slice a n c) (.slice none n' c')).run Try.prog w = .ok (.bool !a.isNone) w := fun w a n c n' c' => run_neq_slice_nil_any w _ _ a n c n' c' Try.underlying26
  have q27 : ∀ (w : World) (a : Option Addr) (n c n' c' : Nat), (binOp .neq 27 (.slice a n c) (.slice none n' c')).run Try.prog w = .ok (.bool !a.isNone) w := fun w a n c n' c' => run_neq_slice_nil_any w _ _ a n c n' c' Try.underlying27
  have k5 := run_make_row' (P := Try.prog) 26 25 (.int .u64 0) 8 Try.underlying26 info25 rfl .i64 .i64 z5.length (by omega) (by omega)
  have k6 := run_make_row' (P := Try.prog) 27 2 (.int .i64 0) 8 Try.underlying27 info2 rfl .i64 .i64 z6.length (by omega) (by omega)
  have k7 := run_make_row' (P := Try.prog) 27 2 (.int .i64 0) 8 Try.underlying27 info2 rfl .i64 .i64 z7.length (by omega) (by omega)
  clear r5 r6 r7 m5 m6 m7
  go_enter Try.func4, Try.ntmps4
  go_upto_if 72 with (go_at_call 8; refine (bytes8_any _ _ _ _ _ _ _ _ _ _ _ _ _ _ _ _ _ _ _ (by omega) (by omega) (by omega)).mono ?_; rintro ee wx ⟨rfl, rfl⟩)
  go_cut [5, 25] (fun s _ wx => Cp .u64 w.heap.size z5 s w wx)
  case first =>
    cases a5 with
    | none =>
      obtain ⟨rfl, rfl⟩ := N5.out rfl
      go_wp2
      go_meet
      exact ⟨none, 0, 0, rfl, fun h => by simp at h, .inr rfl, rowAt_nil _ _ _ _, Nat.le_refl _, Below.refl _ _⟩
    | some ad =>
      obtain ⟨W1, hcp, hCp, hz1, hb1⟩ := made_copy 26 25 .u64 Try.underlying26 info25 w.heap.size w w (some ad) b5 off5 c5 z5 (C5.out.later rfl (Below.refl _ _)) (Nat.le_refl _) (Below.refl _ _)
      go_wp2
      go_meet
      exact hCp
  case rest =>
    clear N5 C5 k5 q26
    rename World => wa
    obtain ⟨x5, g5, p5, rfl, u5, v5, w5, z5z, bl5⟩ := hcut
    have S5 := hide (And.intro u5 (And.intro v5 w5))
    clear u5 v5 w5
    go_upto_if 81 with fail
    go_cut [6, 26] (fun s _ wx => Cp .i64 w.heap.size z6 s w wx ∧ Below wa.heap.size wa wx)
    case first =>
      cases a6 with
      | none =>
        obtain ⟨rfl, rfl⟩ := N6.out rfl
        go_wp2
        go_meet
        exact ⟨⟨none, 0, 0, rfl, fun h => by simp at h, .inr rfl, rowAt_nil _ _ _ _, z5z, bl5⟩, Below.refl _ _⟩
      | some ad =>
        obtain ⟨W1, hcp, hCp, hz1, hb1⟩ := made_copy 27 2 .i64 Try.underlying27 info2 w.heap.size w wa (some ad) b6 off6 c6 z6 (C6.out.later rfl bl5) z5z bl5
        go_wp2
        go_meet
        exact ⟨hCp, hb1⟩
    case rest =>
      clear N6 C6 k6
      rename World => wb
      obtain ⟨⟨x6, g6, p6, rfl, u6, v6, w6, z6z, bl6⟩, ab6⟩ := hcut
      have S6 := hide (And.intro u6 (And.intro v6 w6))
      clear u6 v6 w6
      go_upto_if 90 with fail
      go_cut [7, 27] (fun s _ wx => Cp .i64 w.heap.size z7 s w wx ∧ Below wb.heap.size wb wx)
      case first =>
        cases a7 with
        | none =>
          obtain ⟨rfl, rfl⟩ := N7.out rfl
          go_wp2
          go_meet
          exact ⟨⟨none, 0, 0, rfl, fun h => by simp at h, .inr rfl, rowAt_nil _ _ _ _, z6z, bl6⟩, Below.refl _ _⟩
        | some ad =>
          obtain ⟨W1, hcp, hCp, hz1, hb1⟩ := made_copy 27 2 .i64 Try.underlying27 info2 w.heap.size w wb (some ad) b7 off7 c7 z7 (C7.out.later rfl bl6) z6z bl6
          go_wp2
          go_meet
          exact ⟨hCp, hb1⟩
      case rest =>
        clear N7 C7 k7 q27
        rename World => wd
        obtain ⟨⟨x7, g7, p7, rfl, u7, v7, w7, z7z, bl7⟩, bd7⟩ := hcut
        have S7 := hide (And.intro u7 (And.intro v7 w7))
        clear u7 v7 w7
        have RET := bl7
        by_cases e6 : z6.length = z5.length
        · by_cases e7 : z7.length = z5.length
          · by_cases q0 : b < 0
            · go_wp2
              go_ret
              exact ⟨rfl, RET⟩
            by_cases q1 : (z5.length : Int) ≤ b
            · go_wp2
              go_ret
              exact ⟨rfl, RET⟩
            obtain ⟨bb, rfl⟩ : ∃ n : Nat, b = n := ⟨b.toNat, by omega⟩
            have hn : 0 < z5.length := by omega
            obtain ⟨rfl, rfl⟩ := S5.out.1 hn
            obtain ⟨rfl, rfl⟩ := S6.out.1 (by omega)
            obtain ⟨rfl, rfl⟩ := S7.out.1 (by omega)
            have sa := ab6.size
            have sb := bd7.size
            have n5a : g5 < wa.heap.size := by rcases S5.out.2.1 with h | h; exact h; subst h; simp at hn
            have n6a : g6 < wb.heap.size := by rcases S6.out.2.1 with h | h; exact h; subst h; simp at e6; omega
            have n7a : g7 < wd.heap.size := by rcases S7.out.2.1 with h | h; exact h; subst h; simp at e7; omega
            have R5 := hide ((S5.out.2.2.below ab6 n5a).below bd7 (by omega))
            have R6 := hide (S6.out.2.2.below bd7 n6a)
            have R7 := hide S7.out.2.2
            have E6 := hide e6
            have E7 := hide e7
            simp only [e6, e7]
            clear S5 S6 S7 e6 e7 ab6 bd7
            have hn1 : (z5.length : Int) - 1 = ((z5.length - 1 : Nat) : Int) := by omega
            have C1 := hide (zz_any f l s e t g5 0 z5.length g6 0 z5.length g7 0 z5.length z5 z6 z7 (z5.length - 1) wd (by omega) E6.out E7.out (by omega) (by omega) (by omega) (by omega) R5.out R6.out R7.out)
            rw [end_of_last l e t z5 z6 z7 hn] at C1
            go_upto_region 23 with (go_at_call 9; refine C1.out.mono ?_; rintro ee w1 ⟨rfl, hb1⟩)
            have sz1 := hb1.size
            have Q5 := hide (R5.out.below hb1 (by omega))
            have Q6 := hide (R6.out.below hb1 (by omega))
            have Q7 := hide (R7.out.below hb1 (by omega))
            obtain ⟨W1, W2, W3, p1, p2, p3, f5, f6, f7, hz3, hb3⟩ := prep w1 g5 g6 g7 z5.length z5.length z5.length z5 z6 z7 E6.out E7.out (by omega) (by omega) (by omega) Q5.out Q6.out Q7.out
            have ST := hide (stored E6.out E7.out (IntKind.u64.wrap (l + 1)) e t f5 f6 f7 hz3 hb3)
            have BW := hide (bl7.trans (hb1.mono z7z))
            unfold made3w at p1
            have mk5 := make_next 26 25 .u64 Try.underlying26 info25 z5.length (by omega)
            have mk6 := make_next 27 2 .i64 Try.underlying27 info2 z5.length (by omega)
            have p3' : ∀ ty, (Builtin.copy_ #[27, 27] ty #[.slice (some ⟨w1.heap.size + 1 + 1, 0, none⟩) (z5.length + 1) (z5.length + 1), .slice (some ⟨g7, 0, none⟩) z5.length z5.length]).run Try.prog W2 = .ok (goInt (z5.length : Int)) W3 := p3
            obtain ⟨ff5, i5, _⟩ := f5
            obtain ⟨ff6, i6, _⟩ := f6
            obtain ⟨ff7, i7, _⟩ := f7
            have s5 := i5.cell (i := z5.length) (by omega)
            have s6 := i6.cell (i := z5.length) (by omega)
            have s7 := i7.cell (i := z5.length) (by omega)
            have t5 := i5.frozen z5.length
            have t6 := i6.frozen z5.length
            have t7 := i7.frozen z5.length
            have s7' : W3.cell? ⟨w1.heap.size + 1 + 1, z5.length, none⟩ = some (ff7 z5.length) := s7
            have t7' : W3.frozen? ⟨w1.heap.size + 1 + 1, z5.length, none⟩ = false := t7
            obtain ⟨vv5, hv5⟩ : ∃ v, ff5 z5.length = v := ⟨_, rfl⟩
            obtain ⟨vv6, hv6⟩ : ∃ v, ff6 z5.length = v := ⟨_, rfl⟩
            obtain ⟨vv7, hv7⟩ : ∃ v, ff7 z5.length = v := ⟨_, rfl⟩
            rw [hv5] at s5
            rw [hv6] at s6
            rw [hv7] at s7 s7'
            clear hv5 hv6 hv7 i5 i6 i7 C1 hn1 bl7 RET
            go_upto_region 32 with fail
            clear p1 p2 p3 p3' mk5 mk6 s5 s6 s7 t5 t6 t7 s7' t7'
            obtain ⟨T5, T6, T7, TZ, TB⟩ := ST.out
            clear ST
            generalize ((W3.setCell ⟨w1.heap.size, z5.length, none⟩ (.int .u64 (IntKind.u64.wrap (l + 1)))).setCell ⟨w1.heap.size + 1, z5.length, none⟩ (.int .i64 e)).setCell ⟨w1.heap.size + 2, z5.length, none⟩ (.int .i64 t) = W4 at T5 T6 T7 TZ TB ⊢
            obtain ⟨p, q, r, hE⟩ : ∃ p q r, endAt l e t z5 z6 z7 bb = (p, q, r) := ⟨_, _, _, rfl⟩
            have A1 := hide (zz_any f l s e t g5 0 z5.length g6 0 z5.length g7 0 z5.length z5 z6 z7 bb W4 (by omega) E6.out E7.out (by omega) (by omega) (by omega) (by omega) (Q5.out.below TB (by omega)) (Q6.out.below TB (by omega)) (Q7.out.below TB (by omega)))
            rw [hE] at A1
            go_upto_region 33 with (go_at_call 9; refine A1.out.mono ?_; rintro ee w5 ⟨rfl, hb5⟩)
            have sz5 := hb5.size
            have len5 : (z5 ++ [IntKind.u64.wrap (l + 1)]).length = z5.length + 1 := by simp
            have A2 := hide (zz_any f l2 s e2 t2 w1.heap.size 0 (z5.length + 1) (w1.heap.size + 1) 0 (z5.length + 1) (w1.heap.size + 2) 0 (z5.length + 1) (z5 ++ [IntKind.u64.wrap (l + 1)]) (z6 ++ [e]) (z7 ++ [t]) bb w5 (by rw [len5]; omega) (by simp [E6.out]) (by simp [E7.out]) (by rw [len5]; omega) (by omega) (by omega) (by omega) (T5.below hb5 (by omega)) (T6.below hb5 (by omega)) (T7.below hb5 (by omega)))
            rw [end_kept l e t l2 e2 t2 z5 z6 z7 bb (by omega) E6.out E7.out, hE, len5] at A2
            go_upto_region 34 with (go_at_call 9; refine A2.out.mono ?_; rintro ee w6 ⟨rfl, hb6⟩)
            have sz6 := hb6.size
            have hb56 := hb5.trans (hb6.mono sz5)
            have A3 := hide (zz_any f l2 s e2 t2 w1.heap.size 0 (z5.length + 1) (w1.heap.size + 1) 0 (z5.length + 1) (w1.heap.size + 2) 0 (z5.length + 1) (z5 ++ [IntKind.u64.wrap (l + 1)]) (z6 ++ [e]) (z7 ++ [t]) z5.length w6 (by rw [len5]; omega) (by simp [E6.out]) (by simp [E7.out]) (by rw [len5]; omega) (by omega) (by omega) (by omega) (T5.below hb56 (by omega)) (T6.below hb56 (by omega)) (T7.below hb56 (by omega)))
            rw [end_of_new, len5] at A3
            have ZZ := hide hE
            clear hE A1 A2 len5
            go_wp2_with (go_at_call 9; refine A3.out.mono ?_; rintro ee w7 ⟨rfl, hb7⟩)
            go_ret
            exact ⟨rfl, ((BW.out.trans (TB.mono (by omega))).trans (hb56.mono (by omega))).trans (hb7.mono (by omega))⟩
          · have n7 : ((z7.length : Int) != (z5.length : Int)) = true := bne_iff_ne.2 (by omega)
            have n6 : ((z6.length : Int) != (z5.length : Int)) = false := by rw [e6]; simp
            clear e6
            go_wp2
            go_ret
            exact ⟨rfl, RET⟩
        · have n6 : ((z6.length : Int) != (z5.length : Int)) = true := bne_iff_ne.2 (by omega)
          go_wp2
          go_ret
          exact ⟨rfl, RET⟩
end Go.Proofs.Qxb6619836a
