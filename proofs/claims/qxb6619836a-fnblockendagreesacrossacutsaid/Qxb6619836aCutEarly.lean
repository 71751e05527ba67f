/- FnBlockEndAgreesAcrossACut (5): the early ways out. -/
import Derived.Test.Qxb6619836aCutPlain
import Derived.Deep.DeepCutAuto
import Derived.Deep.RegionHeld3
namespace Go.Proofs.Qxb6619836a
open Go.ChangeShapes Go.WideShapes Go.ChangeAt Go.RowKit

set_option maxRecDepth 100000 in
set_option maxHeartbeats 6400000 in
theorem cut_early (f l s e t : Int) (a5 a6 a7 : Option Addr) (b5 off5 c5 b6 off6 c6 b7 off7 c7 : Nat) (z5 z6 z7 : List Int) (kx b : Int) (w : World) (h5 : (z5.length : Int) ≤ 16384) (h6 : (z6.length : Int) ≤ 16384) (h7 : (z7.length : Int) ≤ 16384) (r5 : Came .u64 a5 b5 off5 z5 w) (r6 : Came .i64 a6 b6 off6 z6 w) (r7 : Came .i64 a7 b7 off7 z7 w)
    (m5 : a5 = none → z5 = [] ∧ c5 = 0) (m6 : a6 = none → z6 = [] ∧ c6 = 0) (m7 : a7 = none → z7 = [] ∧ c7 = 0)
    (hbad : ¬ (z6.length = z5.length ∧ z7.length = z5.length ∧ 1 ≤ kx ∧ kx < z5.length ∧ 0 ≤ b ∧ b < z5.length)) :
    Calls Try.prog 5 #[.int .u64 f, .int .u64 l, .int .u64 s, .int .i64 e, .int .i64 t, .slice a5 z5.length c5, .slice a6 z6.length c6, .slice a7 z7.length c7, .int .i64 kx, .int .i64 b] w fun ee w' => ee = .returned (.bool true) ∧ Below w.heap.size w w' := by
  have C5 := hide r5
  have C6 := hide r6
  have C7 := hide r7
  have N5 := hide m5
  have N6 := hide m6
  have N7 := hide m7
  have q26 : ∀ (w : World) (a : Option Addr) (n c n' c' : Nat), (binOp .neq 26 (.slice a n c) (.slice none n' c')).run Try.prog w = .ok (.bool !a.isNone) w := fun w a n c n' c' => run_neq_slice_nil_any w _ _ a n c n' c' Try.underlying26
  have q27 : ∀ (w : World) (a : Option Addr) (n c n' c' : Nat), (binOp .neq 27 (.slice a n c) (.slice none n' c')).run Try.prog w = .ok (.bool !a.isNone) w := fun w a n c n' c' => run_neq_slice_nil_any w _ _ a n c n' c' Try.underlying27
  have k5 := run_make_row' (P := Try.prog) 26 25 (.int .u64 0) 8 Try.underlying26 info25 rfl .i64 .i64 z5.length (by omega) (by omega)
  have k6 := run_make_row' (P := Try.prog) 27 2 (.int .i64 0) 8 Try.underlying27 info2 rfl .i64 .i64 z6.length (by omega) (by omega)
  have k7 := run_make_row' (P := Try.prog) 27 2 (.int .i64 0) 8 Try.underlying27 info2 rfl .i64 .i64 z7.length (by omega) (by omega)
  clear r5 r6 r7 m5 m6 m7
  go_enter Try.func5, Try.ntmps5
  go_upto_if 63 with (go_at_call 10; refine (bytes10_any _ _ _ _ _ _ _ _ _ _ _ _ _ _ _ _ _ (by omega) (by omega) (by omega)).mono ?_; rintro ee wx ⟨rfl, rfl⟩)
  go_cut [5, 21] (fun s _ wx => Cp .u64 w.heap.size z5 s w wx)
  case first =>
    cases a5 with
    | none =>
      obtain ⟨rfl, rfl⟩ := N5.out rfl
      go_wp2
      go_meet
      exact ⟨none, 0, 0, rfl, fun h => by simp at h, .inr rfl, rowAt_nil _ _ _ _, Nat.le_refl _, Below.refl _ _⟩
    | some ad =>
      obtain ⟨W1, hcp, hCp, hz1, hb1⟩ := made_copy 26 25 .u64 Try.underlying26 info25 w.heap.size w w (some ad) b5 off5 c5 z5 (C5.out.later rfl (Below.refl _ _)) (Nat.le_refl _) (Below.refl _ _)
      go_wp2
      go_meet
      exact hCp
  case rest =>
    clear N5 C5 k5 q26
    rename World => wa
    obtain ⟨x5, g5, p5, rfl, u5, v5, w5, z5z, bl5⟩ := hcut
    have S5 := hide (And.intro u5 (And.intro v5 w5))
    clear u5 v5 w5
    go_upto_if 72 with fail
    go_cut [6, 22] (fun s _ wx => Cp .i64 w.heap.size z6 s w wx ∧ Below wa.heap.size wa wx)
    case first =>
      cases a6 with
      | none =>
        obtain ⟨rfl, rfl⟩ := N6.out rfl
        go_wp2
        go_meet
        exact ⟨⟨none, 0, 0, rfl, fun h => by simp at h, .inr rfl, rowAt_nil _ _ _ _, z5z, bl5⟩, Below.refl _ _⟩
      | some ad =>
        obtain ⟨W1, hcp, hCp, hz1, hb1⟩ := made_copy 27 2 .i64 Try.underlying27 info2 w.heap.size w wa (some ad) b6 off6 c6 z6 (C6.out.later rfl bl5) z5z bl5
        go_wp2
        go_meet
        exact ⟨hCp, hb1⟩
    case rest =>
      clear N6 C6 k6
      rename World => wb
      obtain ⟨⟨x6, g6, p6, rfl, u6, v6, w6, z6z, bl6⟩, ab6⟩ := hcut
      have S6 := hide (And.intro u6 (And.intro v6 w6))
      clear u6 v6 w6
      go_upto_if 81 with fail
      go_cut [7, 23] (fun s _ wx => Cp .i64 w.heap.size z7 s w wx ∧ Below wb.heap.size wb wx)
      case first =>
        cases a7 with
        | none =>
          obtain ⟨rfl, rfl⟩ := N7.out rfl
          go_wp2
          go_meet
          exact ⟨⟨none, 0, 0, rfl, fun h => by simp at h, .inr rfl, rowAt_nil _ _ _ _, z6z, bl6⟩, Below.refl _ _⟩
        | some ad =>
          obtain ⟨W1, hcp, hCp, hz1, hb1⟩ := made_copy 27 2 .i64 Try.underlying27 info2 w.heap.size w wb (some ad) b7 off7 c7 z7 (C7.out.later rfl bl6) z6z bl6
          go_wp2
          go_meet
          exact ⟨hCp, hb1⟩
      case rest =>
        clear N7 C7 k7 q27
        rename World => wd
        obtain ⟨⟨x7, g7, p7, rfl, u7, v7, w7, z7z, bl7⟩, bd7⟩ := hcut
        have S7 := hide (And.intro u7 (And.intro v7 w7))
        clear u7 v7 w7
        have RET := bl7
        by_cases e6 : z6.length = z5.length
        · by_cases e7 : z7.length = z5.length
          · have n6 : ((z6.length : Int) != (z5.length : Int)) = false := by rw [e6]; simp
            have n7 : ((z7.length : Int) != (z5.length : Int)) = false := by rw [e7]; simp
            by_cases q0 : kx < 1
            · clear hbad e6 e7
              go_wp2
              go_ret
              exact ⟨rfl, RET⟩
            by_cases q1 : (z5.length : Int) ≤ kx
            · clear hbad e6 e7
              go_wp2
              go_ret
              exact ⟨rfl, RET⟩
            by_cases q2 : b < 0
            · clear hbad e6 e7
              go_wp2
              go_ret
              exact ⟨rfl, RET⟩
            by_cases q3 : (z5.length : Int) ≤ b
            · clear hbad e6 e7
              go_wp2
              go_ret
              exact ⟨rfl, RET⟩
            exact absurd ⟨e6, e7, by omega, by omega, by omega, by omega⟩ hbad
          · have n7 : ((z7.length : Int) != (z5.length : Int)) = true := bne_iff_ne.2 (by omega)
            have n6 : ((z6.length : Int) != (z5.length : Int)) = false := by rw [e6]; simp
            clear e6
            go_wp2
            go_ret
            exact ⟨rfl, RET⟩
        · have n6 : ((z6.length : Int) != (z5.length : Int)) = true := bne_iff_ne.2 (by omega)
          go_wp2
          go_ret
          exact ⟨rfl, RET⟩
end Go.Proofs.Qxb6619836a
