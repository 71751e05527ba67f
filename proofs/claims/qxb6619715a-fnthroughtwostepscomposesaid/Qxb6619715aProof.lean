/- 'Rows.FnThroughTwoStepsComposeSaid', proved: the law's walk out of its ways, the slice of holds opened, the row. -/
import Derived.Test.Qxb6619715aTop
import Derived.Test.Qxb6619715aMain
import Derived.Test.Qxb6619715aMain2
import Derived.OpenShut
import Derived.ChangeOld
import Derived.Below
import Derived.Deep.Slices
import Derived.Lib.SmallJoins
namespace Go.Proofs.Qxb6619715a
open Go.ChangeShapes Go.WideShapes Go.ChangeAt Go.RowKit
set_option linter.unusedVariables false

theorem walk (n0 : Int) (sure : Bool) (ao : Option Addr) (b off cap : Nat) (hs : List Hd) (e1 s1 : Int) (c1 : Bool) (e2 s2 : Int) (c2 : Bool) (w : World) (hC : Came ao b off cap hs w) :
    Calls Try.prog 3 #[.int .i64 n0, .bool sure, .slice ao hs.length cap, .int .i64 e1, .int .i64 s1, .bool c1, .int .i64 e2, .int .i64 s2, .bool c2] w fun e w' => e = .returned (.bool true) ∧ Below w.heap.size w w' := by
  by_cases h1 : 16384 < hs.length
  · exact early_big n0 sure ao hs.length cap e1 s1 c1 e2 s2 c2 w h1
  by_cases h2 : n0 < 1 ∨ 16384 < n0
  · exact early_count n0 sure ao hs.length cap e1 s1 c1 e2 s2 c2 w (by omega) h2
  by_cases h3 : ¬ (0 ≤ e1 ∧ e1 < n0 ∧ 0 ≤ e2 ∧ e2 < n0) ∨ withinB hs n0 = false
  · exact early_event n0 sure ao b off cap hs e1 s1 c1 e2 s2 c2 w hC (by omega) (by omega) (by omega) h3
  have hw : withinB hs n0 = true := by
    cases h : withinB hs n0 with
    | true => rfl
    | false => exact absurd (.inr h) h3
  have he : 0 ≤ e1 ∧ e1 < n0 ∧ 0 ≤ e2 ∧ e2 < n0 := by
    by_cases h : 0 ≤ e1 ∧ e1 < n0 ∧ 0 ≤ e2 ∧ e2 < n0
    · exact h
    · exact absurd (.inl h) h3
  clear h3
  obtain ⟨n, rfl⟩ : ∃ n : Nat, n0 = n := ⟨n0.toNat, by omega⟩
  obtain ⟨x1, rfl⟩ : ∃ n : Nat, e1 = n := ⟨e1.toNat, by omega⟩
  obtain ⟨x2, rfl⟩ : ∃ n : Nat, e2 = n := ⟨e2.toNat, by omega⟩
  by_cases hne : x2 = x1
  · subst hne
    cases sure with
    | false => exact same_unsure n ao b off cap hs x2 s1 s2 c1 c2 w hC (by omega) (by omega) (by omega) (by omega) hw
    | true =>
      cases c1 with
      | true => exact same_cond n ao b off cap hs x2 s1 s2 c2 w hC (by omega) (by omega) (by omega) (by omega) hw
      | false => exact same_sure n ao b off cap hs x2 s1 s2 c2 w hC (by omega) (by omega) (by omega) (by omega) hw
  · cases sure with
    | false => exact two_unsure n ao b off cap hs x1 s1 s2 c1 c2 w hC (by omega) (by omega) (by omega) (by omega) hw x2 (by omega) hne
    | true =>
      cases c1 with
      | true => exact two_cond1 n ao b off cap hs x1 s1 s2 c2 w hC (by omega) (by omega) (by omega) (by omega) hw x2 (by omega) hne
      | false =>
        cases c2 with
        | true => exact two_cond2 n ao b off cap hs x1 s1 s2 w hC (by omega) (by omega) (by omega) (by omega) hw x2 (by omega) hne
        | false => exact two_sure n ao b off cap hs x1 s1 s2 w hC (by omega) (by omega) (by omega) (by omega) hw x2 (by omega) hne

theorem open_held {H : Type} {enc : TypeId × Value → H} {W : World} {fuel : Nat} {ao : Option Addr} {len cap : Nat} {x : DataW H × List MemPlace}
    (h : DataW.trod enc Try.prog W 0 (fun _ => true) true fuel 22 [.slice ao len cap] = some x) : ∃ (b off : Nat) (hs : List Hd), len = hs.length ∧ Came ao b off cap hs W := by
  rcases Go.Deep.open_slice Try.underlying22 h with ⟨hcs, _⟩ | ⟨a, len', cap', m, n, D, Pl, hcs, _, hl, hm, hmm, _, hx⟩
  · simp only [List.cons.injEq, Value.slice.injEq, and_true] at hcs
    obtain ⟨rfl, rfl, rfl⟩ := hcs
    exact ⟨0, 0, [], rfl, ⟨fun h => by simp at h, fun _ => ⟨rfl, rfl⟩, .inr rfl, fun i hi => by simp at hi⟩⟩
  · simp only [List.cons.injEq, Value.slice.injEq, and_true] at hcs
    obtain ⟨rfl, rfl, rfl⟩ := hcs
    simp only [if_true] at hmm
    subst hmm
    have ce : Try.prog.cellsOf 64 = 4 := by kernel_rfl
    have c3 : Try.prog.cellsOf 3 = 1 := by kernel_rfl
    have each : ∀ i, i < len → ∃ q : Hd, W.cell? (a.add (i * 4)) = some (.int .i64 q.X) ∧ W.cell? (a.add (i * 4 + 1)) = some (.int .i64 q.Y) ∧ W.cell? (a.add (i * 4 + 2)) = some (.int .i64 q.L) ∧ W.cell? (a.add (i * 4 + 3)) = some (.int .i64 q.S) := by
      intro i hi
      obtain ⟨cs', h1, h2⟩ := hx i (by omega)
      rw [ce] at h1
      obtain ⟨_, hlen, hcell⟩ := World.cells?_some h1
      obtain ⟨y0, y1, y2, y3, k, _, _, t0, t1, t2, t3⟩ := Go.Joins.trod_struct4 Try.underlying64 h2
      match cs', hlen with
      | [v0, v1, v2, v3], _ =>
        simp [c3] at t0 t1 t2 t3
        obtain ⟨x0, e0, _, _⟩ := DataW.trod_int Try.underlying3 t0
        obtain ⟨x1, e1, _, _⟩ := DataW.trod_int Try.underlying3 t1
        obtain ⟨x2, e2, _, _⟩ := DataW.trod_int Try.underlying3 t2
        obtain ⟨x3, e3, _, _⟩ := DataW.trod_int Try.underlying3 t3
        simp at e0 e1 e2 e3
        subst e0 e1 e2 e3
        have g0 := hcell 0 (by omega)
        have g1 := hcell 1 (by omega)
        have g2 := hcell 2 (by omega)
        have g3 := hcell 3 (by omega)
        rw [Go.Deep.add_add] at g0 g1 g2 g3
        exact ⟨⟨x0, x1, x2, x3⟩, by simpa using g0, by simpa using g1, by simpa using g2, by simpa using g3⟩
    have inh : Inhabited Hd := ⟨⟨0, 0, 0, 0⟩⟩
    obtain ⟨q, hq⟩ := Go.Deep.choose_lt each
    obtain ⟨ab, af, sp⟩ := a
    refine ⟨ab, af, (List.range len).map q, by simp, ⟨fun h0 => ?_, fun h0 => (by cases h0), ?_, fun i hi => ?_⟩⟩
    · have := (hq 0 (by simpa using h0)).1
      have hs : sp = none := by simpa [Addr.add] using World.cell?_spot this
      rw [hs]
    · by_cases h0 : 0 < len
      · left
        exact World.block_lt_of_cell? W _ (hq 0 h0).1
      · right
        have : len = 0 := by omega
        subst this; rfl
    · have hi' : i < len := by simpa using hi
      obtain ⟨g0, g1, g2, g3⟩ := hq i hi'
      have hs : sp = none := by simpa [Addr.add] using World.cell?_spot (hq 0 (by omega)).1
      subst hs
      rw [add_plain] at g0 g1 g2 g3
      simp only [List.getElem_map, List.getElem_range]
      exact ⟨g0, g1, g2, g3⟩

theorem own : ownKnob Try.prog.godebug = none := by kernel_rfl
theorem laidOut : laidOutB Try.prog = true := by kernel_rfl

set_option maxRecDepth 100000 in
theorem lifted (os : Os) (started : os.Started) (H : Type) (enc : TypeId × Value → H) :
    ReturnsInHanded {} Try.checked os 3 .any (Rows.fnThroughTwoStepsComposeSpec.pre6 enc Try.prog Try.f3 Rows.fnThroughTwoStepsComposeRow.domain false) (Rows.fnThroughTwoStepsComposeSpec.post enc Try.prog Try.f3 false true false false) := by
  refine returnsInHanded_of_change (C := Try.checked) own started (by kernel_rfl) Try.func3
    (ChangeSpec.witness6 (enc := enc) (C := Try.checked) false ⟨#[], #[.int .i64 0, .bool false, .slice none 0 0, .int .i64 0, .int .i64 0, .bool false, .int .i64 0, .int .i64 0, .bool false], []⟩ 8 (by kernel_rfl) (by kernel_rfl) (by kernel_rfl) (by kernel_rfl)) ?_
  intro W base args ds gs before hval0 hW hcnd _
  have hval : ∀ (j : Nat) t v, Try.f3.params[j]? = some t → args[j]? = some v → Value.okWide Try.prog W .any base t v := hval0
  have hW' := hW
  obtain ⟨p, q, hA0, hV, rfl, hfz, hnd⟩ := hW
  have hA : DataW.TrodAll enc Try.prog W 0 (fun _ => true) true Try.f3.params.toList args.toList ds p := hA0
  rw [Try.params3] at hA hval
  obtain ⟨v0, vs0, d0, ds0, p0, q0, hargs, rfl, rfl, h0, r0⟩ := trodAll_cons hA
  obtain ⟨v1, vs1, d1, ds1, p1, q1, rfl, rfl, rfl, h1, r1⟩ := trodAll_cons r0
  obtain ⟨v2, vs2, d2, ds2, p2, q2, rfl, rfl, rfl, h2, r2⟩ := trodAll_cons r1
  obtain ⟨v3, vs3, d3, ds3, p3, q3, rfl, rfl, rfl, h3, r3⟩ := trodAll_cons r2
  obtain ⟨v4, vs4, d4, ds4, p4, q4, rfl, rfl, rfl, h4, r4⟩ := trodAll_cons r3
  obtain ⟨v5, vs5, d5, ds5, p5, q5, rfl, rfl, rfl, h5, r5⟩ := trodAll_cons r4
  obtain ⟨v6, vs6, d6, ds6, p6, q6, rfl, rfl, rfl, h6, r6⟩ := trodAll_cons r5
  obtain ⟨v7, vs7, d7, ds7, p7, q7, rfl, rfl, rfl, h7, r7⟩ := trodAll_cons r6
  obtain ⟨v8, vs8, d8, ds8, p8, q8, rfl, rfl, rfl, h8, r8⟩ := trodAll_cons r7
  obtain ⟨rfl, rfl, rfl⟩ := trodAll_nil r8
  obtain rfl : args = #[v0, v1, v2, v3, v4, v5, v6, v7, v8] := by cases args; simp_all
  obtain ⟨rfl, rfl⟩ := trodVars_none hV
  obtain ⟨a0, rfl, rfl, rfl, w0⟩ := open_int Try.underlying3 (hval 0 3 v0 rfl rfl) h0
  obtain ⟨a1, rfl, rfl, rfl⟩ := open_bool Try.underlying4 (hval 1 4 v1 rfl rfl) h1
  obtain ⟨a2, len2, cap2, rfl⟩ := okWide_slice Try.underlying22 (hval 2 22 v2 rfl rfl)
  have k2 := h2
  have lt2 : ∀ x ∈ p2, x.block < W.heap.size := by obtain ⟨m, hm⟩ := k2; exact DataW.trod_lt m _ _ _ hm
  obtain ⟨b2, off2, z2, rfl, w2⟩ : ∃ (b off : Nat) (hs : List Hd), len2 = hs.length ∧ Came a2 b off cap2 hs W := by
    obtain ⟨fuel, hf⟩ := h2
    exact open_held (by simpa [Value.cells] using hf)
  obtain ⟨a3, rfl, rfl, rfl, w3⟩ := open_int Try.underlying3 (hval 3 3 v3 rfl rfl) h3
  obtain ⟨a4, rfl, rfl, rfl, w4⟩ := open_int Try.underlying3 (hval 4 3 v4 rfl rfl) h4
  obtain ⟨a5, rfl, rfl, rfl⟩ := open_bool Try.underlying4 (hval 5 4 v5 rfl rfl) h5
  obtain ⟨a6, rfl, rfl, rfl, w6⟩ := open_int Try.underlying3 (hval 6 3 v6 rfl rfl) h6
  obtain ⟨a7, rfl, rfl, rfl, w7⟩ := open_int Try.underlying3 (hval 7 3 v7 rfl rfl) h7
  obtain ⟨a8, rfl, rfl, rfl⟩ := open_bool Try.underlying4 (hval 8 4 v8 rfl rfl) h8
  clear hA0 hval0
  refine (walk a0 a1 a2 b2 off2 cap2 z2 a3 a4 a5 a6 a7 a8 W w2).mono fun e W' ⟨he, bel⟩ => ?_
  subst he
  exact ⟨_, rfl, _, _, _, [], _, [], hW', trodAll_mk1 (shut_bool Try.underlying4 _), (trodAll_cons_mk (shut_int Try.underlying3 w0) (trodAll_cons_mk (shut_bool Try.underlying4 a1) (trodAll_cons_mk (Below.trod laidOut (by kernel_rfl) (of_decide_eq_true (by kernel_rfl)) k2 bel lt2) (trodAll_cons_mk (shut_int Try.underlying3 w3) (trodAll_cons_mk (shut_int Try.underlying3 w4) (trodAll_cons_mk (shut_bool Try.underlying4 a5) (trodAll_cons_mk (shut_int Try.underlying3 w6) (trodAll_cons_mk (shut_int Try.underlying3 w7) (trodAll_cons_mk (shut_bool Try.underlying4 a8) trodAll_mk0))))))))), rfl, bel.frame _, fun h => by cases h⟩

theorem over : Rows.fnThroughTwoStepsComposeRow.holds Try.pinned (OpenSpec.ofChange Rows.fnThroughTwoStepsComposeSpec) :=
  OpenClaim.holds_of_wide 3 Try.f3 rfl rfl rfl rfl rfl rfl rfl ⟨rfl, rfl, rfl, rfl, rfl⟩ rfl rfl rfl rfl rfl (by kernel_rfl) Try.func3 (by kernel_rfl)
    (of_decide_eq_true (by kernel_rfl)) (by unfold Func.isWrapper; first | (rw [if_pos (by decide +kernel)]; kernel_rfl) | (rw [if_neg (by decide +kernel)]; exact ⟨rfl, rfl⟩))
    (fun os started H enc _ => lifted os started H enc)

theorem through_two_steps : Rows.FnThroughTwoStepsComposeSaid := over
end Go.Proofs.Qxb6619715a
