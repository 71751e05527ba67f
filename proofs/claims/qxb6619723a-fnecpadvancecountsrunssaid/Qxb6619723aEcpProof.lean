/- 'Rows.FnECPAdvanceCountsRunsSaid', proved: the walk out of its ways, the slice of bools and the pointer to a float opened, the row. -/
import Derived.Test.Qxb6619723aEcpEarly
import Derived.Test.Qxb6619723aEcpA
import Derived.Test.Qxb6619723aEcpB
import Derived.Test.Qxb6619723aEcpC
import Derived.Test.Qxb6619723aEcpD
import Derived.Test.Qxb6619723aEcpE
import Derived.OpenShut
import Derived.ChangeOld
import Derived.Below
import Derived.Deep.Slices
namespace Go.Proofs.Qxb6619723a.ecp
open Go.ChangeShapes Go.WideShapes Go.ChangeAt Go.RowKit
set_option linter.unusedVariables false

/-- a pointer to a float that came in -/
def PCame (po : Option Addr) (w : World) : Prop := po = none ∨ ∃ (cb co v : Nat), po = some ⟨cb, co, none⟩ ∧ cb < w.heap.size ∧ w.cell? ⟨cb, co, none⟩ = some (.float .f64 v)

theorem walk (id ld ph u met : Int) (det : Bool) (ao : Option Addr) (b off cap : Nat) (ms : List Bool) (po : Option Addr) (w : World) (wph : (Lit.int .i64 ph).wf = true) (wu : (Lit.int .i64 u).wf = true) (hB : BCame ao b off ms w) (hP : PCame po w) :
    Calls Try.prog 4 #[.int .i64 id, .int .i64 ld, .int .i64 ph, .int .i64 u, .int .i64 met, .bool det, .slice ao ms.length cap, .pointer po] w fun e w' => e = .returned (.bool true) ∧ Below w.heap.size w w' := by
  obtain ⟨p0, p1⟩ := bounds_i64 wph
  obtain ⟨u0, u1⟩ := bounds_i64 wu
  by_cases q0 : 65536 < ms.length
  · exact ecp_big id ld ph u met det ao ms.length cap po w q0
  cases det with
  | true =>
    rcases hP with rfl | ⟨cb, co, v, rfl, h1, h2⟩
    · exact ecp_det0 id ld ph u met ao b off cap ms w hB (by omega) p0 (by omega)
    · exact ecp_det1 id ld ph u met ao b off cap ms w hB (by omega) cb co v h1 h2 p0 (by omega)
  | false =>
    by_cases q1 : okM u met
    · obtain ⟨m0, m1⟩ := q1
      by_cases mz : met = 0
      · subst mz
        rcases hP with rfl | ⟨cb, co, v, rfl, h1, h2⟩
        · exact ecp_run0z id ld ph u ao b off cap ms w hB (by omega) p0 (by omega) u0 (by omega)
        · exact ecp_run1z id ld ph u ao b off cap ms w hB (by omega) cb co v h1 h2 p0 (by omega) u0 (by omega)
      · rcases hP with rfl | ⟨cb, co, v, rfl, h1, h2⟩
        · exact ecp_run0p id ld ph u met ao b off cap ms w hB (by omega) p0 (by omega) u0 (by omega) (by omega) (by omega)
        · exact ecp_run1p id ld ph u met ao b off cap ms w hB (by omega) cb co v h1 h2 p0 (by omega) u0 (by omega) (by omega) (by omega)
    · exact ecp_bad id ld ph u met ao ms.length cap po w (by omega) q1

theorem open_bools {H : Type} {enc : TypeId × Value → H} {W : World} {fuel : Nat} {ao : Option Addr} {len cap : Nat} {x : DataW H × List MemPlace}
    (h : DataW.trod enc Try.prog W 0 (fun _ => true) true fuel 31 [.slice ao len cap] = some x) : ∃ (b off : Nat) (zs : List Bool), len = zs.length ∧ BCame ao b off zs W := by
  rcases Go.Deep.open_slice1 Try.underlying31 (by kernel_rfl) h with ⟨hcs, _⟩ | ⟨a, len', cap', m, n, V, D, Pl, hcs, _, hl, hm, hmm, _, hx⟩
  · simp only [List.cons.injEq, Value.slice.injEq, and_true] at hcs
    obtain ⟨rfl, rfl, rfl⟩ := hcs
    exact ⟨0, 0, [], rfl, ⟨fun h => by simp at h, .inr rfl, fun i hi => by simp at hi, by simp⟩⟩
  · simp only [List.cons.injEq, Value.slice.injEq, and_true] at hcs
    obtain ⟨rfl, rfl, rfl⟩ := hcs
    simp only [if_true] at hmm
    subst hmm
    have each : ∀ i, i < len → ∃ q : Bool, W.cell? (a.add i) = some (.bool q) := by
      intro i hi
      obtain ⟨h1, h2⟩ := hx i (by omega)
      obtain ⟨b, hb, _⟩ := DataW.trod_bool Try.underlying4 h2
      simp only [List.cons.injEq, and_true] at hb
      exact ⟨b, by rw [h1, hb]⟩
    obtain ⟨q, hq⟩ := Go.Deep.choose_lt each
    obtain ⟨ab, af, sp⟩ := a
    refine ⟨ab, af, (List.range len).map q, by simp, ⟨fun h0 => ?_, ?_, fun i hi => ?_, by simp; omega⟩⟩
    · have := hq 0 (by simpa using h0)
      have hs : sp = none := by simpa [Addr.add] using World.cell?_spot this
      rw [hs]
    · by_cases h0 : 0 < len
      · left
        exact World.block_lt_of_cell? W _ (hq 0 h0)
      · right
        have : len = 0 := by omega
        subst this; rfl
    · have hi' : i < len := by simpa using hi
      have g0 := hq i hi'
      have hs : sp = none := by simpa [Addr.add] using World.cell?_spot (hq 0 (by omega))
      subst hs
      rw [add_plain] at g0
      simp only [List.getElem_map, List.getElem_range]
      exact g0

theorem trod_f64 {H : Type} {enc : TypeId × Value → H} {W : World} {fuel : Nat} {cs : List Value} {x : DataW H × List MemPlace} (h : DataW.trod enc Try.prog W 0 (fun _ => true) true fuel 27 cs = some x) : ∃ b, cs = [.float .f64 b] := by
  cases fuel with
  | zero => simp [DataW.trod] at h
  | succ n =>
    unfold DataW.trod at h
    rw [Try.underlying27] at h
    split at h <;> simp_all

theorem open_pf {H : Type} {enc : TypeId × Value → H} {W : World} {fuel : Nat} {po : Option Addr} {x : DataW H × List MemPlace} (h : DataW.trod enc Try.prog W 0 (fun _ => true) true fuel 32 [.pointer po] = some x) : PCame po W := by
  rcases DataW.trod_pointer Try.underlying32 h with ⟨hcs, _⟩ | ⟨a, cs', y, n, _, hcs, _, hc, hy⟩
  · simp only [List.cons.injEq, Value.pointer.injEq, and_true] at hcs
    exact .inl hcs
  · simp only [List.cons.injEq, Value.pointer.injEq, and_true] at hcs
    subst hcs
    have c27 : Try.prog.cellsOf 27 = 1 := by kernel_rfl
    rw [c27] at hc
    obtain ⟨_, hlen, hcell⟩ := World.cells?_some hc
    obtain ⟨b, rfl⟩ := trod_f64 hy
    have g := hcell 0 (by omega)
    simp only [Addr.add, List.getElem?_cons_zero, if_true] at g
    obtain ⟨ab, af, sp⟩ := a
    have hs : sp = none := World.cell?_spot g
    subst hs
    exact .inr ⟨ab, af, b, rfl, World.block_lt_of_cell? W _ g, g⟩

theorem own : ownKnob Try.prog.godebug = none := by kernel_rfl
theorem laidOut : laidOutB Try.prog = true := by kernel_rfl

set_option maxRecDepth 100000 in
theorem lifted (os : Os) (started : os.Started) (H : Type) (enc : TypeId × Value → H) :
    ReturnsInHanded {} Try.checked os 4 .any (Rows.fnECPAdvanceCountsRunsSpec.pre6 enc Try.prog Try.f4 Rows.fnECPAdvanceCountsRunsRow.domain false) (Rows.fnECPAdvanceCountsRunsSpec.post enc Try.prog Try.f4 false true false false) := by
  refine returnsInHanded_of_change (C := Try.checked) own started (by kernel_rfl) Try.func4
    (ChangeSpec.witness6 (enc := enc) (C := Try.checked) false ⟨#[], #[.int .i64 0, .int .i64 0, .int .i64 0, .int .i64 0, .int .i64 0, .bool false, .slice none 0 0, .pointer none], []⟩ 8 (by kernel_rfl) (by kernel_rfl) (by kernel_rfl) (by kernel_rfl)) ?_
  intro W base args ds gs before hval0 hW hcnd _
  have hval : ∀ (j : Nat) t v, Try.f4.params[j]? = some t → args[j]? = some v → Value.okWide Try.prog W .any base t v := hval0
  have hW' := hW
  obtain ⟨p, q, hA0, hV, rfl, hfz, hnd⟩ := hW
  have hA : DataW.TrodAll enc Try.prog W 0 (fun _ => true) true Try.f4.params.toList args.toList ds p := hA0
  rw [Try.params4] at hA hval
  obtain ⟨v0, vs0, d0, ds0, p0, q0, hargs, rfl, rfl, h0, r0⟩ := trodAll_cons hA
  obtain ⟨v1, vs1, d1, ds1, p1, q1, rfl, rfl, rfl, h1, r1⟩ := trodAll_cons r0
  obtain ⟨v2, vs2, d2, ds2, p2, q2, rfl, rfl, rfl, h2, r2⟩ := trodAll_cons r1
  obtain ⟨v3, vs3, d3, ds3, p3, q3, rfl, rfl, rfl, h3, r3⟩ := trodAll_cons r2
  obtain ⟨v4, vs4, d4, ds4, p4, q4, rfl, rfl, rfl, h4, r4⟩ := trodAll_cons r3
  obtain ⟨v5, vs5, d5, ds5, p5, q5, rfl, rfl, rfl, h5, r5⟩ := trodAll_cons r4
  obtain ⟨v6, vs6, d6, ds6, p6, q6, rfl, rfl, rfl, h6, r6⟩ := trodAll_cons r5
  obtain ⟨v7, vs7, d7, ds7, p7, q7, rfl, rfl, rfl, h7, r7⟩ := trodAll_cons r6
  obtain ⟨rfl, rfl, rfl⟩ := trodAll_nil r7
  obtain rfl : args = #[v0, v1, v2, v3, v4, v5, v6, v7] := by cases args; simp_all
  obtain ⟨rfl, rfl⟩ := trodVars_none hV
  obtain ⟨a0, rfl, rfl, rfl, w0⟩ := open_int Try.underlying3 (hval 0 3 v0 rfl rfl) h0
  obtain ⟨a1, rfl, rfl, rfl, w1⟩ := open_int Try.underlying3 (hval 1 3 v1 rfl rfl) h1
  obtain ⟨a2, rfl, rfl, rfl, w2⟩ := open_int Try.underlying3 (hval 2 3 v2 rfl rfl) h2
  obtain ⟨a3, rfl, rfl, rfl, w3⟩ := open_int Try.underlying3 (hval 3 3 v3 rfl rfl) h3
  obtain ⟨a4, rfl, rfl, rfl, w4⟩ := open_int Try.underlying3 (hval 4 3 v4 rfl rfl) h4
  obtain ⟨a5, rfl, rfl, rfl⟩ := open_bool Try.underlying4 (hval 5 4 v5 rfl rfl) h5
  obtain ⟨a6, len6, cap6, rfl⟩ := okWide_slice Try.underlying31 (hval 6 31 v6 rfl rfl)
  have k6 := h6
  have lt6 : ∀ x ∈ p6, x.block < W.heap.size := by obtain ⟨m, hm⟩ := k6; exact DataW.trod_lt m _ _ _ hm
  obtain ⟨b6, off6, z6, rfl, w6⟩ : ∃ (b off : Nat) (zs : List Bool), len6 = zs.length ∧ BCame a6 b off zs W := by
    obtain ⟨fuel, hf⟩ := h6
    exact open_bools (by simpa [Value.cells] using hf)
  obtain ⟨a7, rfl⟩ := okWide_pointer Try.underlying32 (hval 7 32 v7 rfl rfl)
  have k7 := h7
  have lt7 : ∀ x ∈ p7, x.block < W.heap.size := by obtain ⟨m, hm⟩ := k7; exact DataW.trod_lt m _ _ _ hm
  have w7 : PCame a7 W := by
    obtain ⟨fuel, hf⟩ := h7
    exact open_pf (by simpa [Value.cells] using hf)
  clear hA0 hval0
  refine (walk a0 a1 a2 a3 a4 a5 a6 b6 off6 cap6 z6 a7 W w2 w3 w6 w7).mono fun e W' ⟨he, bel⟩ => ?_
  subst he
  exact ⟨_, rfl, _, _, _, [], _, [], hW', trodAll_mk1 (shut_bool Try.underlying4 _), (trodAll_cons_mk (shut_int Try.underlying3 w0) (trodAll_cons_mk (shut_int Try.underlying3 w1) (trodAll_cons_mk (shut_int Try.underlying3 w2) (trodAll_cons_mk (shut_int Try.underlying3 w3) (trodAll_cons_mk (shut_int Try.underlying3 w4) (trodAll_cons_mk (shut_bool Try.underlying4 a5) (trodAll_cons_mk (Below.trod laidOut (by kernel_rfl) (of_decide_eq_true (by kernel_rfl)) k6 bel lt6) (trodAll_cons_mk (Below.trod laidOut (by kernel_rfl) (of_decide_eq_true (by kernel_rfl)) k7 bel lt7) trodAll_mk0)))))))), rfl, bel.frame _, fun h => by cases h⟩

theorem over : Rows.fnECPAdvanceCountsRunsRow.holds Try.pinned (OpenSpec.ofChange Rows.fnECPAdvanceCountsRunsSpec) :=
  OpenClaim.holds_of_wide 4 Try.f4 rfl rfl rfl rfl rfl rfl rfl ⟨rfl, rfl, rfl, rfl, rfl⟩ rfl rfl rfl rfl rfl (by kernel_rfl) Try.func4 (by kernel_rfl)
    (of_decide_eq_true (by kernel_rfl)) (by unfold Func.isWrapper; first | (rw [if_pos (by decide +kernel)]; kernel_rfl) | (rw [if_neg (by decide +kernel)]; exact ⟨rfl, rfl⟩))
    (fun os started H enc _ => lifted os started H enc)
end Go.Proofs.Qxb6619723a.ecp
namespace Go.Proofs.Qxb6619723a
theorem ecp_counts_runs : Rows.FnECPAdvanceCountsRunsSaid := ecp.over
end Go.Proofs.Qxb6619723a
