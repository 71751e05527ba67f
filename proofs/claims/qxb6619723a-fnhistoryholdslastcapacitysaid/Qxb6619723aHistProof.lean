/- 'Rows.FnHistoryHoldsLastCapacitySaid', proved: the walk out of its ways, the slices of floats opened, the row. -/
import Derived.Test.Qxb6619723aEarly
import Derived.Test.Qxb6619723aMain
import Derived.Test.Qxb6619723aMain2
import Derived.Test.Qxb6619723aMain3
import Derived.OpenShut
import Derived.ChangeOld
import Derived.Below
import Derived.Deep.Slices
namespace Go.Proofs.Qxb6619723a.hist
open Go.ChangeShapes Go.WideShapes Go.ChangeAt Go.RowKit
set_option linter.unusedVariables false

theorem walk (a0 a3 : Option Addr) (b0 o0 b3 o3 k0 k3 : Nat) (es xs : List Nat) (c nx : Int) (w : World) (h0 : FCame a0 b0 o0 es w) (h3 : FCame a3 b3 o3 xs w) :
    Calls Try.prog 3 #[.slice a0 es.length k0, .int .i64 c, .int .i64 nx, .slice a3 xs.length k3] w fun e w' => e = .returned (.bool true) ∧ Below w.heap.size w w' := by
  by_cases q0 : 65536 < es.length ∨ 65536 < xs.length
  · exact early_big a0 a3 es.length k0 xs.length k3 c nx w h0.len h3.len q0
  by_cases q1 : 0 ≤ c ∧ c ≤ 65536 ∧ es.length ≤ c ∧ (es.length < c ∨ c = 0 → nx = 0) ∧ (es.length = c → 0 < c → 0 ≤ nx ∧ nx < c)
  · obtain ⟨c0, c1, c2, c3, c4⟩ := q1
    obtain ⟨m, rfl⟩ : ∃ m : Nat, c = m := ⟨c.toNat, by omega⟩
    by_cases hl : es.length < m
    · obtain rfl := c3 (.inl (by omega))
      exact main_part a0 a3 b0 o0 b3 o3 k0 k3 es xs m w h0 h3 (by omega) (by omega) (by omega) hl
    · by_cases hm : m = 0
      · obtain rfl := c3 (.inr (by omega))
        subst hm
        obtain rfl : es = [] := List.eq_nil_of_length_eq_zero (by omega)
        exact main_zero a0 a3 b0 o0 b3 o3 k0 k3 xs w h0 h3 (by omega)
      · obtain rfl : m = es.length := by omega
        obtain ⟨n0, n1⟩ := c4 rfl (by omega)
        obtain ⟨n, rfl⟩ : ∃ n : Nat, nx = n := ⟨nx.toNat, by omega⟩
        exact main_full a0 a3 b0 o0 b3 o3 k0 k3 es xs n w h0 h3 (by omega) (by omega) (by omega) (by omega)
  · exact early_rest a0 a3 es.length k0 xs.length k3 c nx w (by omega) (by omega) q1

theorem trod_f64 {H : Type} {enc : TypeId × Value → H} {W : World} {fuel : Nat} {v : Value} {x : DataW H × List MemPlace} (h : DataW.trod enc Try.prog W 0 (fun _ => true) true fuel 27 [v] = some x) : ∃ b, v = .float .f64 b := by
  cases fuel with
  | zero => simp [DataW.trod] at h
  | succ n =>
    unfold DataW.trod at h
    rw [Try.underlying27] at h
    split at h <;> simp_all

theorem open_floats {H : Type} {enc : TypeId × Value → H} {W : World} {fuel : Nat} {ao : Option Addr} {len cap : Nat} {x : DataW H × List MemPlace}
    (h : DataW.trod enc Try.prog W 0 (fun _ => true) true fuel 22 [.slice ao len cap] = some x) : ∃ (b off : Nat) (zs : List Nat), len = zs.length ∧ FCame ao b off zs W := by
  rcases Go.Deep.open_slice1 Try.underlying22 (by kernel_rfl) h with ⟨hcs, _⟩ | ⟨a, len', cap', m, n, V, D, Pl, hcs, _, hl, hm, hmm, _, hx⟩
  · simp only [List.cons.injEq, Value.slice.injEq, and_true] at hcs
    obtain ⟨rfl, rfl, rfl⟩ := hcs
    exact ⟨0, 0, [], rfl, ⟨fun h => by simp at h, .inr rfl, fun i hi => by simp at hi, by simp⟩⟩
  · simp only [List.cons.injEq, Value.slice.injEq, and_true] at hcs
    obtain ⟨rfl, rfl, rfl⟩ := hcs
    simp only [if_true] at hmm
    subst hmm
    have each : ∀ i, i < len → ∃ q : Nat, W.cell? (a.add i) = some (.float .f64 q) := by
      intro i hi
      obtain ⟨h1, h2⟩ := hx i (by omega)
      obtain ⟨b, hb⟩ := trod_f64 h2
      exact ⟨b, by rw [h1, hb]⟩
    obtain ⟨q, hq⟩ := Go.Deep.choose_lt each
    obtain ⟨ab, af, sp⟩ := a
    refine ⟨ab, af, (List.range len).map q, by simp, ⟨fun h0 => ?_, ?_, fun i hi => ?_, by simp; omega⟩⟩
    · have := hq 0 (by simpa using h0)
      have hs : sp = none := by simpa [Addr.add] using World.cell?_spot this
      rw [hs]
    · by_cases h0 : 0 < len
      · left
        exact World.block_lt_of_cell? W _ (hq 0 h0)
      · right
        have : len = 0 := by omega
        subst this; rfl
    · have hi' : i < len := by simpa using hi
      have g0 := hq i hi'
      have hs : sp = none := by simpa [Addr.add] using World.cell?_spot (hq 0 (by omega))
      subst hs
      rw [add_plain] at g0
      simp only [List.getElem_map, List.getElem_range]
      exact g0

theorem own : ownKnob Try.prog.godebug = none := by kernel_rfl
theorem laidOut : laidOutB Try.prog = true := by kernel_rfl

set_option maxRecDepth 100000 in
theorem lifted (os : Os) (started : os.Started) (H : Type) (enc : TypeId × Value → H) :
    ReturnsInHanded {} Try.checked os 3 .any (Rows.fnHistoryHoldsLastCapacitySpec.pre6 enc Try.prog Try.f3 Rows.fnHistoryHoldsLastCapacityRow.domain false) (Rows.fnHistoryHoldsLastCapacitySpec.post enc Try.prog Try.f3 false true false false) := by
  refine returnsInHanded_of_change (C := Try.checked) own started (by kernel_rfl) Try.func3
    (ChangeSpec.witness6 (enc := enc) (C := Try.checked) false ⟨#[], #[.slice none 0 0, .int .i64 0, .int .i64 0, .slice none 0 0], []⟩ 8 (by kernel_rfl) (by kernel_rfl) (by kernel_rfl) (by kernel_rfl)) ?_
  intro W base args ds gs before hval0 hW hcnd _
  have hval : ∀ (j : Nat) t v, Try.f3.params[j]? = some t → args[j]? = some v → Value.okWide Try.prog W .any base t v := hval0
  have hW' := hW
  obtain ⟨p, q, hA0, hV, rfl, hfz, hnd⟩ := hW
  have hA : DataW.TrodAll enc Try.prog W 0 (fun _ => true) true Try.f3.params.toList args.toList ds p := hA0
  rw [Try.params3] at hA hval
  obtain ⟨v0, vs0, d0, ds0, p0, q0, hargs, rfl, rfl, h0, r0⟩ := trodAll_cons hA
  obtain ⟨v1, vs1, d1, ds1, p1, q1, rfl, rfl, rfl, h1, r1⟩ := trodAll_cons r0
  obtain ⟨v2, vs2, d2, ds2, p2, q2, rfl, rfl, rfl, h2, r2⟩ := trodAll_cons r1
  obtain ⟨v3, vs3, d3, ds3, p3, q3, rfl, rfl, rfl, h3, r3⟩ := trodAll_cons r2
  obtain ⟨rfl, rfl, rfl⟩ := trodAll_nil r3
  obtain rfl : args = #[v0, v1, v2, v3] := by cases args; simp_all
  obtain ⟨rfl, rfl⟩ := trodVars_none hV
  obtain ⟨a0, len0, cap0, rfl⟩ := okWide_slice Try.underlying22 (hval 0 22 v0 rfl rfl)
  have k0 := h0
  have lt0 : ∀ x ∈ p0, x.block < W.heap.size := by obtain ⟨m, hm⟩ := k0; exact DataW.trod_lt m _ _ _ hm
  obtain ⟨b0, off0, z0, rfl, w0⟩ : ∃ (b off : Nat) (zs : List Nat), len0 = zs.length ∧ FCame a0 b off zs W := by
    obtain ⟨fuel, hf⟩ := h0
    exact open_floats (by simpa [Value.cells] using hf)
  obtain ⟨a1, rfl, rfl, rfl, w1⟩ := open_int Try.underlying3 (hval 1 3 v1 rfl rfl) h1
  obtain ⟨a2, rfl, rfl, rfl, w2⟩ := open_int Try.underlying3 (hval 2 3 v2 rfl rfl) h2
  obtain ⟨a3, len3, cap3, rfl⟩ := okWide_slice Try.underlying22 (hval 3 22 v3 rfl rfl)
  have k3 := h3
  have lt3 : ∀ x ∈ p3, x.block < W.heap.size := by obtain ⟨m, hm⟩ := k3; exact DataW.trod_lt m _ _ _ hm
  obtain ⟨b3, off3, z3, rfl, w3⟩ : ∃ (b off : Nat) (zs : List Nat), len3 = zs.length ∧ FCame a3 b off zs W := by
    obtain ⟨fuel, hf⟩ := h3
    exact open_floats (by simpa [Value.cells] using hf)
  clear hA0 hval0
  refine (walk a0 a3 b0 off0 b3 off3 cap0 cap3 z0 z3 a1 a2 W w0 w3).mono fun e W' ⟨he, bel⟩ => ?_
  subst he
  exact ⟨_, rfl, _, _, _, [], _, [], hW', trodAll_mk1 (shut_bool Try.underlying4 _), (trodAll_cons_mk (Below.trod laidOut (by kernel_rfl) (of_decide_eq_true (by kernel_rfl)) k0 bel lt0) (trodAll_cons_mk (shut_int Try.underlying3 w1) (trodAll_cons_mk (shut_int Try.underlying3 w2) (trodAll_cons_mk (Below.trod laidOut (by kernel_rfl) (of_decide_eq_true (by kernel_rfl)) k3 bel lt3) trodAll_mk0)))), rfl, bel.frame _, fun h => by cases h⟩

theorem over : Rows.fnHistoryHoldsLastCapacityRow.holds Try.pinned (OpenSpec.ofChange Rows.fnHistoryHoldsLastCapacitySpec) :=
  OpenClaim.holds_of_wide 3 Try.f3 rfl rfl rfl rfl rfl rfl rfl ⟨rfl, rfl, rfl, rfl, rfl⟩ rfl rfl rfl rfl rfl (by kernel_rfl) Try.func3 (by kernel_rfl)
    (of_decide_eq_true (by kernel_rfl)) (by unfold Func.isWrapper; first | (rw [if_pos (by decide +kernel)]; kernel_rfl) | (rw [if_neg (by decide +kernel)]; exact ⟨rfl, rfl⟩))
    (fun os started H enc _ => lifted os started H enc)
end Go.Proofs.Qxb6619723a.hist
namespace Go.Proofs.Qxb6619723a
theorem history_holds_last : Rows.FnHistoryHoldsLastCapacitySaid := hist.over
end Go.Proofs.Qxb6619723a
