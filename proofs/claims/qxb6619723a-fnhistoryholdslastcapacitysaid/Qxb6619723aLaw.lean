/- FnHistoryHoldsLastCapacity (3): the laws of its make and copy; the early ways out. -/
import Derived.Test.Qxb6619723aRing
namespace Go.Proofs.Qxb6619723a
open Go.ChangeShapes Go.WideShapes Go.ChangeAt Go.RowKit

/-- a slice of floats that came in: its elements zs -/
structure FCame (ao : Option Addr) (b off : Nat) (zs : List Nat) (w : World) : Prop where
  addr : 0 < zs.length → ao = some ⟨b, off, none⟩
  lt : b < w.heap.size ∨ zs = []
  at_ : ∀ (i : Nat) (h : i < zs.length), w.cell? ⟨b, off + i, none⟩ = some (.float .f64 zs[i])
  len : zs.length ≤ maxLen

theorem run_make_lc (l c : Nat) (hlc : l ≤ c) (hc : c ≤ 65536) (w : World) :
    (Instr.makeSlice 22 (.int .i64 (l : Int)) (.int .i64 (c : Int))).run Try.prog w = .ok (.slice (some ⟨w.heap.size, 0, none⟩) l c) (w.alloc (.cells (madeCells #[.float .f64 0] c) 27)) := by
  obtain ⟨i, hi, hz, hs, hb⟩ := info_parts info27
  have hb' : (i.bytes : Int) * (c : Int) ≤ 281474976710656 := by rw [hb]; omega
  have hr := run_make (P := Try.prog) w 22 27 i _ Try.underlying22 hi hz .i64 .i64 l c (by omega) (by omega) hb' (by omega)
  simp only [Int.toNat_natCast, hs, Nat.mul_one] at hr
  exact hr

/-- 'copy(buf, est)' into the row that the call has just made -/
theorem copy_est (w : World) (c : Nat) (ao : Option Addr) (sCap : Nat) (b off : Nat) (zs : List Nat) (hlc : zs.length ≤ c) (hc : c ≤ 65536) (hC : FCame ao b off zs w) :
    ∃ w', (∀ ty, (Builtin.copy_ #[22, 22] ty #[.slice (some ⟨w.heap.size, 0, none⟩) zs.length c, .slice ao zs.length sCap]).run Try.prog (w.alloc (.cells (madeCells #[.float .f64 0] c) 27)) = .ok (goInt (zs.length : Int)) w') ∧
      w'.heap.size = w.heap.size + 1 ∧ w'.ownsRow w.heap.size 27 1 (.slice (some ⟨w.heap.size, 0, none⟩) zs.length c) zs.length (zs.map fv) ∧ Below w.heap.size w w' := by
  have hsz : (Try.prog.info? 27).map (·.size) = some 1 := by kernel_rfl
  have hnew := heap_alloc_new w (.cells (madeCells #[.float .f64 0] c) 27)
  have hb0 : Below w.heap.size w (w.alloc (.cells (madeCells #[.float .f64 0] c) 27)) := (Below.refl _ _).alloc (Nat.le_refl _) _
  by_cases h0 : zs.length = 0
  · obtain rfl : zs = [] := List.eq_nil_of_length_eq_zero h0
    refine ⟨_, fun ty => run_copy_none _ 22 22 ty 27 _ _ _ _ _ _ Try.underlying22 hsz (by simp), by simp, ⟨by simp, .inr ⟨w.heap.size, c, _, rfl, Nat.le_refl _, hnew, by simp, by unfold maxLen; omega, by simp [size_madeCells], by simp⟩⟩, hb0⟩
  · have ha := hC.addr (by omega)
    subst ha
    have hb : b < w.heap.size := by
      rcases hC.lt with h | h
      · exact h
      · subst h; simp at h0
    have hrun := fun ty => run_copy_row (P := Try.prog) (w.alloc (.cells (madeCells #[.float .f64 0] c) 27)) 22 22 ty 27 w.heap.size 0 zs.length c ⟨b, off, none⟩ zs.length sCap _ 27 (zs.map fv) Try.underlying22 hsz hnew (by simp) (by
      intro j v hj
      rw [add_plain, World.cell?_alloc_past _ _ _ hb]
      rw [List.getElem?_map] at hj
      have hjl : j < zs.length := by
        rcases Nat.lt_or_ge j zs.length with h | h
        · exact h
        · rw [List.getElem?_eq_none h] at hj; cases hj
      rw [List.getElem?_eq_getElem hjl] at hj
      simp only [Option.map_some, Option.some.injEq] at hj
      rw [hC.at_ j hjl, ← hj]; rfl) (by simp [size_madeCells]; omega) (by
      intro v hv
      obtain ⟨x, _, rfl⟩ := List.mem_map.1 hv
      rfl)
    rw [List.length_map] at hrun
    refine ⟨_, hrun, by simp [World.setRow], ⟨by simp, .inr ⟨w.heap.size, c, _, rfl, Nat.le_refl _, setRow_heap _ w.heap.size _ _ 27 _ hnew, hlc, by unfold maxLen; omega, ?_, ?_⟩⟩, below_setRow hb0 (Nat.le_refl _) _⟩
    · simp [size_madeCells]; omega
    · simp

theorem hist_start {w w' : World} {c nx : Nat} {zs : List Nat} (hz : w'.heap.size = w.heap.size + 1) (ho : w'.ownsRow w.heap.size 27 1 (.slice (some ⟨w.heap.size, 0, none⟩) zs.length c) zs.length (zs.map fv)) (hb : Below w.heap.size w w') :
    Hist w.heap.size c nx zs w (w'.alloc (.cells #[.slice (some ⟨w.heap.size, 0, none⟩) zs.length c, .int .i64 (nx : Int)] 41)) := by
  refine ⟨ho.alloc _, ?_, ?_, fun j => ?_, by simp; omega, hb.alloc (by omega) _⟩
  · rw [World.cell?_alloc_at _ _ _ _ hz.symm]; rfl
  · rw [World.cell?_alloc_at _ _ _ _ hz.symm]; rfl
  · rw [World.frozen?_alloc_at _ _ _ _ hz.symm]
end Go.Proofs.Qxb6619723a
