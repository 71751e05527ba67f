/- The small callees of FnThroughTwoStepsCompose: zzBytes (5), holdsWithin (6). -/
import Derived.Test.Qxb6619715aRows
import Derived.WalkKit
import Derived.ProofKit
import Derived.Outline
namespace Go.Proofs.Qxb6619715a
open Go.ChangeShapes Go.WideShapes Go.ChangeAt Go.RowKit

theorem bytes_any (a0 : Int) (a1 : Bool) (ao : Option Addr) (len cap : Nat) (a3 a4 : Int) (a5 : Bool) (a6 a7 : Int) (a8 : Bool) (w : World) (hl : (len : Int) ≤ 1048576) :
    Calls Try.prog 5 #[.int .i64 a0, .bool a1, .slice ao len cap, .int .i64 a3, .int .i64 a4, .bool a5, .int .i64 a6, .int .i64 a7, .bool a8] w fun e w' => e = .returned (.bool true) ∧ w = w' := by
  go_enter Try.func5, Try.ntmps5
  go_wp2
  go_ret
  exact ⟨rfl, rfl⟩
theorem bytes_over (a0 : Int) (a1 : Bool) (ao : Option Addr) (len cap : Nat) (a3 a4 : Int) (a5 : Bool) (a6 a7 : Int) (a8 : Bool) (w : World) (hl : 1048576 < (len : Int)) :
    Calls Try.prog 5 #[.int .i64 a0, .bool a1, .slice ao len cap, .int .i64 a3, .int .i64 a4, .bool a5, .int .i64 a6, .int .i64 a7, .bool a8] w fun e w' => e = .returned (.bool false) ∧ w = w' := by
  go_enter Try.func5, Try.ntmps5
  go_wp2
  go_ret
  exact ⟨rfl, rfl⟩

/-- a hold as plain data -/
structure Hd where
  X : Int
  Y : Int
  L : Int
  S : Int

/-- the holds lie in the memory at block b from off on -/
def HeldAt (w : World) (b off : Nat) (hs : List Hd) : Prop :=
  ∀ (i : Nat) (h : i < hs.length), w.cell? ⟨b, off + i * 4, none⟩ = some (.int .i64 hs[i].X) ∧ w.cell? ⟨b, off + i * 4 + 1, none⟩ = some (.int .i64 hs[i].Y) ∧
    w.cell? ⟨b, off + i * 4 + 2, none⟩ = some (.int .i64 hs[i].L) ∧ w.cell? ⟨b, off + i * 4 + 3, none⟩ = some (.int .i64 hs[i].S)

/-- every hold names two of the n places -/
def withinB (hs : List Hd) (n : Int) : Bool := hs.all fun h => decide (0 ≤ h.X ∧ h.X < n ∧ 0 ≤ h.Y ∧ h.Y < n)
theorem within_yes {hs : List Hd} {n : Int} (h : ∀ (i : Nat) (h : i < hs.length), 0 ≤ hs[i].X ∧ hs[i].X < n ∧ 0 ≤ hs[i].Y ∧ hs[i].Y < n) : true = withinB hs n := by
  symm
  unfold withinB
  rw [List.all_eq_true]
  intro x hx
  obtain ⟨i, hi, rfl⟩ := List.getElem_of_mem hx
  simpa using h i hi
theorem within_all {hs : List Hd} {n : Int} (h : withinB hs n = true) (i : Nat) (hi : i < hs.length) : 0 ≤ hs[i].X ∧ hs[i].X < n ∧ 0 ≤ hs[i].Y ∧ hs[i].Y < n := by
  unfold withinB at h
  rw [List.all_eq_true] at h
  simpa using h hs[i] (List.getElem_mem hi)
theorem within_no {hs : List Hd} {n : Int} (i : Nat) (hi : i < hs.length) (h : ¬ (0 ≤ hs[i].X ∧ hs[i].X < n ∧ 0 ≤ hs[i].Y ∧ hs[i].Y < n)) : false = withinB hs n := by
  cases e : withinB hs n with
  | false => rfl
  | true => exact absurd (within_all e i hi) h
theorem ret_bool {a b : Bool} (h : a = b) : Ending.returned (.bool a) = .returned (.bool b) := by rw [h]

set_option maxHeartbeats 400000 in
theorem within_any (ao : Option Addr) (b off cap : Nat) (hs : List Hd) (n : Int) (w : World) (hao : 0 < hs.length → ao = some ⟨b, off, none⟩) (hl : hs.length ≤ 1000000) (hH : HeldAt w b off hs) :
    Calls Try.prog 6 #[.slice ao hs.length cap, .int .i64 n] w fun e w' => e = .returned (.bool (withinB hs n)) ∧ w = w' := by
  go_enter Try.func6, Try.ntmps6
  go_wp2
  go_loop [5] (fun i => ∃ k : Nat, k ≤ hs.length ∧ i = .int .i64 k ∧ ∀ (i : Nat) (h : i < hs.length), i < k → 0 ≤ hs[i].X ∧ hs[i].X < n ∧ 0 ≤ hs[i].Y ∧ hs[i].Y < n) (fun i => hs.length - (intOf i).toNat)
  case atStart => exact ⟨0, Nat.zero_le _, rfl, fun _ _ h => absurd h (Nat.not_lt_zero _)⟩
  case round =>
    obtain ⟨k, hk, rfl, hin⟩ := hrel
    have HI : Hid (∀ (i : Nat) (h : i < hs.length), i < k → 0 ≤ hs[i].X ∧ hs[i].X < n ∧ 0 ≤ hs[i].Y ∧ hs[i].Y < n) := hin
    clear hin
    by_cases hlt : k < hs.length
    · have hao' := hao (by omega)
      subst hao'
      obtain ⟨c0, c1, _, _⟩ := hH k hlt
      obtain ⟨x, hx⟩ : ∃ x, x = hs[k].X := ⟨_, rfl⟩
      obtain ⟨y, hy⟩ : ∃ y, y = hs[k].Y := ⟨_, rfl⟩
      rw [← hx] at c0
      rw [← hy] at c1
      have HX : Hid (x = hs[k].X ∧ y = hs[k].Y) := ⟨hx, hy⟩
      clear hx hy hH hao
      by_cases t1 : x < 0
      · go_wp2
        go_ret
        exact ⟨ret_bool (within_no k hlt (by rw [← HX.out.1, ← HX.out.2]; omega)), rfl⟩
      · by_cases t2 : n ≤ x
        · go_wp2
          go_ret
          exact ⟨ret_bool (within_no k hlt (by rw [← HX.out.1, ← HX.out.2]; omega)), rfl⟩
        · by_cases t3 : y < 0
          · go_wp2
            go_ret
            exact ⟨ret_bool (within_no k hlt (by rw [← HX.out.1, ← HX.out.2]; omega)), rfl⟩
          · by_cases t4 : n ≤ y
            · go_wp2
              go_ret
              exact ⟨ret_bool (within_no k hlt (by rw [← HX.out.1, ← HX.out.2]; omega)), rfl⟩
            · go_wp2
              go_round
              case rel =>
                refine ⟨k + 1, by omega, by go_num, fun i h hik => ?_⟩
                by_cases e : i = k
                · subst e
                  have := HX.out
                  rw [← this.1, ← this.2]
                  omega
                · exact HI.out i h (by omega)
              case measure => simp [intOf]; omega
    · go_wp2
      go_ret
      exact ⟨ret_bool (within_yes fun i h => HI.out i h (by omega)), rfl⟩
end Go.Proofs.Qxb6619715a
