/- Floats, sameF (10), zzBytes (6), ZZNewHistory (7). -/
import Derived.Test.Qxb6619723aRows
import Derived.WalkKit
import Derived.ProofKit
import Derived.WalkLawsBesides
import Derived.Outline
import Derived.Deep.QuietTactic
import Derived.BigQuiet
import Derived.RegionTactic
import Derived.ChangeAlike
import Derived.WalkSmall
import Derived.Laws.CopyOwn
import Derived.WalkSpells
namespace Go.Proofs.Qxb6619723a
open Go.ChangeShapes Go.WideShapes Go.ChangeAt Go.RowKit

theorem hide {p : Prop} (h : p) : Hid p := h
theorem ret_bool {a b : Bool} (h : a = b) : Ending.returned (.bool a) = .returned (.bool b) := by rw [h]

/-- a store of a float (the walk's own set lacks it) -/
theorem run_store_float {P : Program} {w : World} {a : Addr} {m : Mode} (k : FloatKind) (x : Nat) : (store a (.float k x) m).run P w = stored P w a (.float k x) m := run_store P w a _ m rfl

/-! ### the order of a float with itself -/
theorem order_self (d : Ieee.Datum) : d.order d = some .eq ∨ d.order d = none := by
  cases d with
  | nan => right; rfl
  | infinity s => left; simp [Ieee.Datum.order, compare, compareOfLessAndEq]
  | number s m i => left; simp [Ieee.Datum.order, compare, compareOfLessAndEq]

/-- 'x == x' of a float -/
def eqB (x : Nat) : Bool := FloatKind.f64.format.order x x == some .eq
theorem cmp_eq (x : Nat) : (FloatKind.f64.format.order x x == some .eq) = eqB x := rfl
theorem cmp_ne (x : Nat) : (FloatKind.f64.format.order x x != some .eq) = !eqB x := rfl

set_option maxHeartbeats 400000 in
theorem sameF_any (x : Nat) (w : World) :
    Calls Try.prog 10 #[.float .f64 x, .float .f64 x] w fun e w' => e = .returned (.bool true) ∧ w = w' := by
  cases h : (FloatKind.f64.format.order x x == some .eq) with
  | true =>
    go_enter Try.func10, Try.ntmps10
    go_wp2
    go_ret
    exact ⟨rfl, rfl⟩
  | false =>
    have h2 : (FloatKind.f64.format.order x x != some .eq) = true := by simp [bne, h]
    go_enter Try.func10, Try.ntmps10
    go_wp2
    go_ret
    exact ⟨rfl, rfl⟩

theorem bytes_any (a0 a3 : Option Addr) (l0 c0 l3 c3 : Nat) (a1 a2 : Int) (w : World) (h0 : (l0 : Int) ≤ 65536) (h3 : (l3 : Int) ≤ 65536) :
    Calls Try.prog 6 #[.slice a0 l0 c0, .int .i64 a1, .int .i64 a2, .slice a3 l3 c3] w fun e w' => e = .returned (.bool true) ∧ w = w' := by
  go_enter Try.func6, Try.ntmps6
  go_wp2
  go_ret
  exact ⟨rfl, rfl⟩
/-- do the two lengths pass the bound? -/
def fitB (l0 l3 : Nat) : Bool := decide (l0 ≤ 1048576) && (decide (l3 ≤ 1048576) && decide (l0 + l3 ≤ 1048576))
set_option maxHeartbeats 400000 in
theorem bytes_some (a0 a3 : Option Addr) (l0 c0 l3 c3 : Nat) (a1 a2 : Int) (w : World) (m0 : l0 ≤ maxLen) (m3 : l3 ≤ maxLen) :
    Calls Try.prog 6 #[.slice a0 l0 c0, .int .i64 a1, .int .i64 a2, .slice a3 l3 c3] w fun e w' => e = .returned (.bool (fitB l0 l3)) ∧ w = w' := by
  unfold maxLen at m0 m3
  by_cases h0 : (l0 : Int) ≤ 1048576
  · by_cases h3 : (l3 : Int) ≤ 1048576
    · by_cases h4 : (l0 : Int) + l3 ≤ 1048576
      · go_enter Try.func6, Try.ntmps6
        go_wp2
        go_ret
        exact ⟨ret_bool (by simp [fitB]; omega), rfl⟩
      · go_enter Try.func6, Try.ntmps6
        go_wp2
        go_ret
        exact ⟨ret_bool (by simp [fitB]; omega), rfl⟩
    · go_enter Try.func6, Try.ntmps6
      go_wp2
      go_ret
      exact ⟨ret_bool (by simp [fitB]; omega), rfl⟩
  · go_enter Try.func6, Try.ntmps6
    go_wp2
    go_ret
    exact ⟨ret_bool (by simp [fitB]; omega), rfl⟩

theorem new_any (ao : Option Addr) (n c : Nat) (nx : Int) (w : World) :
    Calls Try.prog 7 #[.slice ao n c, .int .i64 nx] w fun e w' => e = .returned (.pointer (some ⟨w.heap.size, 0, none⟩)) ∧ w.alloc (.cells #[.slice ao n c, .int .i64 nx] 41) = w' := by
  go_enter Try.func7, Try.ntmps7
  go_wp2
  go_ret
  exact ⟨rfl, rfl⟩
end Go.Proofs.Qxb6619723a
