/- The callees of both laws: ZZhexDigit (5), digitChar (6), upperOf (7), swapCase (8), each by its contract over a plain function. -/
import Derived.Test.Qxb6619605aRows
import Derived.WalkKit
import Derived.ProofKit
namespace Go.Proofs.Qxb6619605a
open Go.ChangeShapes Go.WideShapes Go.ChangeAt Go.RowKit

def hexV (c : Int) : Int := if 48 ≤ c ∧ c ≤ 57 then c - 48 else if 97 ≤ c ∧ c ≤ 102 then c - 97 + 10 else if 65 ≤ c ∧ c ≤ 70 then c - 65 + 10 else 0
def hexB (c : Int) : Bool := if 48 ≤ c ∧ c ≤ 57 then true else if 97 ≤ c ∧ c ≤ 102 then true else if 65 ≤ c ∧ c ≤ 70 then true else false
def dch (d : Int) : Int := if d < 10 then 48 + d else 97 + d - 10
def upp (b : Int) : Int := if 97 ≤ b ∧ b ≤ 122 then b - 32 else b
def swp (b : Int) : Int := if 97 ≤ b ∧ b ≤ 122 then b - 32 else if 65 ≤ b ∧ b ≤ 90 then b + 32 else b

theorem hexV_rng (c : Int) : 0 ≤ hexV c ∧ hexV c ≤ 15 := by
  unfold hexV
  repeat' split
  all_goals omega

theorem hex_any (c : Int) (w : World) (h0 : 0 ≤ c) (h1 : c ≤ 255) :
    Calls Try.prog 5 #[.int .u8 c] w fun e w' => e = .returned (.tuple #[.int .u8 (hexV c), .bool (hexB c)]) ∧ w' = w := by
  unfold hexV hexB
  by_cases a : 48 ≤ c ∧ c ≤ 57
  · obtain ⟨a1, a2⟩ := a
    rw [if_pos ⟨a1, a2⟩, if_pos ⟨a1, a2⟩]
    go_enter Try.func5, Try.ntmps5
    go_wp2
    go_ret2
    exact ⟨rfl, rfl⟩
  · by_cases b : 97 ≤ c ∧ c ≤ 102
    · obtain ⟨b1, b2⟩ := b
      rw [if_neg a, if_neg a, if_pos ⟨b1, b2⟩, if_pos ⟨b1, b2⟩]
      clear a
      go_enter Try.func5, Try.ntmps5
      go_wp2
      go_ret2
      exact ⟨rfl, rfl⟩
    · by_cases d : 65 ≤ c ∧ c ≤ 70
      · obtain ⟨d1, d2⟩ := d
        rw [if_neg a, if_neg a, if_neg b, if_neg b, if_pos ⟨d1, d2⟩, if_pos ⟨d1, d2⟩]
        clear a b
        go_enter Try.func5, Try.ntmps5
        go_wp2
        go_ret2
        exact ⟨rfl, rfl⟩
      · rw [if_neg a, if_neg a, if_neg b, if_neg b, if_neg d, if_neg d]
        go_enter Try.func5, Try.ntmps5
        go_wp2
        all_goals first | (exfalso; omega) | (go_ret2; exact ⟨rfl, rfl⟩)

theorem dch_any (d : Int) (w : World) (h0 : 0 ≤ d) (h1 : d ≤ 15) :
    Calls Try.prog 6 #[.int .u8 d] w fun e w' => e = .returned (.int .u8 (dch d)) ∧ w' = w := by
  unfold dch
  by_cases a : d < 10
  · rw [if_pos a]
    go_enter Try.func6, Try.ntmps6
    go_wp2
    go_ret
    exact ⟨rfl, rfl⟩
  · rw [if_neg a]
    go_enter Try.func6, Try.ntmps6
    go_wp2
    go_ret
    exact ⟨rfl, rfl⟩

theorem upp_any (b : Int) (w : World) (h0 : 0 ≤ b) (h1 : b ≤ 255) :
    Calls Try.prog 7 #[.int .u8 b] w fun e w' => e = .returned (.int .u8 (upp b)) ∧ w' = w := by
  unfold upp
  by_cases a : 97 ≤ b
  · by_cases c : b ≤ 122
    · rw [if_pos ⟨a, c⟩]
      go_enter Try.func7, Try.ntmps7
      go_wp2
      go_ret
      exact ⟨rfl, rfl⟩
    · rw [if_neg (by omega)]
      go_enter Try.func7, Try.ntmps7
      go_wp2
      go_ret
      exact ⟨rfl, rfl⟩
  · rw [if_neg (by omega)]
    go_enter Try.func7, Try.ntmps7
    go_wp2
    go_ret
    exact ⟨rfl, rfl⟩

theorem swp_any (b : Int) (w : World) (h0 : 0 ≤ b) (h1 : b ≤ 255) :
    Calls Try.prog 8 #[.int .u8 b] w fun e w' => e = .returned (.int .u8 (swp b)) ∧ w' = w := by
  unfold swp
  by_cases a : 97 ≤ b
  · by_cases c : b ≤ 122
    · rw [if_pos ⟨a, c⟩]
      go_enter Try.func8, Try.ntmps8
      go_wp2
      go_ret
      exact ⟨rfl, rfl⟩
    · rw [if_neg (by omega), if_neg (by omega)]
      go_enter Try.func8, Try.ntmps8
      go_wp2
      go_ret
      exact ⟨rfl, rfl⟩
  · rw [if_neg (by omega)]
    by_cases d : 65 ≤ b
    · by_cases e : b ≤ 90
      · rw [if_pos ⟨d, e⟩]
        go_enter Try.func8, Try.ntmps8
        go_wp2
        go_ret
        exact ⟨rfl, rfl⟩
      · rw [if_neg (by omega)]
        go_enter Try.func8, Try.ntmps8
        go_wp2
        go_ret
        exact ⟨rfl, rfl⟩
    · rw [if_neg (by omega)]
      go_enter Try.func8, Try.ntmps8
      go_wp2
      go_ret
      exact ⟨rfl, rfl⟩

theorem dch_rng (d : Int) (h0 : 0 ≤ d) (h1 : d ≤ 15) : 0 ≤ dch d ∧ dch d ≤ 255 := by unfold dch; split <;> omega
end Go.Proofs.Qxb6619605a
