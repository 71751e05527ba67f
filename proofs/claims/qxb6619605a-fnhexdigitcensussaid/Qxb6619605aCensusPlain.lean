/- The census of hexDigit over all bytes, as plain functions of the number of bytes that have been looked at. -/
import Derived.Test.Qxb6619605aHex
namespace Go.Proofs.Qxb6619605a
open Go.RowKit

def totN : Nat → Int
  | 0 => 0
  | k + 1 => if hexB k = true then totN k + 1 else totN k
def cntN (d : Nat) : Nat → Int
  | 0 => 0
  | k + 1 => if hexB k = true ∧ hexV k = d then cntN d k + 1 else cntN d k
def hitB (c : Int) (k : Nat) : Bool := hexB c && (hexB k && (hexV k == hexV c))
def sameN (c : Int) : Nat → Int
  | 0 => 0
  | k + 1 => if hitB c k = true then sameN c k + 1 else sameN c k
def foldN (c : Int) : Nat → Bool
  | 0 => true
  | k + 1 => if hitB c k = true ∧ (k : Int) ≠ c ∧ (k : Int) ≠ swp c then false else foldN c k

theorem totN_rng : ∀ k : Nat, 0 ≤ totN k ∧ totN k ≤ k
  | 0 => by simp [totN]
  | k + 1 => by have := totN_rng k; unfold totN; split <;> omega
theorem cntN_rng (d : Nat) : ∀ k : Nat, 0 ≤ cntN d k ∧ cntN d k ≤ k
  | 0 => by simp [cntN]
  | k + 1 => by have := cntN_rng d k; unfold cntN; split <;> omega
theorem sameN_rng (c : Int) : ∀ k : Nat, 0 ≤ sameN c k ∧ sameN c k ≤ k
  | 0 => by simp [sameN]
  | k + 1 => by have := sameN_rng c k; unfold sameN; split <;> omega

theorem tot_end : totN 256 = 22 := by decide +kernel
theorem cnt_end : ∀ d : Fin 16, cntN d.val 256 = if d.val < 10 then 1 else 2 := by decide +kernel
theorem end_nat : ∀ c : Fin 256, if hexB (c.val : Int) = true then hexB (swp (c.val : Int)) = true ∧ hexV (swp (c.val : Int)) = hexV (c.val : Int) ∧ foldN (c.val : Int) 256 = true ∧ sameN (c.val : Int) 256 = (if swp (c.val : Int) = (c.val : Int) then 1 else 2) else hexV (c.val : Int) = 0 := by decide +kernel
theorem swp_rng (c : Int) (h0 : 0 ≤ c) (h1 : c ≤ 255) : 0 ≤ swp c ∧ swp c ≤ 255 := by unfold swp; repeat' split; all_goals omega
theorem end_yes (c : Int) (h0 : 0 ≤ c) (h1 : c ≤ 255) (h : hexB c = true) : hexB (swp c) = true ∧ hexV (swp c) = hexV c ∧ foldN c 256 = true ∧ sameN c 256 = (if swp c = c then 1 else 2) := by
  have e := end_nat ⟨c.toNat, by omega⟩
  simp only [Int.toNat_of_nonneg h0] at e
  rw [if_pos h] at e
  exact e
theorem hexV_no (c : Int) (h : hexB c = false) : hexV c = 0 := by
  unfold hexB at h
  by_cases a : 48 ≤ c ∧ c ≤ 57
  · simp [a] at h
  · by_cases b : 97 ≤ c ∧ c ≤ 102
    · simp [a, b] at h
    · by_cases d : 65 ≤ c ∧ c ≤ 70
      · simp [a, b, d] at h
      · unfold hexV
        rw [if_neg a, if_neg b, if_neg d]

/-! what one round does -/
theorem tot_no {k : Nat} (h : hexB k = false) : totN (k + 1) = totN k := by simp [totN, h]
theorem tot_yes {k : Nat} (h : hexB k = true) : totN (k + 1) = totN k + 1 := by simp [totN, h]
theorem cnt_no (d : Nat) {k : Nat} (h : hexB k = false) : cntN d (k + 1) = cntN d k := by simp [cntN, h]
theorem cnt_yes (d : Nat) {k : Nat} (h : hexB k = true) : cntN d (k + 1) = if hexV k = d then cntN d k + 1 else cntN d k := by simp [cntN, h]
theorem same_no (c : Int) {k : Nat} (h : hitB c k = false) : sameN c (k + 1) = sameN c k ∧ foldN c (k + 1) = foldN c k := by simp [sameN, foldN, h]
theorem same_fold (c : Int) {k : Nat} (h : hitB c k = true) (h2 : (k : Int) = c ∨ (k : Int) = swp c) : sameN c (k + 1) = sameN c k + 1 ∧ foldN c (k + 1) = foldN c k := by
  refine ⟨by simp [sameN, h], ?_⟩
  show (if hitB c k = true ∧ (k : Int) ≠ c ∧ (k : Int) ≠ swp c then false else foldN c k) = foldN c k
  rw [if_neg]
  rintro ⟨_, a, b⟩
  rcases h2 with e | e <;> contradiction
theorem same_other (c : Int) {k : Nat} (h : hitB c k = true) (h2 : (k : Int) ≠ c) (h3 : (k : Int) ≠ swp c) : sameN c (k + 1) = sameN c k + 1 ∧ foldN c (k + 1) = false := by simp [sameN, foldN, h, h2, h3]
end Go.Proofs.Qxb6619605a
