/- mix32 (12), unmix32 (11), ZZmix32 (7), ZZunmix32 (6): the plain functions, and that the Go texts compute them. -/
import Derived.Test.Qxb6619836aRows
import Derived.WalkKit
import Derived.ProofKit
import Derived.WalkLawsBesides
import Derived.Outline
import Derived.Deep.QuietTactic
import Derived.BigQuiet
import Derived.RegionTactic
import Derived.WalkSpells
import Derived.Deep.OwnRows
import Derived.Laws.BitsAllLaws
namespace Go.Proofs.Qxb6619836a
open Go.ChangeShapes Go.WideShapes Go.ChangeAt Go.RowKit

theorem hidM {p : Prop} (h : p) : Hid p := h

/-- 'v ^ v>>k' -/
def sx (k x : Nat) : Nat := x ^^^ (x >>> k)
/-- 'v ^ (v>>13 ^ v>>26)' -/
def us (x : Nat) : Nat := x ^^^ (x >>> 13 ^^^ x >>> 26)
def mixN (x : Nat) : Nat := sx 16 (sx 13 (sx 16 x * 2246822507 % 4294967296) * 3266489909 % 4294967296)
def unmixN (x : Nat) : Nat := sx 16 (us (sx 16 x * 2127672349 % 4294967296) * 2781581891 % 4294967296)

theorem xor_chain (a b c : Nat) : a ^^^ b ^^^ (b ^^^ c) = a ^^^ c := by
  rw [Nat.xor_assoc, ← Nat.xor_assoc b b c, Nat.xor_self, Nat.zero_xor]
theorem shr_zero (x n : Nat) (h : x < 4294967296) (hn : 32 ≤ n) : x >>> n = 0 := by
  rw [Nat.shiftRight_eq_div_pow]
  refine Nat.div_eq_of_lt (Nat.lt_of_lt_of_le h ?_)
  exact Nat.le_trans (by decide : 4294967296 ≤ 2 ^ 32) (Nat.pow_le_pow_right (by decide) hn)
theorem sx_lt (k x : Nat) (h : x < 4294967296) : sx k x < 4294967296 := by
  have h2 : x >>> k < 2 ^ 32 := Nat.lt_of_le_of_lt (Nat.shiftRight_le x k) h
  exact Nat.xor_lt_two_pow (n := 32) h h2
theorem us_lt (x : Nat) (h : x < 4294967296) : us x < 4294967296 := by
  have h1 : x >>> 13 < 2 ^ 32 := Nat.lt_of_le_of_lt (Nat.shiftRight_le x 13) h
  have h2 : x >>> 26 < 2 ^ 32 := Nat.lt_of_le_of_lt (Nat.shiftRight_le x 26) h
  exact Nat.xor_lt_two_pow (n := 32) h (Nat.xor_lt_two_pow h1 h2)
theorem sx16_sx16 (x : Nat) (h : x < 4294967296) : sx 16 (sx 16 x) = x := by
  unfold sx
  rw [Nat.shiftRight_xor_distrib, ← Nat.shiftRight_add, shr_zero x (16 + 16) h (by decide), xor_chain, Nat.xor_zero]
theorem us_sx13 (x : Nat) (h : x < 4294967296) : us (sx 13 x) = x := by
  unfold us sx
  rw [Nat.shiftRight_xor_distrib, Nat.shiftRight_xor_distrib, ← Nat.shiftRight_add, ← Nat.shiftRight_add, shr_zero x (13 + 26) h (by decide), Nat.xor_zero, Nat.xor_assoc (x >>> 13), Nat.xor_self, Nat.xor_zero, Nat.xor_assoc, Nat.xor_self, Nat.xor_zero]
theorem sx13_us (x : Nat) (h : x < 4294967296) : sx 13 (us x) = x := by
  unfold us sx
  rw [Nat.shiftRight_xor_distrib, Nat.shiftRight_xor_distrib, ← Nat.shiftRight_add, ← Nat.shiftRight_add, shr_zero x (26 + 13) h (by decide), Nat.xor_zero, Nat.xor_assoc, Nat.xor_self, Nat.xor_zero]
theorem mul_back (a b x : Nat) (hab : a * b % 4294967296 = 1) (h : x < 4294967296) : x * a % 4294967296 * b % 4294967296 = x := by
  rw [Nat.mod_mul_mod, Nat.mul_assoc, ← Nat.mul_mod_mod, hab, Nat.mul_one, Nat.mod_eq_of_lt h]
theorem unmix_mix (x : Nat) (h : x < 4294967296) : unmixN (mixN x) = x := by
  unfold unmixN mixN
  have m : ∀ y, y % 4294967296 < 4294967296 := fun y => Nat.mod_lt _ (by decide)
  rw [sx16_sx16 _ (m _), mul_back 3266489909 2127672349 _ (by decide) (sx_lt _ _ (m _)), us_sx13 _ (m _), mul_back 2246822507 2781581891 _ (by decide) (sx_lt _ _ h), sx16_sx16 _ h]
theorem mix_unmix (x : Nat) (h : x < 4294967296) : mixN (unmixN x) = x := by
  unfold unmixN mixN
  have m : ∀ y, y % 4294967296 < 4294967296 := fun y => Nat.mod_lt _ (by decide)
  rw [sx16_sx16 _ (m _), mul_back 2781581891 2246822507 _ (by decide) (us_lt _ (m _)), sx13_us _ (m _), mul_back 2127672349 3266489909 _ (by decide) (sx_lt _ _ h), sx16_sx16 _ h]
theorem mix_lt (x : Nat) : mixN x < 4294967296 := sx_lt _ _ (Nat.mod_lt _ (by decide))
theorem unmix_lt (x : Nat) : unmixN x < 4294967296 := sx_lt _ _ (Nat.mod_lt _ (by decide))

/-! ### As the walk spells it -/
theorem xor_spelt (a b : Nat) (ha : a < 4294967296) (hb : b ≤ a) (B : Int) (hB : B = (b : Int)) : bits .xor .u32 (a : Int) B = ((a ^^^ b : Nat) : Int) := by
  rw [hB, u32_xor_nat a b ha (by omega)]
theorem sx_spelt (k x : Nat) (d : Int) (hd : d = ((2 ^ k : Nat) : Int)) (h : x < 4294967296) : bits .xor .u32 (x : Int) ((x : Int) / d) = (sx k x : Int) := by
  refine xor_spelt x (x >>> k) h (Nat.shiftRight_le x k) _ ?_
  rw [hd, Nat.shiftRight_eq_div_pow, Int.natCast_ediv]
theorem us_spelt (x : Nat) (h : x < 4294967296) : bits .xor .u32 (x : Int) (bits .xor .u32 ((x : Int) / 8192) ((x : Int) / 67108864)) = (us x : Int) := by
  have e1 : (x : Int) / (8192 : Int) = Int.ofNat (x >>> 13) := by show _ = ((x >>> _ : Nat) : Int); rw [Nat.shiftRight_eq_div_pow]; omega
  have e2 : (x : Int) / (67108864 : Int) = Int.ofNat (x >>> 26) := by show _ = ((x >>> _ : Nat) : Int); rw [Nat.shiftRight_eq_div_pow]; omega
  have h1 : x >>> 13 < 2 ^ 32 := Nat.lt_of_le_of_lt (Nat.shiftRight_le x 13) h
  have h2 : x >>> 26 < 2 ^ 32 := Nat.lt_of_le_of_lt (Nat.shiftRight_le x 26) h
  rw [e1, e2]
  show bits .xor .u32 (x : Int) (bits .xor .u32 ((x >>> 13 : Nat) : Int) ((x >>> 26 : Nat) : Int)) = _
  rw [u32_xor_nat _ _ h1 h2, u32_xor_nat _ _ h (Nat.xor_lt_two_pow (n := 32) h1 h2)]
  rfl
theorem mul_spelt (x c : Nat) (C : Int) (hC : C = (c : Int)) : (x : Int) * C % 4294967296 = ((x * c % 4294967296 : Nat) : Int) := by
  rw [hC, Int.natCast_emod, Int.natCast_mul]
  rfl
theorem mix_spelt (x : Nat) (h : x < 4294967296) :
    bits .xor .u32 (bits .xor .u32 (bits .xor .u32 (x : Int) ((x : Int) / 65536) * 2246822507 % 4294967296) (bits .xor .u32 (x : Int) ((x : Int) / 65536) * 2246822507 % 4294967296 / 8192) * 3266489909 % 4294967296) (bits .xor .u32 (bits .xor .u32 (x : Int) ((x : Int) / 65536) * 2246822507 % 4294967296) (bits .xor .u32 (x : Int) ((x : Int) / 65536) * 2246822507 % 4294967296 / 8192) * 3266489909 % 4294967296 / 65536) = (mixN x : Int) := by
  have m : ∀ y, y % 4294967296 < 4294967296 := fun y => Nat.mod_lt _ (by decide)
  rw [sx_spelt 16 x 65536 rfl h, mul_spelt _ 2246822507 (2246822507 : Int) rfl, sx_spelt 13 _ 8192 rfl (m _), mul_spelt _ 3266489909 (3266489909 : Int) rfl, sx_spelt 16 _ 65536 rfl (m _)]
  rfl
theorem unmix_spelt (x : Nat) (h : x < 4294967296) :
    bits .xor .u32 (bits .xor .u32 (bits .xor .u32 (x : Int) ((x : Int) / 65536) * 2127672349 % 4294967296) (bits .xor .u32 (bits .xor .u32 (x : Int) ((x : Int) / 65536) * 2127672349 % 4294967296 / 8192) (bits .xor .u32 (x : Int) ((x : Int) / 65536) * 2127672349 % 4294967296 / 67108864)) * 2781581891 % 4294967296)
      (bits .xor .u32 (bits .xor .u32 (x : Int) ((x : Int) / 65536) * 2127672349 % 4294967296) (bits .xor .u32 (bits .xor .u32 (x : Int) ((x : Int) / 65536) * 2127672349 % 4294967296 / 8192) (bits .xor .u32 (x : Int) ((x : Int) / 65536) * 2127672349 % 4294967296 / 67108864)) * 2781581891 % 4294967296 / 65536) = (unmixN x : Int) := by
  have m : ∀ y, y % 4294967296 < 4294967296 := fun y => Nat.mod_lt _ (by decide)
  rw [sx_spelt 16 x 65536 rfl h, mul_spelt _ 2127672349 (2127672349 : Int) rfl, us_spelt _ (m _), mul_spelt _ 2781581891 (2781581891 : Int) rfl, sx_spelt 16 _ 65536 rfl (m _)]
  rfl

/-! ### The walks -/
theorem mix_walk (x : Nat) (h : x < 4294967296) (w : World) :
    Calls Try.prog 12 #[.int .u32 (x : Int)] w fun e w' => e = .returned (.int .u32 (mixN x : Int)) ∧ w' = w := by
  go_enter Try.func12, Try.ntmps12
  go_wp2
  go_ret
  exact ⟨congrArg (fun z => Ending.returned (Value.int .u32 z)) (mix_spelt x h), rfl⟩
theorem unmix_walk (x : Nat) (h : x < 4294967296) (w : World) :
    Calls Try.prog 11 #[.int .u32 (x : Int)] w fun e w' => e = .returned (.int .u32 (unmixN x : Int)) ∧ w' = w := by
  go_enter Try.func11, Try.ntmps11
  go_wp2
  go_ret
  exact ⟨congrArg (fun z => Ending.returned (Value.int .u32 z)) (unmix_spelt x h), rfl⟩
theorem zzmix_walk (x : Nat) (h : x < 4294967296) (w : World) :
    Calls Try.prog 7 #[.int .u32 (x : Int)] w fun e w' => e = .returned (.int .u32 (mixN x : Int)) ∧ w' = w := by
  go_enter Try.func7, Try.ntmps7
  go_wp2_with (go_at_call 12; refine (mix_walk x h _).mono ?_; rintro ee wx ⟨rfl, rfl⟩)
  go_ret
  exact ⟨rfl, rfl⟩
theorem zzunmix_walk (x : Nat) (h : x < 4294967296) (w : World) :
    Calls Try.prog 6 #[.int .u32 (x : Int)] w fun e w' => e = .returned (.int .u32 (unmixN x : Int)) ∧ w' = w := by
  go_enter Try.func6, Try.ntmps6
  go_wp2_with (go_at_call 11; refine (unmix_walk x h _).mono ?_; rintro ee wx ⟨rfl, rfl⟩)
  go_ret
  exact ⟨rfl, rfl⟩
theorem law_walk (x : Nat) (h : x < 4294967296) (w : World) :
    Calls Try.prog 3 #[.int .u32 (x : Int)] w fun e w' => e = .returned (.bool true) ∧ Grown w w' := by
  have c1 := fun w => zzmix_walk x h w
  have c2 := fun w => zzunmix_walk (mixN x) (mix_lt x) w
  have c3 := fun w => zzunmix_walk x h w
  have c4 := fun w => zzmix_walk (unmixN x) (unmix_lt x) w
  rw [unmix_mix x h] at c2
  rw [mix_unmix x h] at c4
  have C1 := hidM c1
  have C2 := hidM c2
  have C3 := hidM c3
  have C4 := hidM c4
  clear c1 c2 c3 c4
  go_enter Try.func3, Try.ntmps3
  go_wp2_with (first | (go_at_call 7; refine (C1.out _).mono ?_; rintro ee wx ⟨rfl, rfl⟩) | (go_at_call 6; refine (C2.out _).mono ?_; rintro ee wx ⟨rfl, rfl⟩) | (go_at_call 6; refine (C3.out _).mono ?_; rintro ee wx ⟨rfl, rfl⟩) | (go_at_call 7; refine (C4.out _).mono ?_; rintro ee wx ⟨rfl, rfl⟩))
  go_ret
  exact ⟨rfl, Grown.refl _⟩
end Go.Proofs.Qxb6619836a
