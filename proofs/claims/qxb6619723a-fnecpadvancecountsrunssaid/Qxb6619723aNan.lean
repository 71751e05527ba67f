/- A float and its successors: what adding 1 so many times gives, up to the bits of a NaN. -/
import Derived.Test.Qxb6619723aSmall
namespace Go.Proofs.Qxb6619723a
open Go.ChangeShapes Go.WideShapes Go.ChangeAt Go.RowKit

/-- the bits stand for a NaN -/
def isN (x : Nat) : Prop := (FloatKind.f64.format.read x).isNaN = true
/-- the bits that the tape gives where a sum is a NaN -/
def nanAt (w : World) (x y : Nat) : Nat := (Question.nanBits .f64 x y).cut (w.tape w.drawn (.nanBits .f64 x y))

theorem isN_of (x : Nat) (h : 9218868437227405312 < x % 9223372036854775808) : isN x := by
  unfold isN
  show (Ieee.Format.read Ieee.double x).isNaN = true
  unfold Ieee.Format.read
  have e1 : Ieee.double.signWeight = 9223372036854775808 := by decide +kernel
  have e2 : Ieee.double.binade = 4503599627370496 := by decide +kernel
  have e3 : Ieee.double.infRung = 9218868437227405312 := by decide +kernel
  simp only [e1, e2, e3]
  rw [if_neg (by omega), if_neg (by omega), if_neg (by omega)]
  rfl
theorem nan_cut (x y t : Nat) : isN ((Question.nanBits .f64 x y).cut t) := by
  refine isN_of _ ?_
  show 9218868437227405312 < ((t % 2) * 2 ^ 63 + 0x7ff0000000000000 + 1 + (t / 2) % (2 ^ 52 - 1)) % 9223372036854775808
  have h1 : (t / 2) % (2 ^ 52 - 1) < 4503599627370495 := Nat.mod_lt _ (by decide)
  have h2 : t % 2 < 2 := Nat.mod_lt _ (by decide)
  generalize (t / 2) % (2 ^ 52 - 1) = r at h1 ⊢
  generalize t % 2 = s at h2 ⊢
  have e : s = 0 ∨ s = 1 := by omega
  rcases e with rfl | rfl <;> omega
theorem nanAt_isN (w : World) (x y : Nat) : isN (nanAt w x y) := nan_cut x y _

theorem order_nan {x y : Nat} (h : isN x) : FloatKind.f64.format.order x y = none := by
  unfold isN at h
  unfold Ieee.Format.order
  generalize FloatKind.f64.format.read x = d at h ⊢
  cases d with
  | nan => rfl
  | infinity => simp [Ieee.Datum.isNaN] at h
  | number => simp [Ieee.Datum.isNaN] at h
theorem add_nan {x y : Nat} (h : isN x) : FloatKind.f64.format.add x y = none := by
  unfold isN at h
  unfold Ieee.Format.add
  generalize FloatKind.f64.format.read x = d at h ⊢
  cases d with
  | nan => rfl
  | infinity => simp [Ieee.Datum.isNaN] at h
  | number => simp [Ieee.Datum.isNaN] at h

theorem run_add_none (x y : Nat) (h : FloatKind.f64.format.add x y = none) (w : World) : (binOp .add 27 (.float .f64 x) (.float .f64 y)).run Try.prog w = .ok (.float .f64 (nanAt w x y)) w.drew := by
  simp [binOp, Op.floatArith, h, Question.forced, nanAt]
theorem run_add_some (x y r : Nat) (h : FloatKind.f64.format.add x y = some r) (w : World) : (binOp .add 27 (.float .f64 x) (.float .f64 y)).run Try.prog w = .ok (.float .f64 r) w := by
  simp [binOp, Op.floatArith, h]

/-- v and k times 1; 'none': a NaN -/
def plusN (v : Nat) : Nat → Option Nat
  | 0 => some v
  | k + 1 => (plusN v k).bind fun x => FloatKind.f64.format.add x 4607182418800017408
/-- x is such a value -/
def Cl (v k x : Nat) : Prop := ∀ o, plusN v k = o → (∀ y, o = some y → x = y) ∧ (o = none → isN x)
theorem cl_zero (v : Nat) : Cl v 0 v := fun o h => by
  cases h
  exact ⟨fun y hy => by cases hy; rfl, fun h => by cases h⟩
theorem cl_some {v k x r : Nat} (h : Cl v k x) (ha : FloatKind.f64.format.add x 4607182418800017408 = some r) : Cl v (k + 1) r := by
  intro o ho
  simp only [plusN] at ho
  cases hp : plusN v k with
  | some y =>
    obtain rfl := (h _ hp).1 y rfl
    rw [hp] at ho
    simp only [Option.bind_some, ha] at ho
    subst ho
    exact ⟨fun y hy => by cases hy; rfl, fun h => by cases h⟩
  | none =>
    have := add_nan (y := 4607182418800017408) ((h _ hp).2 rfl)
    rw [this] at ha
    cases ha
theorem cl_none {v k x b : Nat} (h : Cl v k x) (ha : FloatKind.f64.format.add x 4607182418800017408 = none) (hb : isN b) : Cl v (k + 1) b := by
  intro o ho
  simp only [plusN] at ho
  cases hp : plusN v k with
  | some y =>
    obtain rfl := (h _ hp).1 y rfl
    rw [hp] at ho
    simp only [Option.bind_some, ha] at ho
    subst ho
    exact ⟨fun y hy => (by cases hy), fun _ => hb⟩
  | none =>
    rw [hp] at ho
    simp only [Option.bind_none] at ho
    subst ho
    exact ⟨fun y hy => (by cases hy), fun _ => hb⟩

set_option maxHeartbeats 400000 in
theorem sameF_nan (x y : Nat) (w : World) (hx : isN x) (hy : isN y) :
    Calls Try.prog 10 #[.float .f64 x, .float .f64 y] w fun e w' => e = .returned (.bool true) ∧ w = w' := by
  have h1 : (FloatKind.f64.format.order x y == some .eq) = false := by rw [order_nan hx]; rfl
  have h2 : (FloatKind.f64.format.order x x != some .eq) = true := by rw [order_nan hx]; rfl
  have h3 : (FloatKind.f64.format.order y y != some .eq) = true := by rw [order_nan hy]; rfl
  go_enter Try.func10, Try.ntmps10
  go_wp2
  go_ret
  exact ⟨rfl, rfl⟩
theorem sameF_cl {v k x y : Nat} (hx : Cl v k x) (hy : Cl v k y) (w : World) :
    Calls Try.prog 10 #[.float .f64 x, .float .f64 y] w fun e w' => e = .returned (.bool true) ∧ w = w' := by
  cases hp : plusN v k with
  | some z =>
    obtain rfl := (hx _ hp).1 z rfl
    obtain rfl := (hy _ hp).1 _ rfl
    exact sameF_any _ w
  | none => exact sameF_nan x y w ((hx _ hp).2 rfl) ((hy _ hp).2 rfl)
end Go.Proofs.Qxb6619723a
