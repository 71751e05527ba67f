/- 'Rows.FnHexDigitIsInverseOfDigitCharSaid', proved. The frame ('lifted', 'over') is the kit's shell for this function; the plain law and the walk are typed by hand. -/
import Derived.Test.Qxb6619605aHex
import Derived.WalkKit
import Derived.ProofKit
import Derived.OpenShut
import Derived.ShutString
namespace Go.Proofs.Qxb6619605a.fnHexDigitIsInverseOfDigitChar
open Go.ChangeShapes Go.WideShapes Go.ChangeAt Go.RowKit
open Go.ChangeMaps (open_string shut_string)
set_option linter.unusedVariables false      -- a walk need not use every 'w<i>' (that an integer argument fits its kind)

theorem own : ownKnob Try.prog.godebug = none := by kernel_rfl

/-! ### THE PLAIN LAW -/
def wantN (c : Int) : Nat → Int
  | 0 => 0
  | k + 1 => if c = dch k ∨ c = upp (dch k) then k else wantN c k
def foundN (c : Int) : Nat → Bool
  | 0 => false
  | k + 1 => if c = dch k ∨ c = upp (dch k) then true else foundN c k
theorem plain_nat : ∀ n : Fin 256, hexB (n.val : Int) = foundN (n.val : Int) 16 ∧ hexV (n.val : Int) = wantN (n.val : Int) 16 := by decide +kernel
theorem plain (c : Int) (h0 : 0 ≤ c) (h1 : c ≤ 255) : hexB c = foundN c 16 ∧ hexV c = wantN c 16 := by
  have h := plain_nat ⟨c.toNat, by omega⟩
  simp only [Int.toNat_of_nonneg h0] at h
  exact h
theorem wantN_hit (c : Int) (k : Nat) (h : c = dch k ∨ c = upp (dch k)) : wantN c (k + 1) = k ∧ foundN c (k + 1) = true := by simp [wantN, foundN, h]
theorem wantN_miss (c : Int) (k : Nat) (h : ¬ (c = dch k ∨ c = upp (dch k))) : wantN c (k + 1) = wantN c k ∧ foundN c (k + 1) = foundN c k := by simp [wantN, foundN, h]
theorem val_int {k : IntKind} {a b : Int} (h : a = b) : Value.int k a = .int k b := by rw [h]
theorem val_bool {a b : Bool} (h : a = b) : Value.bool a = .bool b := by rw [h]

/-! ### STEP 1: THE WALK -/
set_option maxHeartbeats 400000 in
theorem walk (a0 : Int) (w0 : (Lit.int .u8 a0).wf = true) (w : World) :
    Calls Try.prog 3 #[.int .u8 a0] w fun e w' => e = .returned (.bool true) ∧ Grown w w' := by
  obtain ⟨h0, h1⟩ := bounds_u8 w0
  have hp := plain a0 h0 (by omega)
  have HP : Hid (hexB a0 = foundN a0 16 ∧ hexV a0 = wantN a0 16) := hp
  clear hp w0
  go_enter Try.func3, Try.ntmps3
  go_wp2_with (go_at_call 5; refine (hex_any _ _ h0 (by omega)).mono ?_; rintro e w' ⟨rfl, rfl⟩)
  go_loop [5, 6, 7, 8, 9] (fun wa fo d lo up => ∃ k : Nat, k ≤ 16 ∧ d = .int .u8 k ∧ wa = .int .u8 (wantN a0 k) ∧ fo = .bool (foundN a0 k)) (fun _ _ d _ _ => 16 - (intOf d).toNat)
  case atStart => exact ⟨0, Nat.zero_le _, rfl, rfl, rfl⟩
  case round =>
    obtain ⟨k, hk, rfl, rfl, rfl⟩ := hrel
    by_cases hlt : k < 16
    · have hd := dch_rng k (by omega) (by omega)
      by_cases hc : a0 = dch k
      · have HS : Hid (wantN a0 (k + 1) = k ∧ foundN a0 (k + 1) = true) := wantN_hit a0 k (.inl hc)
        have hb : (a0 == dch k) = true := by simpa using hc
        clear hc
        go_wp2_with (first | (go_at_call 6; refine (dch_any _ _ (by omega) (by omega)).mono ?_; rintro e w' ⟨rfl, rfl⟩) | (go_at_call 7; refine (upp_any _ _ (by omega) (by omega)).mono ?_; rintro e w' ⟨rfl, rfl⟩))
        go_round
        case rel => exact ⟨k + 1, by omega, by go_num, val_int HS.out.1.symm, val_bool HS.out.2.symm⟩
        case measure => simp [intOf]; omega
      · have hb : (a0 == dch k) = false := by simpa using hc
        by_cases hu : a0 = upp (dch k)
        · have HS : Hid (wantN a0 (k + 1) = k ∧ foundN a0 (k + 1) = true) := wantN_hit a0 k (.inr hu)
          have hb2 : (a0 == upp (dch k)) = true := by simpa using hu
          clear hc hu
          go_wp2_with (first | (go_at_call 6; refine (dch_any _ _ (by omega) (by omega)).mono ?_; rintro e w' ⟨rfl, rfl⟩) | (go_at_call 7; refine (upp_any _ _ (by omega) (by omega)).mono ?_; rintro e w' ⟨rfl, rfl⟩))
          go_round
          case rel => exact ⟨k + 1, by omega, by go_num, val_int HS.out.1.symm, val_bool HS.out.2.symm⟩
          case measure => simp [intOf]; omega
        · have HS : Hid (wantN a0 (k + 1) = wantN a0 k ∧ foundN a0 (k + 1) = foundN a0 k) := wantN_miss a0 k (by rintro (h | h) <;> contradiction)
          have hb2 : (a0 == upp (dch k)) = false := by simpa using hu
          clear hc hu
          go_wp2_with (first | (go_at_call 6; refine (dch_any _ _ (by omega) (by omega)).mono ?_; rintro e w' ⟨rfl, rfl⟩) | (go_at_call 7; refine (upp_any _ _ (by omega) (by omega)).mono ?_; rintro e w' ⟨rfl, rfl⟩))
          go_round
          case rel => exact ⟨k + 1, by omega, by go_num, val_int HS.out.1.symm, val_bool HS.out.2.symm⟩
          case measure => simp [intOf]; omega
    · have e16 : k = 16 := by omega
      subst e16
      have hB : (hexB a0 == foundN a0 16) = true := by rw [HP.out.1]; simp
      have hV : (hexV a0 == wantN a0 16) = true := by rw [HP.out.2]; simp
      go_wp2
      go_ret
      exact ⟨rfl, Grown.refl _⟩

/-! ### THE ROW's STEP: WRITTEN OUT: LEAVE IT -/
set_option maxRecDepth 100000 in
theorem lifted (os : Os) (started : os.Started) (H : Type) (enc : TypeId × Value → H) :
    ReturnsInHanded {} Try.checked os 3 .any (Rows.fnHexDigitIsInverseOfDigitCharSpec.pre6 enc Try.prog Try.f3 Rows.fnHexDigitIsInverseOfDigitCharRow.domain false) (Rows.fnHexDigitIsInverseOfDigitCharSpec.post enc Try.prog Try.f3 false true false false) := by
  refine returnsInHanded_of_change (C := Try.checked) own started (by kernel_rfl) Try.func3
    (ChangeSpec.witness6 (enc := enc) (C := Try.checked) false ⟨#[], #[.int .u8 0], []⟩ 8 (by kernel_rfl) (by kernel_rfl) (by kernel_rfl) (by kernel_rfl)) ?_
  intro W base args ds gs before hval0 hW hcnd _
  have hval : ∀ (j : Nat) t v, Try.f3.params[j]? = some t → args[j]? = some v → Value.okWide Try.prog W .any base t v := hval0
  have hW' := hW
  obtain ⟨p, q, hA0, hV, rfl, hfz, hnd⟩ := hW
  have hA : DataW.TrodAll enc Try.prog W 0 (fun _ => true) true Try.f3.params.toList args.toList ds p := hA0
  rw [Try.params3] at hA hval
  obtain ⟨v0, vs0, d0, ds0, p0, q0, hargs, rfl, rfl, h0, r0⟩ := trodAll_cons hA
  obtain ⟨rfl, rfl, rfl⟩ := trodAll_nil r0
  obtain rfl : args = #[v0] := by cases args; simp_all
  obtain ⟨rfl, rfl⟩ := trodVars_none hV
  obtain ⟨a0, rfl, rfl, rfl, w0⟩ := open_int Try.underlying5 (hval 0 5 v0 rfl rfl) h0
  clear hA0 hval0
  simp only [List.append_nil] at hW'
  refine (walk a0 w0 W).mono fun e W' ⟨he, hg⟩ => ?_
  subst he
  exact ⟨_, rfl, post_of_same (pa := []) (pv := []) hW' (fun _ _ _ => (trodAll_cons_mk (shut_bool Try.underlying4 _) trodAll_mk0)) (fun sp _ => (trodAll_cons_mk (shut_int Try.underlying5 w0) trodAll_mk0)) (fun _ _ => rfl) rfl
    (hg.frame _) hg.2.1 (ok_one (by kernel_rfl) rfl (okWide_bool_mk Try.underlying4 _))⟩

theorem over : Rows.fnHexDigitIsInverseOfDigitCharRow.holds Try.pinned (OpenSpec.ofChange Rows.fnHexDigitIsInverseOfDigitCharSpec) :=
  OpenClaim.holds_of_wide 3 Try.f3 rfl rfl rfl rfl rfl rfl rfl ⟨rfl, rfl, rfl, rfl, rfl⟩ rfl rfl rfl rfl rfl (by kernel_rfl) Try.func3 (by kernel_rfl)
    (of_decide_eq_true (by kernel_rfl)) (by unfold Func.isWrapper; first | (rw [if_pos (by decide +kernel)]; kernel_rfl) | (rw [if_neg (by decide +kernel)]; exact ⟨rfl, rfl⟩))
    (fun os started H enc _ => lifted os started H enc)

/-- ████ THE STATEMENT ████ -/
theorem proved : Rows.FnHexDigitIsInverseOfDigitCharSaid :=
  over
end Go.Proofs.Qxb6619605a.fnHexDigitIsInverseOfDigitChar
namespace Go.Proofs.Qxb6619605a
theorem hexDigit_is_inverse : Rows.FnHexDigitIsInverseOfDigitCharSaid := fnHexDigitIsInverseOfDigitChar.proved
end Go.Proofs.Qxb6619605a
