/- 'Rows.FnHexDigitCensusSaid', proved. The frame ('lifted', 'over') is the kit's shell for this function, its end said by 'Below'; the plain law and the walk are typed by hand. -/
import Derived.Test.Qxb6619605aCensusPlain
import Derived.WalkKit
import Derived.ProofKit
import Derived.OpenShut
import Derived.ShutString
import Derived.ChangeOld
import Derived.Below
namespace Go.Proofs.Qxb6619605a.fnHexDigitCensus
open Go.ChangeShapes Go.WideShapes Go.ChangeAt Go.RowKit
open Go.ChangeMaps (open_string shut_string)
set_option linter.unusedVariables false      -- a walk need not use every 'w<i>' (that an integer argument fits its kind)

theorem own : ownKnob Try.prog.godebug = none := by kernel_rfl

theorem val_int {k : IntKind} {a b : Int} (h : a = b) : Value.int k a = .int k b := by rw [h]
theorem val_bool {a b : Bool} (h : a = b) : Value.bool a = .bool b := by rw [h]

/-- what the loop holds of the table's sixteen cells -/
structure Tab (B k : Nat) (w wr : World) : Prop where
  cell : ∀ d : Nat, d < 16 → wr.cell? ⟨B, d, none⟩ = some (.int .i64 (cntN d k))
  free : ∀ d : Nat, wr.frozen? ⟨B, d, none⟩ = false
  bel : Below B w wr

theorem Tab.no {B k : Nat} {w wr : World} (t : Tab B k w wr) (h : hexB k = false) : Tab B (k + 1) w wr :=
  ⟨fun d hd => by rw [cnt_no d h]; exact t.cell d hd, t.free, t.bel⟩
theorem Tab.yes {B k : Nat} {w wr : World} (t : Tab B k w wr) (h : hexB k = true) : Tab B (k + 1) w (wr.setCell ⟨B, (hexV k).toNat, none⟩ (.int .i64 (cntN (hexV k).toNat k + 1))) := by
  have hr := hexV_rng k
  refine ⟨fun d hd => ?_, fun d => by rw [World.frozen?_setCell]; exact t.free d, t.bel.setCell (Nat.le_refl _) _⟩
  by_cases e : (hexV k).toNat = d
  · rw [e, World.cell?_setCell_same _ _ _ (t.cell d hd), cnt_yes d h, if_pos (by omega)]
  · rw [World.cell?_setCell_other _ _ _ _ (by intro h2; injection h2; contradiction), t.cell d hd, cnt_yes d h, if_neg (by omega)]
theorem Tab.start (w : World) : Tab w.heap.size 0 w (w.alloc (.cells #[.int .i64 0, .int .i64 0, .int .i64 0, .int .i64 0, .int .i64 0, .int .i64 0, .int .i64 0, .int .i64 0, .int .i64 0, .int .i64 0, .int .i64 0, .int .i64 0, .int .i64 0, .int .i64 0, .int .i64 0, .int .i64 0] 26)) := by
  refine ⟨fun d hd => ?_, fun d => World.frozen?_alloc_new _ _ _ _, (Below.refl _ _).alloc (Nat.le_refl _) _⟩
  rw [World.cell?_alloc_new]
  match d, hd with
  | 0, _ | 1, _ | 2, _ | 3, _ | 4, _ | 5, _ | 6, _ | 7, _ | 8, _ | 9, _ | 10, _ | 11, _ | 12, _ | 13, _ | 14, _ | 15, _ => rfl
  | d + 16, hd => omega

/-! ### STEP 1: THE WALK -/
set_option maxHeartbeats 1600000 in
set_option maxRecDepth 100000 in
theorem walk_no (a0 : Int) (h0 : 0 ≤ a0) (h1 : a0 ≤ 255) (hB : hexB a0 = false) (w : World) :
    Calls Try.prog 4 #[.int .u8 a0] w fun e w' => e = .returned (.bool true) ∧ Below w.heap.size w w' := by
  have hsw := swp_rng a0 h0 (by omega)
  go_enter Try.func4, Try.ntmps4
  go_wp2_with (first | (go_at_call 5; refine (hex_any _ _ h0 (by omega)).mono ?_; rintro e wx ⟨rfl, hx⟩; obtain rfl := hx.symm; clear hx) | (go_at_call 8; refine (swp_any _ _ h0 (by omega)).mono ?_; rintro e wx ⟨rfl, hx⟩; obtain rfl := hx.symm; clear hx))
  go_loopw [6, 8, 9, 10] (fun tot same fold i wr => ∃ k : Nat, k ≤ 256 ∧ i = .int .i64 k ∧ tot = .int .i64 (totN k) ∧ same = .int .i64 (sameN a0 k) ∧ fold = .bool (foldN a0 k) ∧ Tab w.heap.size k w wr) (fun _ _ _ i _ => 256 - (intOf i).toNat)
  case atStart => exact ⟨0, Nat.zero_le _, rfl, rfl, rfl, rfl, Tab.start _⟩
  case round =>
    obtain ⟨k, hk, rfl, rfl, rfl, rfl, htab⟩ := hrel
    have ht := totN_rng k
    have hs := sameN_rng a0 k
    by_cases hlt : k < 256
    · by_cases hb : hexB k = true
      · have hr := hexV_rng k
        have hcr := cntN_rng (hexV k).toNat k
        have hcell := htab.cell (hexV k).toNat (by omega)
        have hfree := htab.free (hexV k).toNat
        have T2 := htab.yes hb
        have HT : Hid (totN (k + 1) = totN k + 1) := tot_yes hb
        clear htab
        have HS : Hid (sameN a0 (k + 1) = sameN a0 k ∧ foldN a0 (k + 1) = foldN a0 k) := same_no a0 (by simp [hitB, hB])
        go_wp2_with (go_at_call 5; refine (hex_any _ _ (by omega) (by omega)).mono ?_; rintro e wx ⟨rfl, hx⟩; obtain rfl := hx.symm; clear hx)
        go_roundw
        case rel => exact ⟨k + 1, by omega, by go_num, val_int HT.out.symm, val_int HS.out.1.symm, val_bool HS.out.2.symm, T2⟩
        case measure => simp [intOf]; omega
      · have hb : hexB k = false := by simpa using hb
        have hv : (hexV k != 0) = false := by rw [hexV_no _ hb]; rfl
        have T2 := htab.no hb
        have HT : Hid (totN (k + 1) = totN k) := tot_no hb
        have HS : Hid (sameN a0 (k + 1) = sameN a0 k ∧ foldN a0 (k + 1) = foldN a0 k) := same_no a0 (by simp [hitB, hb])
        clear htab
        go_wp2_with (go_at_call 5; refine (hex_any _ _ (by omega) (by omega)).mono ?_; rintro e wx ⟨rfl, hx⟩; obtain rfl := hx.symm; clear hx)
        go_roundw
        case rel => exact ⟨k + 1, by omega, by go_num, val_int HT.out.symm, val_int HS.out.1.symm, val_bool HS.out.2.symm, T2⟩
        case measure => simp [intOf]; omega
    · have e256 : k = 256 := by omega
      subst e256
      have ht22 : (totN 256 != 22) = false := by rw [tot_end]; rfl
      clear hk hlt
      have hv0 : (hexV a0 == 0) = true := by rw [hexV_no _ hB]; rfl
      go_wp2
      go_loop [14, 15] (fun d want => ∃ j : Nat, j ≤ 16 ∧ d = .int .i64 j) (fun d _ => 16 - (intOf d).toNat)
      case atStart => exact ⟨0, Nat.zero_le _, rfl⟩
      case round =>
        obtain ⟨j, hj, rfl⟩ := hrel
        by_cases hj16 : j < 16
        · have hc := htab.cell j hj16
          have hend := cnt_end ⟨j, hj16⟩
          by_cases h10 : j < 10
          · have hn : (cntN j 256 != 1) = false := by simp only [if_pos h10] at hend; rw [hend]; rfl
            clear hend
            go_wp2
            go_round
            case rel => exact ⟨j + 1, by omega, by go_num⟩
            case measure => simp [intOf]; omega
          · have hn : (cntN j 256 != 2) = false := by simp only [if_neg h10] at hend; rw [hend]; rfl
            clear hend
            go_wp2
            go_round
            case rel => exact ⟨j + 1, by omega, by go_num⟩
            case measure => simp [intOf]; omega
        · go_wp2
          go_ret
          exact ⟨rfl, htab.bel⟩

set_option maxHeartbeats 1600000 in
set_option maxRecDepth 100000 in
theorem walk_yes (a0 : Int) (h0 : 0 ≤ a0) (h1 : a0 ≤ 255) (hB : hexB a0 = true) (w : World) :
    Calls Try.prog 4 #[.int .u8 a0] w fun e w' => e = .returned (.bool true) ∧ Below w.heap.size w w' := by
  have hsw := swp_rng a0 h0 (by omega)
  go_enter Try.func4, Try.ntmps4
  go_wp2_with (first | (go_at_call 5; refine (hex_any _ _ h0 (by omega)).mono ?_; rintro e wx ⟨rfl, hx⟩; obtain rfl := hx.symm; clear hx) | (go_at_call 8; refine (swp_any _ _ h0 (by omega)).mono ?_; rintro e wx ⟨rfl, hx⟩; obtain rfl := hx.symm; clear hx))
  go_loopw [6, 8, 9, 10] (fun tot same fold i wr => ∃ k : Nat, k ≤ 256 ∧ i = .int .i64 k ∧ tot = .int .i64 (totN k) ∧ same = .int .i64 (sameN a0 k) ∧ fold = .bool (foldN a0 k) ∧ Tab w.heap.size k w wr) (fun _ _ _ i _ => 256 - (intOf i).toNat)
  case atStart => exact ⟨0, Nat.zero_le _, rfl, rfl, rfl, rfl, Tab.start _⟩
  case round =>
    obtain ⟨k, hk, rfl, rfl, rfl, rfl, htab⟩ := hrel
    have ht := totN_rng k
    have hs := sameN_rng a0 k
    by_cases hlt : k < 256
    · by_cases hb : hexB k = true
      · have hr := hexV_rng k
        have hcr := cntN_rng (hexV k).toNat k
        have hcell := htab.cell (hexV k).toNat (by omega)
        have hfree := htab.free (hexV k).toNat
        have T2 := htab.yes hb
        have HT : Hid (totN (k + 1) = totN k + 1) := tot_yes hb
        clear htab
        by_cases hv : hexV k = hexV a0
        · have hvb : (hexV k == hexV a0) = true := by simpa using hv
          have hit : hitB a0 k = true := by simp [hitB, hB, hb, hv]
          clear hv
          by_cases hc : (k : Int) = a0
          · have HS : Hid (sameN a0 (k + 1) = sameN a0 k + 1 ∧ foldN a0 (k + 1) = foldN a0 k) := same_fold a0 hit (.inl hc)
            have hcb : ((k : Int) != a0) = false := by simpa using hc
            clear hc hit
            go_wp2_with (go_at_call 5; refine (hex_any _ _ (by omega) (by omega)).mono ?_; rintro e wx ⟨rfl, hx⟩; obtain rfl := hx.symm; clear hx)
            go_roundw
            case rel => exact ⟨k + 1, by omega, by go_num, val_int HT.out.symm, val_int HS.out.1.symm, val_bool HS.out.2.symm, T2⟩
            case measure => simp [intOf]; omega
          · have hcb : ((k : Int) != a0) = true := by simpa using hc
            by_cases hsc : (k : Int) = swp a0
            · have HS : Hid (sameN a0 (k + 1) = sameN a0 k + 1 ∧ foldN a0 (k + 1) = foldN a0 k) := same_fold a0 hit (.inr hsc)
              have hscb : ((k : Int) != swp a0) = false := by simpa using hsc
              clear hc hsc hit
              go_wp2_with (go_at_call 5; refine (hex_any _ _ (by omega) (by omega)).mono ?_; rintro e wx ⟨rfl, hx⟩; obtain rfl := hx.symm; clear hx)
              go_roundw
              case rel => exact ⟨k + 1, by omega, by go_num, val_int HT.out.symm, val_int HS.out.1.symm, val_bool HS.out.2.symm, T2⟩
              case measure => simp [intOf]; omega
            · have HS : Hid (sameN a0 (k + 1) = sameN a0 k + 1 ∧ foldN a0 (k + 1) = false) := same_other a0 hit hc hsc
              have hscb : ((k : Int) != swp a0) = true := by simpa using hsc
              clear hc hsc hit
              go_wp2_with (go_at_call 5; refine (hex_any _ _ (by omega) (by omega)).mono ?_; rintro e wx ⟨rfl, hx⟩; obtain rfl := hx.symm; clear hx)
              go_roundw
              case rel => exact ⟨k + 1, by omega, by go_num, val_int HT.out.symm, val_int HS.out.1.symm, val_bool HS.out.2.symm, T2⟩
              case measure => simp [intOf]; omega
        · have hvb : (hexV k == hexV a0) = false := by simpa using hv
          have HS : Hid (sameN a0 (k + 1) = sameN a0 k ∧ foldN a0 (k + 1) = foldN a0 k) := same_no a0 (by simp [hitB, hvb])
          clear hv
          go_wp2_with (go_at_call 5; refine (hex_any _ _ (by omega) (by omega)).mono ?_; rintro e wx ⟨rfl, hx⟩; obtain rfl := hx.symm; clear hx)
          go_roundw
          case rel => exact ⟨k + 1, by omega, by go_num, val_int HT.out.symm, val_int HS.out.1.symm, val_bool HS.out.2.symm, T2⟩
          case measure => simp [intOf]; omega
      · have hb : hexB k = false := by simpa using hb
        have hv : (hexV k != 0) = false := by rw [hexV_no _ hb]; rfl
        have T2 := htab.no hb
        have HT : Hid (totN (k + 1) = totN k) := tot_no hb
        have HS : Hid (sameN a0 (k + 1) = sameN a0 k ∧ foldN a0 (k + 1) = foldN a0 k) := same_no a0 (by simp [hitB, hb])
        clear htab
        go_wp2_with (go_at_call 5; refine (hex_any _ _ (by omega) (by omega)).mono ?_; rintro e wx ⟨rfl, hx⟩; obtain rfl := hx.symm; clear hx)
        go_roundw
        case rel => exact ⟨k + 1, by omega, by go_num, val_int HT.out.symm, val_int HS.out.1.symm, val_bool HS.out.2.symm, T2⟩
        case measure => simp [intOf]; omega
    · have e256 : k = 256 := by omega
      subst e256
      have ht22 : (totN 256 != 22) = false := by rw [tot_end]; rfl
      clear hk hlt
      obtain ⟨q1, q2, q3, q4⟩ := end_yes a0 h0 h1 hB
      have Q : Hid (foldN a0 256 = true ∧ sameN a0 256 = (if swp a0 = a0 then 1 else 2)) := ⟨q3, q4⟩
      have hsv : (hexV (swp a0) != hexV a0) = false := by rw [q2]; simp
      clear q2 q3 q4
      go_wp2
      go_loop [14, 15] (fun d want => ∃ j : Nat, j ≤ 16 ∧ d = .int .i64 j) (fun d _ => 16 - (intOf d).toNat)
      case atStart => exact ⟨0, Nat.zero_le _, rfl⟩
      case round =>
        obtain ⟨j, hj, rfl⟩ := hrel
        by_cases hj16 : j < 16
        · have hc := htab.cell j hj16
          have hend := cnt_end ⟨j, hj16⟩
          by_cases h10 : j < 10
          · have hn : (cntN j 256 != 1) = false := by simp only [if_pos h10] at hend; rw [hend]; rfl
            clear hend
            go_wp2
            go_round
            case rel => exact ⟨j + 1, by omega, by go_num⟩
            case measure => simp [intOf]; omega
          · have hn : (cntN j 256 != 2) = false := by simp only [if_neg h10] at hend; rw [hend]; rfl
            clear hend
            go_wp2
            go_round
            case rel => exact ⟨j + 1, by omega, by go_num⟩
            case measure => simp [intOf]; omega
        · have q3 := Q.out.1
          have q4 := Q.out.2
          by_cases hcs : swp a0 = a0
          · have hcb : (swp a0 != a0) = false := by simpa using hcs
            have hq : (sameN a0 256 == 1) = true := by rw [q4, if_pos hcs]; rfl
            clear q4 Q hcs
            go_wp2_with (go_at_call 5; refine (hex_any _ _ (by omega) (by omega)).mono ?_; rintro e wx ⟨rfl, hx⟩; obtain rfl := hx.symm; clear hx)
            go_ret
            exact ⟨rfl, htab.bel⟩
          · have hcb : (swp a0 != a0) = true := by simpa using hcs
            have hq : (sameN a0 256 == 2) = true := by rw [q4, if_neg hcs]; rfl
            clear q4 Q hcs
            go_wp2_with (go_at_call 5; refine (hex_any _ _ (by omega) (by omega)).mono ?_; rintro e wx ⟨rfl, hx⟩; obtain rfl := hx.symm; clear hx)
            go_ret
            exact ⟨rfl, htab.bel⟩

theorem walk (a0 : Int) (w0 : (Lit.int .u8 a0).wf = true) (w : World) :
    Calls Try.prog 4 #[.int .u8 a0] w fun e w' => e = .returned (.bool true) ∧ Below w.heap.size w w' := by
  obtain ⟨h0, h1⟩ := bounds_u8 w0
  cases hB : hexB a0 with
  | true => exact walk_yes a0 h0 (by omega) hB w
  | false => exact walk_no a0 h0 (by omega) hB w

/-! ### THE ROW's STEP: WRITTEN OUT: LEAVE IT -/
set_option maxRecDepth 100000 in
theorem lifted (os : Os) (started : os.Started) (H : Type) (enc : TypeId × Value → H) :
    ReturnsInHanded {} Try.checked os 4 .any (Rows.fnHexDigitCensusSpec.pre6 enc Try.prog Try.f4 Rows.fnHexDigitCensusRow.domain false) (Rows.fnHexDigitCensusSpec.post enc Try.prog Try.f4 false true false false) := by
  refine returnsInHanded_of_change (C := Try.checked) own started (by kernel_rfl) Try.func4
    (ChangeSpec.witness6 (enc := enc) (C := Try.checked) false ⟨#[], #[.int .u8 0], []⟩ 8 (by kernel_rfl) (by kernel_rfl) (by kernel_rfl) (by kernel_rfl)) ?_
  intro W base args ds gs before hval0 hW hcnd _
  have hval : ∀ (j : Nat) t v, Try.f4.params[j]? = some t → args[j]? = some v → Value.okWide Try.prog W .any base t v := hval0
  have hW' := hW
  obtain ⟨p, q, hA0, hV, rfl, hfz, hnd⟩ := hW
  have hA : DataW.TrodAll enc Try.prog W 0 (fun _ => true) true Try.f4.params.toList args.toList ds p := hA0
  rw [Try.params4] at hA hval
  obtain ⟨v0, vs0, d0, ds0, p0, q0, hargs, rfl, rfl, h0, r0⟩ := trodAll_cons hA
  obtain ⟨rfl, rfl, rfl⟩ := trodAll_nil r0
  obtain rfl : args = #[v0] := by cases args; simp_all
  obtain ⟨rfl, rfl⟩ := trodVars_none hV
  obtain ⟨a0, rfl, rfl, rfl, w0⟩ := open_int Try.underlying5 (hval 0 5 v0 rfl rfl) h0
  clear hA0 hval0
  refine (walk a0 w0 W).mono fun e W' ⟨he, bel⟩ => ?_
  subst he
  exact ⟨_, rfl, _, _, _, [], _, [], hW', trodAll_mk1 (shut_bool Try.underlying4 _), (trodAll_cons_mk (shut_int Try.underlying5 w0) trodAll_mk0), rfl, bel.frame _, fun h => by cases h⟩

theorem over : Rows.fnHexDigitCensusRow.holds Try.pinned (OpenSpec.ofChange Rows.fnHexDigitCensusSpec) :=
  OpenClaim.holds_of_wide 4 Try.f4 rfl rfl rfl rfl rfl rfl rfl ⟨rfl, rfl, rfl, rfl, rfl⟩ rfl rfl rfl rfl rfl (by kernel_rfl) Try.func4 (by kernel_rfl)
    (of_decide_eq_true (by kernel_rfl)) (by unfold Func.isWrapper; first | (rw [if_pos (by decide +kernel)]; kernel_rfl) | (rw [if_neg (by decide +kernel)]; exact ⟨rfl, rfl⟩))
    (fun os started H enc _ => lifted os started H enc)

/-- ████ THE STATEMENT ████ -/
theorem proved : Rows.FnHexDigitCensusSaid :=
  over
end Go.Proofs.Qxb6619605a.fnHexDigitCensus
namespace Go.Proofs.Qxb6619605a
theorem hexDigit_census : Rows.FnHexDigitCensusSaid := fnHexDigitCensus.proved
end Go.Proofs.Qxb6619605a
