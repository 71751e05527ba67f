/- ZZThrough (9), ZZHolderParts (19). -/
import Derived.Test.Qxb6619715aGo
import Derived.WalkSmall
namespace Go.Proofs.Qxb6619715a
open Go.ChangeShapes Go.WideShapes Go.ChangeAt Go.RowKit

theorem bdrewN {B : Nat} {a w : World} (h : Below B a w) : ∀ n, Below B a (w.drewN n)
  | 0 => h
  | n + 1 => (bdrewN h n).drew

set_option maxHeartbeats 400000 in
theorem zzthrough_no (N e M : Nat) (ao : Option Addr) (ln cap : Nat) (sure : Bool) (s : Int) (c : Bool) (w : World) (hV : Via w M (N + e) s c) (hno : sure = false ∨ c = true) :
    Calls Try.prog 9 #[.bool sure, .slice ao ln cap, .pointer (some ⟨N + e, 0, none⟩)] w fun ee w' => ee = .returned (.tuple #[.bool false, .slice none 0 0]) ∧ Below w.heap.size w w' := by
  have hth := hide (through_no w.heap.size N e M sure s c (w.alloc (.cells #[.bool sure, .slice ao ln cap] 67)) (by simp) (by simp) (hV.alloc _) hno)
  go_enter Try.func9, Try.ntmps9
  go_wp2_with (go_at_call 17; refine hth.out.mono ?_; rintro ee wx ⟨rfl, k1, k2, k3, k4⟩; simp at k1 k2 k3 k4 ⊢)
  go_quiet (fail)
  go_wp2
  go_ret2
  exact ⟨rfl, bdrewN (((Below.refl _ _).alloc (Nat.le_refl _) _).trans (k4.mono (by omega))) _⟩

set_option maxHeartbeats 400000 in
theorem zzthrough_yes (N n e M : Nat) (ao : Option Addr) (g cap : Nat) (l : List Hd) (s : Int) (w : World) (hV : Via w M (N + e) s false) (hao : 0 < l.length → ao = some ⟨g, 0, none⟩) (hg : g < w.heap.size ∨ l = []) (hH : HoldersAt w g N l) (hl : l.length ≤ 16384) (hO : Okay n l)
    (hN : ∀ i, i < n → IsNode w (N + i)) (he : e < n) :
    Calls Try.prog 9 #[.bool true, .slice ao l.length cap, .pointer (some ⟨N + e, 0, none⟩)] w fun ee w' => ∃ v', ee = .returned (.tuple #[.bool true, v']) ∧ Hv w' N v' (stepL e s l) ∧ Below w.heap.size w w' := by
  have hv : Hv w N (.slice ao l.length cap) l := ⟨ao, g, cap, rfl, hao, hg, hH⟩
  have hth := hide (through_yes w.heap.size N n e M (.slice ao l.length cap) l s (w.alloc (.cells #[.bool true, .slice ao l.length cap] 67)) (by simp) (by simp) (by simp) (hV.alloc _) (hv.below ((Below.refl _ _).alloc (Nat.le_refl _) _)) hl hO (fun i hi => (hN i hi).alloc _) he)
  clear hV hH hO hN hao hg hv
  go_enter Try.func9, Try.ntmps9
  go_wp2_with (go_at_call 17; refine hth.out.mono ?_; rintro ee wx ⟨v', rfl, k1, k2, k5, k3, k4⟩; simp at k1 k2 k3 k4 ⊢)
  go_quiet (fail)
  go_wp2
  go_ret2
  exact ⟨v', rfl, k5.below (bdrewN (Below.refl _ _) _), bdrewN (((Below.refl _ _).alloc (Nat.le_refl _) _).trans (k4.mono (by omega))) _⟩

set_option maxHeartbeats 400000 in
theorem parts_any (x y : Option Addr) (l s : Int) (w : World) :
    Calls Try.prog 19 #[.agg #[.pointer x, .pointer y, .int .i64 l, .int .i64 s]] w fun ee w' => ee = .returned (.tuple #[.pointer x, .pointer y, .int .i64 l, .int .i64 s]) ∧ Below w.heap.size w w' := by
  go_enter Try.func19, Try.ntmps19
  go_wp2
  go_quiet (fail)
  go_wp2
  refine bodyPost_ret (v := .tuple #[.pointer x, .pointer y, .int .i64 l, .int .i64 s]) (by simp [results, Try.results19, go_sem]) rfl ⟨rfl, ?_⟩
  exact bdrewN ((Below.refl _ _).alloc (Nat.le_refl _) _) _
end Go.Proofs.Qxb6619715a
