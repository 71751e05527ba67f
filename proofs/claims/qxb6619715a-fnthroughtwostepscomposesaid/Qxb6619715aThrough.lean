/- through$1 (22), slices.IndexFunc (24), slices.ContainsFunc (21), through (17), ZZThrough (9). -/
import Derived.Test.Qxb6619715aHolders
import Derived.Deep.QuietTactic
import Derived.BigQuiet
import Derived.Laws.EntriesVeiled
namespace Go.Proofs.Qxb6619715a
open Go.ChangeShapes Go.WideShapes Go.ChangeAt Go.RowKit

theorem hide {p : Prop} (h : p) : Hid p := h

/-- the step looks at this holder: its x is the event, or its source is not yet told -/
def hitB (e : Nat) (h : Hd) : Bool := (h.X.toNat == e) || decide (h.S < 0)

theorem np_eql (w : World) (N x e : Nat) (hx : IsNode w (N + x)) (he : IsNode w (N + e)) :
    (binOp .eql 28 (.pointer (some ⟨N + x, 0, none⟩)) (.pointer (some ⟨N + e, 0, none⟩))).run Try.prog w = .ok (.bool (x == e)) w := by
  obtain ⟨f, c, hc, _⟩ := hx
  obtain ⟨g, d, hd, _⟩ := he
  rw [ptr_eql w (N + x) (N + e) ⟨c, hc⟩ ⟨d, hd⟩]
  have : (N + x == N + e) = (x == e) := by rw [Bool.eq_iff_iff]; simp
  rw [this]

set_option maxHeartbeats 400000 in
theorem clo_any (N e x y : Nat) (l s : Int) (cb : Nat) (w : World) (hcb : cb < w.heap.size) (hc : w.cell? ⟨cb, 0, none⟩ = some (.pointer (some ⟨N + e, 0, none⟩))) (hx : IsNode w (N + x)) (he : IsNode w (N + e)) :
    Calls Try.prog 22 #[.agg #[.pointer (some ⟨N + x, 0, none⟩), .pointer (some ⟨N + y, 0, none⟩), .int .i64 l, .int .i64 s], .pointer (some ⟨cb, 0, none⟩)] w fun ee w' => ee = .returned (.bool ((x == e) || decide (s < 0))) ∧ Below w.heap.size w w' := by
  have hq : ∀ o, (binOp .eql 28 (.pointer (some ⟨N + x, 0, none⟩)) (.pointer (some ⟨N + e, 0, none⟩))).run Try.prog (w.alloc o) = .ok (.bool (x == e)) (w.alloc o) := fun o => np_eql _ N x e (hx.alloc o) (he.alloc o)
  by_cases hxe : (x == e) = true
  · go_enter Try.func22, Try.ntmps22
    go_wp2
    go_ret
    exact ⟨ret_bool (by rw [hxe]; rfl), (Below.refl _ _).alloc (Nat.le_refl _) _⟩
  · have hxf : (x == e) = false := by simpa using hxe
    clear hxe
    go_enter Try.func22, Try.ntmps22
    go_wp2
    go_ret
    exact ⟨ret_bool (by rw [hxf, Bool.false_or]), (Below.refl _ _).alloc (Nat.le_refl _) _⟩

/-- the holders l lie at the head of block g -/
def HoldersAt (w : World) (g N : Nat) (l : List Hd) : Prop :=
  ∀ (i : Nat) (h : i < l.length), w.cell? ⟨g, i * 4, none⟩ = some (np N l[i].X.toNat) ∧ w.cell? ⟨g, i * 4 + 1, none⟩ = some (np N l[i].Y.toNat) ∧ w.cell? ⟨g, i * 4 + 2, none⟩ = some (.int .i64 l[i].L) ∧ w.cell? ⟨g, i * 4 + 3, none⟩ = some (.int .i64 l[i].S)
/-- each holder's x is one of the n nodes -/
def Okay (n : Nat) (l : List Hd) : Prop := ∀ (i : Nat) (h : i < l.length), l[i].X.toNat < n ∧ l[i].Y.toNat < n

set_option maxHeartbeats 800000 in
theorem index_any (N n e g cap cb : Nat) (ao : Option Addr) (l : List Hd) (w : World) (hao : 0 < l.length → ao = some ⟨g, 0, none⟩) (hl : l.length ≤ 1000000) (hg : g < w.heap.size ∨ l = []) (hH : HoldersAt w g N l) (hO : Okay n l)
    (hcb : cb < w.heap.size) (hc : w.cell? ⟨cb, 0, none⟩ = some (.pointer (some ⟨N + e, 0, none⟩))) (hN : ∀ i, i < n → IsNode w (N + i)) (he : e < n) :
    Calls Try.prog 24 #[.slice ao l.length cap, .func (Fn.func 22) #[] #[.pointer (some ⟨cb, 0, none⟩)]] w fun ee w' => ∃ r : Int, ee = .returned (.int .i64 r) ∧ decide (0 ≤ r) = l.any (hitB e) ∧ Below w.heap.size w w' := by
  go_enter Try.func24, Try.ntmps24
  go_wp2
  go_loopw [5, 8] (fun _ i wr => ∃ k : Nat, k ≤ l.length ∧ i = .int .i64 k ∧ (∀ (i : Nat) (h : i < l.length), i < k → hitB e l[i] = false) ∧ Below w.heap.size w wr) (fun _ i _ => l.length - (intOf i).toNat)
  case atStart => exact ⟨0, Nat.zero_le _, rfl, fun _ _ h => absurd h (Nat.not_lt_zero _), Below.refl _ _⟩
  case round =>
    obtain ⟨k, hk, rfl, hno, hbel⟩ := hrel
    have HN : Hid (∀ (i : Nat) (h : i < l.length), i < k → hitB e l[i] = false) := hno
    clear hno
    by_cases hlt : k < l.length
    · obtain rfl := hao (by omega)
      have hg' : g < w.heap.size := by rcases hg with h | h; exact h; subst h; simp at hlt
      obtain ⟨c0, c1, c2, c3⟩ := hH k hlt
      have hx := (hO k hlt).1
      have hsz := hbel.size
      have HH : Hid (hitB e l[k] = ((l[k].X.toNat == e) || decide (l[k].S < 0))) := rfl
      obtain ⟨x, hx'⟩ : ∃ x : Nat, l[k].X.toNat = x := ⟨_, rfl⟩
      obtain ⟨y, hy'⟩ : ∃ y : Nat, l[k].Y.toNat = y := ⟨_, rfl⟩
      obtain ⟨li, hl'⟩ : ∃ li, l[k].L = li := ⟨_, rfl⟩
      obtain ⟨s, hs'⟩ : ∃ s, l[k].S = s := ⟨_, rfl⟩
      rw [hx'] at c0 hx HH
      rw [hy'] at c1
      rw [hl'] at c2
      rw [hs'] at c3 HH
      replace c0 := (hbel.cell (p := ⟨g, k * 4, none⟩) hg').trans c0
      replace c1 := (hbel.cell (p := ⟨g, k * 4 + 1, none⟩) hg').trans c1
      replace c2 := (hbel.cell (p := ⟨g, k * 4 + 2, none⟩) hg').trans c2
      replace c3 := (hbel.cell (p := ⟨g, k * 4 + 3, none⟩) hg').trans c3
      have hcw := (hbel.cell (p := ⟨cb, 0, none⟩) hcb).trans hc
      have hNx := (hN x hx).below hbel (hN x hx).lt
      have hNe := (hN e he).below hbel (hN e he).lt
      unfold np at c0 c1
      clear hx' hy' hl' hs' hH hO hN hc
      have hcl := clo_any N e x y li s cb wr (by omega) hcw hNx hNe
      obtain ⟨hit, hhit⟩ : ∃ hit, ((x == e) || decide (s < 0)) = hit := ⟨_, rfl⟩
      rw [hhit] at hcl HH
      have CL := hide hcl
      clear hcl hhit
      cases hit with
      | true =>
        go_wp2_with (go_at_call 22; refine CL.out.mono ?_; rintro ee wx ⟨rfl, hbx⟩)
        go_ret
        refine ⟨_, rfl, ?_, hbel.trans (hbx.mono hsz)⟩
        have h1 : l.any (hitB e) = true := List.any_eq_true.2 ⟨l[k], List.getElem_mem hlt, HH.out⟩
        rw [h1]
        exact decide_eq_true (by omega)
      | false =>
        go_wp2_with (go_at_call 22; refine CL.out.mono ?_; rintro ee wx ⟨rfl, hbx⟩)
        go_roundw
        case rel =>
          refine ⟨k + 1, by omega, by go_num, fun i h hik => ?_, hbel.trans (hbx.mono hsz)⟩
          by_cases ek : i = k
          · subst ek; exact HH.out
          · exact HN.out i h (by omega)
        case measure => simp [intOf]; omega
    · go_wp2
      go_ret
      refine ⟨_, rfl, ?_, hbel⟩
      have h1 : l.any (hitB e) = false := by
        rw [List.any_eq_false]
        intro h hm
        obtain ⟨i, hi, rfl⟩ := List.getElem_of_mem hm
        rw [HN.out i hi (by omega)]
        simp
      rw [h1]
      rfl

theorem contains_any (N n e g cap cb : Nat) (ao : Option Addr) (l : List Hd) (w : World) (hao : 0 < l.length → ao = some ⟨g, 0, none⟩) (hl : l.length ≤ 1000000) (hg : g < w.heap.size ∨ l = []) (hH : HoldersAt w g N l) (hO : Okay n l)
    (hcb : cb < w.heap.size) (hc : w.cell? ⟨cb, 0, none⟩ = some (.pointer (some ⟨N + e, 0, none⟩))) (hN : ∀ i, i < n → IsNode w (N + i)) (he : e < n) :
    Calls Try.prog 21 #[.slice ao l.length cap, .func (Fn.func 22) #[] #[.pointer (some ⟨cb, 0, none⟩)]] w fun ee w' => ee = .returned (.bool (l.any (hitB e))) ∧ Below w.heap.size w w' := by
  have hix := hide (index_any N n e g cap cb ao l w hao hl hg hH hO hcb hc hN he)
  clear hH hO hN hc hao hg
  go_enter Try.func21, Try.ntmps21
  go_wp2_with (go_at_call 24; refine hix.out.mono ?_; rintro ee wx ⟨r, rfl, hr, hbx⟩)
  go_ret
  exact ⟨rfl, hbx⟩
end Go.Proofs.Qxb6619715a
