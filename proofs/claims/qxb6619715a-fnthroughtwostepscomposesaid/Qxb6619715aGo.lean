/- through (17), ZZThrough (9). -/
import Derived.Test.Qxb6619715aStep
import Derived.Deep.RegionLaw
import Derived.BigRegion
namespace Go.Proofs.Qxb6619715a
open Go.ChangeShapes Go.WideShapes Go.ChangeAt Go.RowKit

set_option maxHeartbeats 400000 in
theorem through_no (hb N e M : Nat) (sure : Bool) (s : Int) (c : Bool) (w : World) (h1 : w.cell? ⟨hb, 0, none⟩ = some (.bool sure)) (n1 : hb < w.heap.size) (hV : Via w M (N + e) s c) (hno : sure = false ∨ c = true) :
    Calls Try.prog 17 #[.pointer (some ⟨hb, 0, none⟩), .pointer (some ⟨N + e, 0, none⟩)] w fun ee w' => ee = .returned (.pointer (some ⟨w.heap.size + 1, 0, none⟩)) ∧ w'.cell? ⟨w.heap.size + 1, 0, none⟩ = some (.bool false) ∧ w'.cell? ⟨w.heap.size + 1, 1, none⟩ = some (.slice none 0 0) ∧ w.heap.size + 1 < w'.heap.size ∧ Below w.heap.size w w' := by
  obtain ⟨l, r, n2, n3, n4, _, c1, c2, c3, c4⟩ := hV
  cases sure with
  | false =>
    go_enter Try.func17, Try.ntmps17
    go_wp2
    go_ret
    exact ⟨rfl, by simp, by simp, by simp, ((Below.refl _ _).alloc (Nat.le_refl _) _).alloc (by simp) _⟩
  | true =>
    obtain rfl : c = true := by simpa using hno
    go_enter Try.func17, Try.ntmps17
    go_wp2
    go_ret
    exact ⟨rfl, by simp, by simp, by simp, ((Below.refl _ _).alloc (Nat.le_refl _) _).alloc (by simp) _⟩

/-- the world ahead of the call of ContainsFunc -/
theorem contains_at (N n e : Nat) (ao : Option Addr) (g cap : Nat) (l : List Hd) (w : World) (hao : 0 < l.length → ao = some ⟨g, 0, none⟩) (hg : g < w.heap.size ∨ l = []) (hH : HoldersAt w g N l) (hl : l.length ≤ 16384) (hO : Okay n l)
    (hN : ∀ i, i < n → IsNode w (N + i)) (he : e < n) (b : Bool) (hb : l.any (hitB e) = b) :
    Calls Try.prog 21 #[.slice ao l.length cap, .func (Fn.func 22) #[] #[.pointer (some ⟨w.heap.size, 0, none⟩)]] ((w.alloc (.cells #[.pointer (some ⟨N + e, 0, none⟩)] 28)).alloc (.cells #[.bool true, .slice ao l.length cap] 67)) fun ee w' => ee = .returned (.bool b) ∧ Below (w.heap.size + 2) ((w.alloc (.cells #[.pointer (some ⟨N + e, 0, none⟩)] 28)).alloc (.cells #[.bool true, .slice ao l.length cap] 67)) w' := by
  have hb2 : Below w.heap.size w ((w.alloc (.cells #[.pointer (some ⟨N + e, 0, none⟩)] 28)).alloc (.cells #[.bool true, .slice ao l.length cap] 67)) := ((Below.refl _ _).alloc (Nat.le_refl _) _).alloc (by simp) _
  have := contains_any N n e g cap w.heap.size ao l ((w.alloc (.cells #[.pointer (some ⟨N + e, 0, none⟩)] 28)).alloc (.cells #[.bool true, .slice ao l.length cap] 67)) hao (by omega) (by rcases hg with h | h; exact .inl (by simp; omega); exact .inr h)
    (hH.below hb2 hg) hO (by simp; omega) (by simp) (fun i hi => ((hN i hi).alloc _).alloc _) he
  rw [hb] at this
  refine this.mono fun ee w' ⟨h1, h2⟩ => ⟨h1, ?_⟩
  simpa using h2

set_option maxHeartbeats 400000 in
theorem through_keep (hb N n e M : Nat) (v : Value) (l : List Hd) (s : Int) (w : World) (h1 : w.cell? ⟨hb, 0, none⟩ = some (.bool true)) (h2 : w.cell? ⟨hb, 1, none⟩ = some v) (n1 : hb < w.heap.size) (hV : Via w M (N + e) s false)
    (hv : Hv w N v l) (hl : l.length ≤ 16384) (hO : Okay n l) (hN : ∀ i, i < n → IsNode w (N + i)) (he : e < n) (hany : l.any (hitB e) = false) :
    Calls Try.prog 17 #[.pointer (some ⟨hb, 0, none⟩), .pointer (some ⟨N + e, 0, none⟩)] w fun ee w' => ee = .returned (.pointer (some ⟨w.heap.size + 1, 0, none⟩)) ∧ w'.cell? ⟨w.heap.size + 1, 0, none⟩ = some (.bool true) ∧ w'.cell? ⟨w.heap.size + 1, 1, none⟩ = some v ∧ w.heap.size + 1 < w'.heap.size ∧ Below w.heap.size w w' := by
  obtain ⟨lb, r, n2, n3, n4, _, c1, c2, c3, c4⟩ := hV
  obtain ⟨ao, g, cap, rfl, hao, hg, hH⟩ := hv
  have hct := hide (contains_at N n e ao g cap l w hao hg hH hl hO hN he false hany)
  clear hany hH hg hao hO hN
  go_enter Try.func17, Try.ntmps17
  go_wp2_with (go_at_call 21; refine hct.out.mono ?_; rintro ee wx ⟨rfl, hbx⟩)
  go_ret
  have hz := hbx.size
  simp at hz
  refine ⟨rfl, ?_, ?_, by omega, (((Below.refl _ _).alloc (Nat.le_refl _) _).alloc (by simp) _).trans (hbx.mono (by omega))⟩
  · rw [hbx.cell (by simp)]; simp
  · rw [hbx.cell (by simp)]; simp

/-- what the loop of 'through' holds: the holders ls are kept so far -/
structure Thr (H N e : Nat) (v : Value) (ls : List Hd) (w wr : World) : Prop where
  own : wr.ownsRow (H + 2) 70 4 v ls.length (hcs N ls)
  held : wr.cell? ⟨H + 1, 1, none⟩ = some v
  free : wr.frozen? ⟨H + 1, 1, none⟩ = false
  sure : wr.cell? ⟨H + 1, 0, none⟩ = some (.bool true)
  ev : wr.cell? ⟨H, 0, none⟩ = some (.pointer (some ⟨N + e, 0, none⟩))
  size : H + 2 ≤ wr.heap.size
  bel : Below H w wr

theorem addr_ne {a b c d : Nat} (h : ¬ (a = b ∧ c = d)) : (⟨a, c, none⟩ : Addr) ≠ ⟨b, d, none⟩ := fun e => by injection e with e1 e2; exact h ⟨e1, e2⟩
theorem Thr.start {N e : Nat} {v0 : Value} {w wx : World} (hbx : Below (w.heap.size + 2) ((w.alloc (.cells #[.pointer (some ⟨N + e, 0, none⟩)] 28)).alloc (.cells #[.bool true, v0] 67)) wx) :
    Thr w.heap.size N e (.slice none 0 0) [] w (wx.setCell ⟨w.heap.size + 1, 1, none⟩ (.slice none 0 0)) := by
  have hz := hbx.size
  simp at hz
  refine ⟨World.ownsRow_nil _ _ _ _, ?_, ?_, ?_, ?_, by simpa using hz, ((((Below.refl _ _).alloc (Nat.le_refl _) _).alloc (by simp) _).trans (hbx.mono (by omega))).setCell (by simp) _⟩
  · exact World.cell?_setCell_same _ _ _ (u := v0) (by rw [hbx.cell (by simp)]; simp)
  · rw [World.frozen?_setCell, hbx.frozen (by simp)]; simp
  · rw [World.cell?_setCell_other _ _ _ _ (addr_ne (by omega)), hbx.cell (by simp)]; simp
  · rw [World.cell?_setCell_other _ _ _ _ (addr_ne (by omega)), hbx.cell (by simp)]; simp
theorem own_lt {w : World} {base : Nat} {e : TypeId} {size : Nat} {v : Value} {n : Nat} {xs : List Value} (h : w.ownsRow base e size v n xs) : v.ownBlock ≠ some w.heap.size := by
  rcases h.2 with ⟨rfl, _⟩ | ⟨g, cap, cur, rfl, _, hg, _⟩
  · simp [Value.ownBlock]
  · intro h
    have hg2 : g = w.heap.size := by simpa [Value.ownBlock] using h
    subst hg2
    simp at hg
theorem Thr.alloc {H N e : Nat} {v : Value} {ls : List Hd} {w wr : World} (h : Thr H N e v ls w wr) (o : Obj) : Thr H N e v ls w (wr.alloc o) := by
  have := h.size
  exact ⟨h.own.alloc _, by rw [World.cell?_alloc_past _ _ _ (by omega)]; exact h.held, by rw [World.frozen?_alloc_past _ _ _ (by omega)]; exact h.free, by rw [World.cell?_alloc_past _ _ _ (by omega)]; exact h.sure,
    by rw [World.cell?_alloc_past _ _ _ (by omega)]; exact h.ev, by simp; omega, h.bel.alloc (by omega) _⟩
theorem far_held {H N e : Nat} {v : Value} {ls : List Hd} {w wr w1 : World} {o1 o2 : Obj} (t : Thr H N e v ls w wr) (hgrow : ((wr.alloc o1).alloc o2).drew.grownBy w1 v.ownBlock) : w1.cell? ⟨H + 1, 1, none⟩ = some v := by
  have t2 := (t.alloc o1).alloc o2
  have hz := t2.size
  exact (hgrow.cell_far ⟨H + 1, 1, none⟩ (by show H + 1 < ((wr.alloc o1).alloc o2).heap.size; omega) (Ne.symm (own_ge t.own (Nat.lt_succ_self (H + 1))))).trans t2.held
theorem far_free {H N e : Nat} {v : Value} {ls : List Hd} {w wr w1 : World} {o1 o2 : Obj} (t : Thr H N e v ls w wr) (hgrow : ((wr.alloc o1).alloc o2).drew.grownBy w1 v.ownBlock) : w1.frozen? ⟨H + 1, 1, none⟩ = false := by
  have t2 := (t.alloc o1).alloc o2
  have hz := t2.size
  exact (hgrow.frozen_far ⟨H + 1, 1, none⟩ (by show H + 1 < ((wr.alloc o1).alloc o2).heap.size; omega) (Ne.symm (own_ge t.own (Nat.lt_succ_self (H + 1))))).trans t2.free
theorem Thr.keep {H N e : Nat} {v v' : Value} {ls : List Hd} {w wr w1 : World} {o1 o2 : Obj} (t : Thr H N e v ls w wr) (h : Hd) {cs : List Value} (hcs1 : hc N h = cs)
    (hown : w1.ownsRow (H + 2) 70 4 v' (ls.length + 1) (hcs N ls ++ cs)) (hgrow : ((wr.alloc o1).alloc o2).drew.grownBy w1 v.ownBlock) : Thr H N e v' (ls ++ [h]) w (w1.setCell ⟨H + 1, 1, none⟩ v') := by
  have t2 := (t.alloc o1).alloc o2
  have hz := t2.size
  have hz1 := hgrow.size
  have far : ∀ b o, b < H + 2 → w1.cell? ⟨b, o, none⟩ = ((wr.alloc o1).alloc o2).cell? ⟨b, o, none⟩ := fun b o hb => hgrow.cell_far ⟨b, o, none⟩ (by show b < ((wr.alloc o1).alloc o2).heap.size; omega) (Ne.symm (own_ge t.own hb))
  have farf : ∀ b o, b < H + 2 → w1.frozen? ⟨b, o, none⟩ = ((wr.alloc o1).alloc o2).frozen? ⟨b, o, none⟩ := fun b o hb => hgrow.frozen_far ⟨b, o, none⟩ (by show b < ((wr.alloc o1).alloc o2).heap.size; omega) (Ne.symm (own_ge t.own hb))
  refine ⟨?_, ?_, ?_, ?_, ?_, ?_, ?_⟩
  · refine ownsRow_setCell_below ?_ (by show H + 1 < H + 2; omega) _
    rw [hcs_snoc, hcs1, List.length_append]
    exact hown
  · exact World.cell?_setCell_same _ _ _ ((far _ _ (by omega)).trans t2.held)
  · rw [World.frozen?_setCell, farf _ _ (by omega)]; exact t2.free
  · rw [World.cell?_setCell_other _ _ _ _ (addr_ne (by omega)), far _ _ (by omega)]; exact t2.sure
  · rw [World.cell?_setCell_other _ _ _ _ (addr_ne (by omega)), far _ _ (by omega)]; exact t2.ev
  · have : ((wr.alloc o1).alloc o2).heap.size ≤ w1.heap.size := hz1
    simp only [World.size_setCell]; omega
  · exact (t2.bel.drew.grown hgrow (by show H ≤ ((wr.alloc o1).alloc o2).heap.size; omega) (fun k hk => by have := own_ge' t.own k hk; omega)).setCell (by show H ≤ H + 1; omega) _

set_option maxRecDepth 100000 in
set_option maxHeartbeats 1600000 in
theorem through_loop (hb N n e M : Nat) (v : Value) (l : List Hd) (s : Int) (w : World) (h1 : w.cell? ⟨hb, 0, none⟩ = some (.bool true)) (h2 : w.cell? ⟨hb, 1, none⟩ = some v) (n1 : hb < w.heap.size) (hV : Via w M (N + e) s false)
    (hv : Hv w N v l) (hl : l.length ≤ 16384) (hO : Okay n l) (hN : ∀ i, i < n → IsNode w (N + i)) (he : e < n) (hany : l.any (hitB e) = true) :
    Calls Try.prog 17 #[.pointer (some ⟨hb, 0, none⟩), .pointer (some ⟨N + e, 0, none⟩)] w fun ee w' => ∃ v', ee = .returned (.pointer (some ⟨w.heap.size + 1, 0, none⟩)) ∧ w'.cell? ⟨w.heap.size + 1, 0, none⟩ = some (.bool true) ∧ w'.cell? ⟨w.heap.size + 1, 1, none⟩ = some v' ∧ Hv w' N v' (stepL e s l) ∧ w.heap.size + 1 < w'.heap.size ∧ Below w.heap.size w w' := by
  obtain ⟨lb, r, n2, n3, n4, _, c1, c2, c3, c4⟩ := hV
  obtain ⟨ao, g, cap, rfl, hao, hg, hH⟩ := hv
  obtain ⟨i0, hi0, hz0, hz1, hz2⟩ := info_parts info70
  have hct := hide (contains_at N n e ao g cap l w hao hg hH hl hO hN he true hany)
  clear hany
  go_enter Try.func17, Try.ntmps17
  go_wp2_with (go_at_call 21; refine hct.out.mono ?_; rintro ee wx ⟨rfl, hbx⟩; have hz := hbx.size; simp at hz; have e1 := hbx.cell (p := ⟨w.heap.size + 1, 1, none⟩) (by simp); have e2 := hbx.frozen (p := ⟨w.heap.size + 1, 1, none⟩) (by simp); simp at e1 e2; have e3 := hbx.cell (p := ⟨hb, 1, none⟩) (by simp; omega); rw [World.cell?_alloc_past _ _ _ (by simp; omega), World.cell?_alloc_past _ _ _ n1, h2] at e3)
  go_loopw [8, 56] (fun _ i wr => ∃ (k : Nat) (v : Value), k ≤ l.length ∧ i = .int .i64 k ∧ Thr w.heap.size N e v (stepL e s (l.take k)) w wr) (fun _ i _ => l.length - (intOf i).toNat)
  case atStart => exact ⟨0, .slice none 0 0, Nat.zero_le _, rfl, Thr.start hbx⟩
  case round =>
    obtain ⟨k, v, hk, rfl, ht⟩ := hrel
    clear e1 e2 e3 hbx hct
    by_cases hlt : k < l.length
    · obtain rfl := hao (by omega)
      have hg' : g < w.heap.size := by rcases hg with h | h; exact h; subst h; simp at hlt
      obtain ⟨d0, d1, d2, d3⟩ := hH k hlt
      have hbel := ht.bel
      have hsz := ht.size
      have hx := (hO k hlt).1
      obtain ⟨x, hx'⟩ : ∃ x : Nat, l[k].X.toNat = x := ⟨_, rfl⟩
      obtain ⟨y, hy'⟩ : ∃ y : Nat, l[k].Y.toNat = y := ⟨_, rfl⟩
      obtain ⟨li, hl'⟩ : ∃ li, l[k].L = li := ⟨_, rfl⟩
      obtain ⟨sk, hs'⟩ : ∃ s, l[k].S = s := ⟨_, rfl⟩
      rw [hx'] at d0 hx
      rw [hy'] at d1
      rw [hl'] at d2
      rw [hs'] at d3
      have HX : Hid (l[k].X.toNat = x ∧ l[k].Y.toNat = y ∧ l[k].L = li ∧ l[k].S = sk) := ⟨hx', hy', hl', hs'⟩
      replace d0 := (hbel.cell (p := ⟨g, k * 4, none⟩) hg').trans d0
      replace d1 := (hbel.cell (p := ⟨g, k * 4 + 1, none⟩) hg').trans d1
      replace d2 := (hbel.cell (p := ⟨g, k * 4 + 2, none⟩) hg').trans d2
      replace d3 := (hbel.cell (p := ⟨g, k * 4 + 3, none⟩) hg').trans d3
      unfold np at d0 d1
      have hNx := (hN x hx).below hbel (hN x hx).lt
      have hNe := (hN e he).below hbel (hN e he).lt
      have hq : ∀ o, (binOp .eql 28 (.pointer (some ⟨N + x, 0, none⟩)) (.pointer (some ⟨N + e, 0, none⟩))).run Try.prog (wr.alloc o) = .ok (.bool (x == e)) (wr.alloc o) := fun o => np_eql _ N x e (hNx.alloc o) (hNe.alloc o)
      have f1 : ∀ o, (wr.alloc o).cell? ⟨w.heap.size, 0, none⟩ = some (.pointer (some ⟨N + e, 0, none⟩)) := fun o => (ht.alloc o).ev
      clear hx' hy' hl' hs' hH hO hN hNx hNe h1 h2 c1 c2 c4
      have f2 : ∀ o, (wr.alloc o).cell? ⟨r, 9, none⟩ = some (.int .i64 s) := fun o => ((ht.alloc o).bel.cell (p := ⟨r, 9, none⟩) n4).trans c3
      by_cases hxe : (x == e) = true
      · have HS : Hid (stepL e s (l.take (k + 1)) = stepL e s (l.take k)) := stepL_drop e s l k hlt (by rw [HX.out.1]; exact hxe)
        go_wp2_with fail
        go_roundw
        case rel =>
          refine ⟨k + 1, v, by omega, by go_num, ?_⟩
          rw [HS.out]
          exact ht.alloc _
        case measure => simp [intOf]; omega
      · have hxf : (x == e) = false := by simpa using hxe
        clear hxe
        have HS : Hid (stepL e s (l.take (k + 1)) = stepL e s (l.take k) ++ [fixS s l[k]]) := stepL_keep e s l k hlt (by rw [HX.out.1]; exact hxf)
        have hown := ht.own
        have hlen := stepL_len e s (l.take k)
        have hlen2 : (l.take k).length ≤ k := List.length_take_le _ _
        have g1 : ∀ o, (wr.alloc o).cell? ⟨w.heap.size + 1, 1, none⟩ = some v := fun o => (ht.alloc o).held
        have g2 : ∀ o, (wr.alloc o).frozen? ⟨w.heap.size + 1, 1, none⟩ = false := fun o => (ht.alloc o).free
        have g3 : ∀ o o', ((wr.alloc o).alloc o').frozen? ⟨w.heap.size + 1, 1, none⟩ = false := fun o o' => ((ht.alloc o).alloc o').free
        have nH : v.ownBlock ≠ some (w.heap.size + 1) := own_ge hown (by omega)
        have nW : v.ownBlock ≠ some wr.heap.size := own_lt hown
        have hHz : w.heap.size + 1 < wr.heap.size := by omega
        have hHz' : w.heap.size < wr.heap.size := by omega
        by_cases hneg : sk < 0
        · have HF : Hid (hc N (fixS s l[k]) = [.pointer (some ⟨N + x, 0, none⟩), .pointer (some ⟨N + y, 0, none⟩), .int .i64 li, .int .i64 s]) := by
            have := HX.out
            have hn : l[k].S < 0 := by rw [this.2.2.2]; exact hneg
            show hc N (fixS s l[k]) = _
            simp [fixS, hn, hc, np, this.1, this.2.1, this.2.2.1]
          go_wp2_with fail
          go_region_law
            ((refine step_append_lies _ (by rfl) _ _ _ (by rfl) (w.heap.size + 2) 70 i0 _ 4 32 Try.underlying29 hi0 hz0 hz1 hz2 rfl (by omega) v (stepL e s (l.take k)).length _ (by rfl) (((hown.alloc _).alloc _).drew)
                ⟨wr.heap.size + 1, 0, none⟩ 1 1 [.pointer (some ⟨N + x, 0, none⟩), .pointer (some ⟨N + y, 0, none⟩), .int .i64 li, .int .i64 s] (by rfl) (by rfl) (World.news_of_block (cs := #[.pointer (some ⟨N + x, 0, none⟩), .pointer (some ⟨N + y, 0, none⟩), .int .i64 li, .int .i64 s]) (t := 70) (fr := (0, 0)) (heap_new2 wr _ _)) (by simp [Value.oneCell'])
                (by omega) (by unfold maxLen; omega) (by omega) (by simp; omega) (wr.heap.size + 2) (by simp) ?_; intro gg cap1 w1 hown1 hgrow hat hlt1; have k1 : w1.cell? ⟨w.heap.size + 1, 1, none⟩ = some v := far_held ht hgrow; have k2 : w1.frozen? ⟨w.heap.size + 1, 1, none⟩ = false := far_free ht hgrow))
          all_goals
            go_wp2
            go_roundw
            case rel =>
              refine ⟨k + 1, .slice (some ⟨gg, 0, none⟩) ((stepL e s (l.take k)).length + 1) cap1, by omega, by go_num, ?_⟩
              rw [HS.out]
              exact ht.keep _ HF.out hown1 hgrow
            case measure => simp [intOf]; omega
        · have HF : Hid (hc N (fixS s l[k]) = [.pointer (some ⟨N + x, 0, none⟩), .pointer (some ⟨N + y, 0, none⟩), .int .i64 li, .int .i64 sk]) := by
            have := HX.out
            have hn : ¬ l[k].S < 0 := by rw [this.2.2.2]; exact hneg
            show hc N (fixS s l[k]) = _
            rw [show fixS s l[k] = l[k] from by unfold fixS; rw [if_neg hn]]
            simp [hc, np, this.1, this.2.1, this.2.2.1, this.2.2.2]
          go_wp2_with fail
          go_region_law
            ((refine step_append_lies _ (by rfl) _ _ _ (by rfl) (w.heap.size + 2) 70 i0 _ 4 32 Try.underlying29 hi0 hz0 hz1 hz2 rfl (by omega) v (stepL e s (l.take k)).length _ (by rfl) (((hown.alloc _).alloc _).drew)
                ⟨wr.heap.size + 1, 0, none⟩ 1 1 [.pointer (some ⟨N + x, 0, none⟩), .pointer (some ⟨N + y, 0, none⟩), .int .i64 li, .int .i64 sk] (by rfl) (by rfl) (World.news_of_block (cs := #[.pointer (some ⟨N + x, 0, none⟩), .pointer (some ⟨N + y, 0, none⟩), .int .i64 li, .int .i64 sk]) (t := 70) (fr := (0, 0)) (heap_new2 wr _ _)) (by simp [Value.oneCell'])
                (by omega) (by unfold maxLen; omega) (by omega) (by simp; omega) (wr.heap.size + 2) (by simp) ?_; intro gg cap1 w1 hown1 hgrow hat hlt1; have k1 : w1.cell? ⟨w.heap.size + 1, 1, none⟩ = some v := far_held ht hgrow; have k2 : w1.frozen? ⟨w.heap.size + 1, 1, none⟩ = false := far_free ht hgrow))
          all_goals
            go_wp2
            go_roundw
            case rel =>
              refine ⟨k + 1, .slice (some ⟨gg, 0, none⟩) ((stepL e s (l.take k)).length + 1) cap1, by omega, by go_num, ?_⟩
              rw [HS.out]
              exact ht.keep _ HF.out hown1 hgrow
            case measure => simp [intOf]; omega
    · have ek : k = l.length := by omega
      subst ek
      rw [List.take_length] at ht
      go_wp2
      go_ret
      exact ⟨v, rfl, ht.sure, ht.held, Hv.of_own ht.own, ht.size, ht.bel⟩

theorem through_yes (hb N n e M : Nat) (v : Value) (l : List Hd) (s : Int) (w : World) (h1 : w.cell? ⟨hb, 0, none⟩ = some (.bool true)) (h2 : w.cell? ⟨hb, 1, none⟩ = some v) (n1 : hb < w.heap.size) (hV : Via w M (N + e) s false)
    (hv : Hv w N v l) (hl : l.length ≤ 16384) (hO : Okay n l) (hN : ∀ i, i < n → IsNode w (N + i)) (he : e < n) :
    Calls Try.prog 17 #[.pointer (some ⟨hb, 0, none⟩), .pointer (some ⟨N + e, 0, none⟩)] w fun ee w' => ∃ v', ee = .returned (.pointer (some ⟨w.heap.size + 1, 0, none⟩)) ∧ w'.cell? ⟨w.heap.size + 1, 0, none⟩ = some (.bool true) ∧ w'.cell? ⟨w.heap.size + 1, 1, none⟩ = some v' ∧ Hv w' N v' (stepL e s l) ∧ w.heap.size + 1 < w'.heap.size ∧ Below w.heap.size w w' := by
  cases hany : l.any (hitB e) with
  | true => exact through_loop hb N n e M v l s w h1 h2 n1 hV hv hl hO hN he hany
  | false =>
    refine (through_keep hb N n e M v l s w h1 h2 n1 hV hv hl hO hN he hany).mono fun ee w' ⟨a, b, c, d, f⟩ => ⟨v, a, b, c, ?_, d, f⟩
    rw [stepL_same e s l hany]
    exact hv.below f

theorem Via.alloc {w : World} {M nb : Nat} {s : Int} {c : Bool} (h : Via w M nb s c) (o : Obj) : Via (w.alloc o) M nb s c := h.below ((Below.refl _ _).alloc (Nat.le_refl _) _)

end Go.Proofs.Qxb6619715a
