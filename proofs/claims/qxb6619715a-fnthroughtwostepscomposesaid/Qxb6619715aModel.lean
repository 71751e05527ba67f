/- throughModel (12). -/
import Derived.Test.Qxb6619715aZz
namespace Go.Proofs.Qxb6619715a
open Go.ChangeShapes Go.WideShapes Go.ChangeAt Go.RowKit

theorem info64 : (Try.prog.info? 64).map (fun i => (i.zero, i.size, i.bytes)) = some (some (.agg #[.int .i64 0, .int .i64 0, .int .i64 0, .int .i64 0]), 4, 32) := by kernel_rfl

/-- a hold's four cells -/
def mc (h : Hd) : List Value := [.int .i64 h.X, .int .i64 h.Y, .int .i64 h.L, .int .i64 h.S]
def mcs (hs : List Hd) : List Value := hs.flatMap mc
theorem mcs_snoc (hs : List Hd) (h : Hd) : mcs (hs ++ [h]) = mcs hs ++ mc h := by simp [mcs]
theorem model_drop (e1 e2 : Nat) (s1 s2 : Int) (l : List Hd) (k : Nat) (hk : k < l.length) (h : (l[k].X.toNat == e1) = true ∨ (l[k].X.toNat == e2) = true) : modelL e1 e2 s1 s2 (l.take (k + 1)) = modelL e1 e2 s1 s2 (l.take k) := by
  unfold modelL
  rw [List.take_succ_eq_append_getElem hk, List.filter_append]
  rcases h with h | h <;> simp [h]
theorem model_keep (e1 e2 : Nat) (s1 s2 : Int) (l : List Hd) (k : Nat) (hk : k < l.length) (h : (l[k].X.toNat == e1) = false) (h2 : (l[k].X.toNat == e2) = false) : modelL e1 e2 s1 s2 (l.take (k + 1)) = modelL e1 e2 s1 s2 (l.take k) ++ [fixS s2 (fixS s1 l[k])] := by
  unfold modelL
  rw [List.take_succ_eq_append_getElem hk, List.filter_append]
  simp [h, h2]
theorem model_len (e1 e2 : Nat) (s1 s2 : Int) (l : List Hd) : (modelL e1 e2 s1 s2 l).length ≤ l.length := by
  unfold modelL; rw [List.length_map]; exact List.length_filter_le _ _
theorem fix_nn {s1 s2 : Int} {h : Hd} (a : h.S < 0) (b : s1 < 0) : fixS s2 (fixS s1 h) = { h with S := s2 } := by
  unfold fixS; rw [if_pos a]; dsimp only; rw [if_pos b]
theorem fix_np {s1 s2 : Int} {h : Hd} (a : h.S < 0) (b : ¬ s1 < 0) : fixS s2 (fixS s1 h) = { h with S := s1 } := by
  unfold fixS; rw [if_pos a]; dsimp only; rw [if_neg b]
theorem fix_p {s1 s2 : Int} {h : Hd} (a : ¬ h.S < 0) : fixS s2 (fixS s1 h) = h := by
  unfold fixS; rw [if_neg a, if_neg a]

set_option maxRecDepth 100000 in
set_option maxHeartbeats 1600000 in
theorem model_any (b off cap : Nat) (hs : List Hd) (n e1 e2 : Nat) (s1 s2 : Int) (ao : Option Addr) (w : World) (ha : 0 < hs.length → ao = some ⟨b, off, none⟩) (hl : hs.length ≤ 16384) (hbb : b < w.heap.size ∨ hs = []) (hH : HeldAt w b off hs)
    (hin : ∀ (i : Nat) (h : i < hs.length), 0 ≤ hs[i].X ∧ hs[i].X < n ∧ 0 ≤ hs[i].Y ∧ hs[i].Y < n) :
    Calls Try.prog 12 #[.slice ao hs.length cap, .int .i64 (e1 : Int), .int .i64 (e2 : Int), .int .i64 s1, .int .i64 s2] w fun e w' => ∃ v, e = .returned v ∧ w'.ownsRow w.heap.size 64 4 v (modelL e1 e2 s1 s2 hs).length (mcs (modelL e1 e2 s1 s2 hs)) ∧ Below w.heap.size w w' := by
  obtain ⟨i0, hi0, hz0, hz1, hz2⟩ := info_parts info64
  go_enter Try.func12, Try.ntmps12
  go_wp2_with fail
  go_loopw [11, 12, 13] (fun v i _ wr => ∃ k : Nat, k ≤ hs.length ∧ i = .int .i64 k ∧ wr.ownsRow w.heap.size 64 4 v (modelL e1 e2 s1 s2 (hs.take k)).length (mcs (modelL e1 e2 s1 s2 (hs.take k))) ∧ Below w.heap.size w wr) (fun _ i _ _ => hs.length - (intOf i).toNat)
  case atStart => exact ⟨0, Nat.zero_le _, rfl, World.ownsRow_nil _ _ _ _, Below.refl _ _⟩
  case round =>
    obtain ⟨k, hk, rfl, hown, hbel⟩ := hrel
    by_cases hlt : k < hs.length
    · obtain rfl := ha (by omega)
      have hbb' : b < w.heap.size := by rcases hbb with h | h; exact h; subst h; simp at hlt
      have hsz := hbel.size
      obtain ⟨c0, c1, c2, c3⟩ := hH k hlt
      obtain ⟨hx0, hx1, hy0, hy1⟩ := hin k hlt
      obtain ⟨x, hx⟩ : ∃ x : Nat, hs[k].X = x := ⟨hs[k].X.toNat, by omega⟩
      obtain ⟨y, hy⟩ : ∃ y : Nat, hs[k].Y = y := ⟨hs[k].Y.toNat, by omega⟩
      obtain ⟨li, hL⟩ : ∃ l, hs[k].L = l := ⟨_, rfl⟩
      obtain ⟨sk, hS⟩ : ∃ s, hs[k].S = s := ⟨_, rfl⟩
      rw [hx] at c0 hx0 hx1
      rw [hy] at c1 hy0 hy1
      rw [hL] at c2
      rw [hS] at c3
      have HX : Hid (hs[k].X = x ∧ hs[k].Y = y ∧ hs[k].L = li ∧ hs[k].S = sk) := ⟨hx, hy, hL, hS⟩
      replace c0 := (hbel.cell (p := ⟨b, off + k * 4, none⟩) hbb').trans c0
      replace c1 := (hbel.cell (p := ⟨b, off + k * 4 + 1, none⟩) hbb').trans c1
      replace c2 := (hbel.cell (p := ⟨b, off + k * 4 + 2, none⟩) hbb').trans c2
      replace c3 := (hbel.cell (p := ⟨b, off + k * 4 + 3, none⟩) hbb').trans c3
      have hxt : hs[k].X.toNat = x := by omega
      have hlen := model_len e1 e2 s1 s2 (hs.take k)
      have hlen2 : (hs.take k).length ≤ k := List.length_take_le _ _
      by_cases q1 : x = e1
      · have HS : Hid (modelL e1 e2 s1 s2 (hs.take (k + 1)) = modelL e1 e2 s1 s2 (hs.take k)) := model_drop e1 e2 s1 s2 hs k hlt (.inl (by rw [hxt]; simpa using q1))
        have q1b : ((x : Int) == (e1 : Int)) = true := by simp; omega
        clear hx hy hL hS hH hin hxt q1
        go_wp2_with fail
        go_roundw
        case rel =>
          refine ⟨k + 1, by omega, by go_num, ?_, hbel.alloc hsz _⟩
          rw [HS.out]
          exact hown.alloc _
        case measure => simp [intOf]; omega
      · have q1b : ((x : Int) == (e1 : Int)) = false := by simp; omega
        by_cases q2 : x = e2
        · have HS : Hid (modelL e1 e2 s1 s2 (hs.take (k + 1)) = modelL e1 e2 s1 s2 (hs.take k)) := model_drop e1 e2 s1 s2 hs k hlt (.inr (by rw [hxt]; simpa using q2))
          have q2b : ((x : Int) == (e2 : Int)) = true := by simp; omega
          clear hx hy hL hS hH hin hxt q1 q2
          go_wp2_with fail
          go_roundw
          case rel =>
            refine ⟨k + 1, by omega, by go_num, ?_, hbel.alloc hsz _⟩
            rw [HS.out]
            exact hown.alloc _
          case measure => simp [intOf]; omega
        · have q2b : ((x : Int) == (e2 : Int)) = false := by simp; omega
          have HS : Hid (modelL e1 e2 s1 s2 (hs.take (k + 1)) = modelL e1 e2 s1 s2 (hs.take k) ++ [fixS s2 (fixS s1 hs[k])]) := model_keep e1 e2 s1 s2 hs k hlt (by rw [hxt]; simpa using q1) (by rw [hxt]; simpa using q2)
          clear hx hy hL hS hH hin hxt q1 q2
          by_cases n1 : sk < 0
          · by_cases n2 : s1 < 0
            · have HF : Hid (mc (fixS s2 (fixS s1 hs[k])) = [.int .i64 (x : Int), .int .i64 (y : Int), .int .i64 li, .int .i64 s2]) := by
                have := HX.out
                show mc (fixS s2 (fixS s1 hs[k])) = _
                rw [fix_nn (by rw [this.2.2.2]; exact n1) n2]
                simp [mc, this.1, this.2.1, this.2.2.1]
              go_wp2_with (at_builtin; refine wpList_append_lies _ rfl _ _ 22 rfl w.heap.size 64 i0 _ 4 32 Try.underlying22 hi0 hz0 hz1 hz2 rfl (by omega) u11 (modelL e1 e2 s1 s2 (hs.take k)).length _ rfl ((hown.alloc _).alloc _) ⟨wr.heap.size + 1, 0, none⟩ 1 1 [.int .i64 (x : Int), .int .i64 (y : Int), .int .i64 li, .int .i64 s2] rfl rfl (World.news_of_block (cs := #[.int .i64 (x : Int), .int .i64 (y : Int), .int .i64 li, .int .i64 s2]) (t := 64) (fr := (0, 0)) (heap_new2 wr _ _)) (by simp [Value.oneCell']) (by omega) (by unfold maxLen; omega) (by omega) (by simp; omega) (wr.heap.size + 2) (by simp) ?_; intro gg cap1 w1 hown1 hgrow hat hlt1)
              go_roundw
              case rel =>
                refine ⟨k + 1, by omega, by go_num, ?_, ((hbel.alloc hsz _).alloc (by simp; omega) _).grown hgrow (by simp; omega) (own_ge' hown)⟩
                rw [HS.out, mcs_snoc, HF.out, List.length_append]
                exact hown1
              case measure => simp [intOf]; omega
            · have HF : Hid (mc (fixS s2 (fixS s1 hs[k])) = [.int .i64 (x : Int), .int .i64 (y : Int), .int .i64 li, .int .i64 s1]) := by
                have := HX.out
                show mc (fixS s2 (fixS s1 hs[k])) = _
                rw [fix_np (by rw [this.2.2.2]; exact n1) n2]
                simp [mc, this.1, this.2.1, this.2.2.1]
              go_wp2_with (at_builtin; refine wpList_append_lies _ rfl _ _ 22 rfl w.heap.size 64 i0 _ 4 32 Try.underlying22 hi0 hz0 hz1 hz2 rfl (by omega) u11 (modelL e1 e2 s1 s2 (hs.take k)).length _ rfl ((hown.alloc _).alloc _) ⟨wr.heap.size + 1, 0, none⟩ 1 1 [.int .i64 (x : Int), .int .i64 (y : Int), .int .i64 li, .int .i64 s1] rfl rfl (World.news_of_block (cs := #[.int .i64 (x : Int), .int .i64 (y : Int), .int .i64 li, .int .i64 s1]) (t := 64) (fr := (0, 0)) (heap_new2 wr _ _)) (by simp [Value.oneCell']) (by omega) (by unfold maxLen; omega) (by omega) (by simp; omega) (wr.heap.size + 2) (by simp) ?_; intro gg cap1 w1 hown1 hgrow hat hlt1)
              go_roundw
              case rel =>
                refine ⟨k + 1, by omega, by go_num, ?_, ((hbel.alloc hsz _).alloc (by simp; omega) _).grown hgrow (by simp; omega) (own_ge' hown)⟩
                rw [HS.out, mcs_snoc, HF.out, List.length_append]
                exact hown1
              case measure => simp [intOf]; omega
          · have HF : Hid (mc (fixS s2 (fixS s1 hs[k])) = [.int .i64 (x : Int), .int .i64 (y : Int), .int .i64 li, .int .i64 sk]) := by
              have := HX.out
              show mc (fixS s2 (fixS s1 hs[k])) = _
              rw [fix_p (by rw [this.2.2.2]; exact n1)]
              simp [mc, this.1, this.2.1, this.2.2.1, this.2.2.2]
            go_wp2_with (at_builtin; refine wpList_append_lies _ rfl _ _ 22 rfl w.heap.size 64 i0 _ 4 32 Try.underlying22 hi0 hz0 hz1 hz2 rfl (by omega) u11 (modelL e1 e2 s1 s2 (hs.take k)).length _ rfl ((hown.alloc _).alloc _) ⟨wr.heap.size + 1, 0, none⟩ 1 1 [.int .i64 (x : Int), .int .i64 (y : Int), .int .i64 li, .int .i64 sk] rfl rfl (World.news_of_block (cs := #[.int .i64 (x : Int), .int .i64 (y : Int), .int .i64 li, .int .i64 sk]) (t := 64) (fr := (0, 0)) (heap_new2 wr _ _)) (by simp [Value.oneCell']) (by omega) (by unfold maxLen; omega) (by omega) (by simp; omega) (wr.heap.size + 2) (by simp) ?_; intro gg cap1 w1 hown1 hgrow hat hlt1)
            go_roundw
            case rel =>
              refine ⟨k + 1, by omega, by go_num, ?_, ((hbel.alloc hsz _).alloc (by simp; omega) _).grown hgrow (by simp; omega) (own_ge' hown)⟩
              rw [HS.out, mcs_snoc, HF.out, List.length_append]
              exact hown1
            case measure => simp [intOf]; omega
    · have ek : k = hs.length := by omega
      subst ek
      rw [List.take_length] at hown
      go_wp2
      go_ret
      exact ⟨_, rfl, hown, hbel⟩
end Go.Proofs.Qxb6619715a
