/- ZZMakeHolder (18), makeHolders (10). -/
import Derived.Test.Qxb6619715aNodes
import Derived.WalkSpells
import Derived.StillTactics
import Derived.OwnWalk
import Derived.Laws.Pointers
import Derived.Deep.RegionHeld3
import Derived.Deep.AppendLies
import Derived.Deep.DrawnRows
namespace Go.Proofs.Qxb6619715a
open Go.ChangeShapes Go.WideShapes Go.ChangeAt Go.RowKit

theorem info70 : (Try.prog.info? 70).map (fun i => (i.zero, i.size, i.bytes)) = some (some (.agg #[.pointer none, .pointer none, .int .i64 0, .int .i64 0]), 4, 32) := by kernel_rfl

theorem makeHolder_any (x y : Option Addr) (l s : Int) (w : World) :
    Calls Try.prog 18 #[.pointer x, .pointer y, .int .i64 l, .int .i64 s] w fun e w' => e = .returned (.agg #[.pointer x, .pointer y, .int .i64 l, .int .i64 s]) ∧ w.alloc (.cells #[.pointer x, .pointer y, .int .i64 l, .int .i64 s] 70) = w' := by
  go_enter Try.func18, Try.ntmps18
  go_wp2
  exact bodyPost_ret (v := .agg #[.pointer x, .pointer y, .int .i64 l, .int .i64 s]) (by simp [results, Try.results18, go_sem]) rfl ⟨rfl, rfl⟩

/-- a holder's four cells, the nodes lying from block N on -/
def hc (N : Nat) (h : Hd) : List Value := [np N h.X.toNat, np N h.Y.toNat, .int .i64 h.L, .int .i64 h.S]
def hcs (N : Nat) (hs : List Hd) : List Value := hs.flatMap (hc N)
theorem hcs_len (N : Nat) : ∀ hs : List Hd, (hcs N hs).length = hs.length * 4
  | [] => rfl
  | h :: t => by have := hcs_len N t; simp [hcs, hc] at this ⊢; omega
theorem hcs_snoc (N : Nat) (hs : List Hd) (h : Hd) : hcs N (hs ++ [h]) = hcs N hs ++ hc N h := by simp [hcs]

theorem hcs_take (N : Nat) (hs : List Hd) (k : Nat) (h : k < hs.length) : hcs N (hs.take (k + 1)) = hcs N (hs.take k) ++ hc N hs[k] := by
  rw [List.take_succ_eq_append_getElem h, hcs_snoc]
theorem hc_eq (N : Nat) {h : Hd} {x y : Nat} {l s : Int} (e : h.X = x ∧ h.Y = y ∧ h.L = l ∧ h.S = s) : hc N h = [.pointer (some ⟨N + x, 0, none⟩), .pointer (some ⟨N + y, 0, none⟩), .int .i64 l, .int .i64 s] := by
  obtain ⟨e1, e2, e3, e4⟩ := e
  simp [hc, np, e1, e2, e3, e4]

/-- the row of the n nodes lies in block B -/
def NodeRow (w : World) (B N n : Nat) : Prop := ∀ i, i < n → w.cell? ⟨B, i, none⟩ = some (np N i)

theorem own_ge {w : World} {base : Nat} {e : TypeId} {size : Nat} {v : Value} {n : Nat} {xs : List Value} (h : w.ownsRow base e size v n xs) {b : Nat} (hb : b < base) : v.ownBlock ≠ some b := by
  rcases h.2 with ⟨rfl, _⟩ | ⟨g, cap, cur, rfl, hg, _⟩
  · simp [Value.ownBlock]
  · simp only [Value.ownBlock, ne_eq, Option.some.injEq]; omega
theorem own_ge' {w : World} {base : Nat} {e : TypeId} {size : Nat} {v : Value} {n : Nat} {xs : List Value} (h : w.ownsRow base e size v n xs) : ∀ k, v.ownBlock = some k → base ≤ k := by
  intro k hk
  rcases h.2 with ⟨rfl, _⟩ | ⟨g, cap, cur, rfl, hg, _⟩
  · simp [Value.ownBlock] at hk
  · simp only [Value.ownBlock, Option.some.injEq] at hk; omega
theorem heap_new2 (w : World) (o o' : Obj) : ((w.alloc o).alloc o').heap[w.heap.size + 1]? = some o' := by
  have := heap_alloc_new (w.alloc o) o'
  simpa using this

set_option maxRecDepth 100000 in
set_option maxHeartbeats 1600000 in
theorem makeHolders_some (b off cap : Nat) (hs : List Hd) (B N n : Nat) (a : Addr) (w : World) (ha : 0 < hs.length → a = ⟨b, off, none⟩) (hl : hs.length ≤ 16384) (hbb : b < w.heap.size ∨ hs = []) (hH : HeldAt w b off hs)
    (hB : B < w.heap.size) (hR : NodeRow w B N n) (hin : ∀ (i : Nat) (h : i < hs.length), 0 ≤ hs[i].X ∧ hs[i].X < n ∧ 0 ≤ hs[i].Y ∧ hs[i].Y < n) :
    Calls Try.prog 10 #[.slice (some a) hs.length cap, .slice (some ⟨B, 0, none⟩) n n] w fun e w' => ∃ v, e = .returned v ∧ w'.ownsRow w.heap.size 70 4 v hs.length (hcs N hs) ∧ Below w.heap.size w w' := by
  obtain ⟨i0, hi0, hz0, hz1, hz2⟩ := info_parts info70
  have q22 : ∀ (w : World) (a : Option Addr) (n c n' c' : Nat), (binOp .eql 22 (.slice a n c) (.slice none n' c')).run Try.prog w = .ok (.bool a.isNone) w := fun w a n c n' c' => Lib.run_eql_slice_nil w _ _ a n c n' c' Try.underlying22
  go_enter Try.func10, Try.ntmps10
  go_wp2_with (at_make; refine wpList_make_own _ rfl _ _ 29 rfl w.heap.size 70 i0 _ 4 Try.underlying29 hi0 hz0 hz1 .i64 .i64 _ hs.length rfl rfl rfl (by rw [hz2]; omega) (by unfold maxLen; omega) (Nat.le_refl _) ?_; intro w0 hown0 hgrow0)
  go_loopw [5, 6] (fun v i wr => ∃ k : Nat, k ≤ hs.length ∧ i = .int .i64 k ∧ wr.ownsRow w.heap.size 70 4 v k (hcs N (hs.take k)) ∧ Below w.heap.size w wr) (fun _ i _ => hs.length - (intOf i).toNat)
  case atStart => exact ⟨0, Nat.zero_le _, rfl, by simpa [hcs] using hown0, (Below.refl _ _).grown hgrow0 (Nat.le_refl _) (fun _ h => by cases h)⟩
  case round =>
    obtain ⟨k, hk, rfl, hown, hbel⟩ := hrel
    by_cases hlt : k < hs.length
    · obtain rfl := ha (by omega)
      have hbb' : b < w.heap.size := by rcases hbb with h | h; exact h; subst h; simp at hlt
      have hsz := hbel.size
      obtain ⟨c0, c1, c2, c3⟩ := hH k hlt
      obtain ⟨hx0, hx1, hy0, hy1⟩ := hin k hlt
      obtain ⟨x, hx⟩ : ∃ x : Nat, hs[k].X = x := ⟨hs[k].X.toNat, by omega⟩
      obtain ⟨y, hy⟩ : ∃ y : Nat, hs[k].Y = y := ⟨hs[k].Y.toNat, by omega⟩
      obtain ⟨l, hL⟩ : ∃ l, hs[k].L = l := ⟨_, rfl⟩
      obtain ⟨s, hS⟩ : ∃ s, hs[k].S = s := ⟨_, rfl⟩
      rw [hx] at c0 hx0 hx1
      rw [hy] at c1 hy0 hy1
      rw [hL] at c2
      rw [hS] at c3
      have HX : Hid (hs[k].X = x ∧ hs[k].Y = y ∧ hs[k].L = l ∧ hs[k].S = s) := ⟨hx, hy, hL, hS⟩
      replace c0 := (hbel.cell (p := ⟨b, off + k * 4, none⟩) hbb').trans c0
      replace c1 := (hbel.cell (p := ⟨b, off + k * 4 + 1, none⟩) hbb').trans c1
      replace c2 := (hbel.cell (p := ⟨b, off + k * 4 + 2, none⟩) hbb').trans c2
      replace c3 := (hbel.cell (p := ⟨b, off + k * 4 + 3, none⟩) hbb').trans c3
      have d0 := (hbel.cell (p := ⟨B, x, none⟩) hB).trans (hR x (by omega))
      have d1 := (hbel.cell (p := ⟨B, y, none⟩) hB).trans (hR y (by omega))
      unfold np at d0 d1
      have nb : u5.ownBlock ≠ some b := own_ge hown hbb'
      have nB : u5.ownBlock ≠ some B := own_ge hown hB
      have hk0 : (0 : Int) ≤ (k : Int) := Int.natCast_nonneg _
      have hk1 : (k : Int) < (hs.length : Int) := by omega
      have hbz : b < wr.heap.size := by omega
      have hBz : B < wr.heap.size := by omega
      clear hx hy hL hS hH hR hin
      go_wp2_with fail
      go_region_held3 (fun w' => w'.cell? ⟨b, off + k * 4, none⟩ = some (.int .i64 (x : Int)) ∧ w'.cell? ⟨b, off + k * 4 + 1, none⟩ = some (.int .i64 (y : Int)) ∧ w'.cell? ⟨b, off + k * 4 + 2, none⟩ = some (.int .i64 l) ∧ w'.cell? ⟨b, off + k * 4 + 3, none⟩ = some (.int .i64 s) ∧
          w'.cell? ⟨B, x, none⟩ = some (.pointer (some ⟨N + x, 0, none⟩)) ∧ w'.cell? ⟨B, y, none⟩ = some (.pointer (some ⟨N + y, 0, none⟩)))
        (first
          | go_keep
          | (go_split_ands
             refine ⟨?_, ?_, ?_, ?_, ?_, ?_⟩
             · (rw [hgrow.cell_far _ (by simp; omega) (Ne.symm nb)]; assumption)
             · (rw [hgrow.cell_far _ (by simp; omega) (Ne.symm nb)]; assumption)
             · (rw [hgrow.cell_far _ (by simp; omega) (Ne.symm nb)]; assumption)
             · (rw [hgrow.cell_far _ (by simp; omega) (Ne.symm nb)]; assumption)
             · (rw [hgrow.cell_far _ (by simp; omega) (Ne.symm nB)]; assumption)
             · (rw [hgrow.cell_far _ (by simp; omega) (Ne.symm nB)]; assumption)))
        (first
          | (go_at_call 18; refine (makeHolder_any _ _ _ _ _).mono ?_; rintro e w' ⟨rfl, rfl⟩)
          | (refine step_append_lies _ (by rfl) _ _ _ (by rfl) w.heap.size 70 i0 _ 4 32 Try.underlying29 hi0 hz0 hz1 hz2 rfl (by omega) u5 k _ (by rfl) (((hown.alloc _).alloc _).drew)
              ⟨wr.heap.size + 1, 0, none⟩ 1 1 [.pointer (some ⟨N + x, 0, none⟩), .pointer (some ⟨N + y, 0, none⟩), .int .i64 l, .int .i64 s] (by rfl) (by rfl) (World.news_of_block (cs := #[.pointer (some ⟨N + x, 0, none⟩), .pointer (some ⟨N + y, 0, none⟩), .int .i64 l, .int .i64 s]) (t := 70) (fr := (0, 0)) (heap_new2 wr _ _)) (by simp [Value.oneCell'])
              (by omega) (by unfold maxLen; omega) (by omega) (by simp; omega) (wr.heap.size + 2) (by simp) ?_; intro gg cap1 w1 hown1 hgrow hat hlt1))
      go_wp2
      go_roundw
      case rel =>
        refine ⟨k + 1, by omega, by go_num, ?_, (((hbel.alloc hsz _).alloc (by simp; omega) _).drew).grown hgrow (by simp; omega) (own_ge' hown)⟩
        rw [hcs_take N hs k hlt, hc_eq N HX.out]
        exact hown1
      case measure => simp [intOf]; omega
    · have e : k = hs.length := by omega
      subst e
      rw [List.take_length] at hown
      go_wp2
      go_ret
      exact ⟨_, rfl, hown, hbel⟩

theorem makeHolders_nil (B n : Nat) (w : World) :
    Calls Try.prog 10 #[.slice none 0 0, .slice (some ⟨B, 0, none⟩) n n] w fun e w' => e = .returned (.slice none 0 0) ∧ w = w' := by
  have q22 : ∀ (w : World) (a : Option Addr) (n c n' c' : Nat), (binOp .eql 22 (.slice a n c) (.slice none n' c')).run Try.prog w = .ok (.bool a.isNone) w := fun w a n c n' c' => Lib.run_eql_slice_nil w _ _ a n c n' c' Try.underlying22
  go_enter Try.func10, Try.ntmps10
  go_wp2
  go_ret
  exact ⟨rfl, rfl⟩
end Go.Proofs.Qxb6619715a
