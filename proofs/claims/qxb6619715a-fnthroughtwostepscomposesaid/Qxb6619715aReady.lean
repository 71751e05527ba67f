/- The callees of the law, each over one statement of what lies in memory ('Ready'). -/
import Derived.Test.Qxb6619715aSame
namespace Go.Proofs.Qxb6619715a
open Go.ChangeShapes Go.WideShapes Go.ChangeAt Go.RowKit

/-- the holds as they came in -/
structure Came (ao : Option Addr) (b off cap : Nat) (hs : List Hd) (w : World) : Prop where
  addr : 0 < hs.length → ao = some ⟨b, off, none⟩
  none : ao = Option.none → hs = [] ∧ cap = 0
  lt : b < w.heap.size ∨ hs = []
  held : HeldAt w b off hs

structure Ready (H n : Nat) (e1 : Nat) (s1 : Int) (c1 : Bool) (e2 : Nat) (s2 : Int) (c2 : Bool) (b off : Nat) (hs : List Hd) (w wr : World) : Prop where
  row : NodeRow wr H (H + 1) n
  node : ∀ i, i < n → IsNode wr (H + 1 + i)
  via1 : ∃ M, Via wr M (H + 1 + e1) s1 c1
  via2 : ∃ M, Via wr M (H + 1 + e2) s2 c2
  held : HeldAt wr b off hs
  lt : b < wr.heap.size ∨ hs = []
  size : H < wr.heap.size
  bel : Below H w wr

theorem HeldAt.below {w w' : World} {b off : Nat} {l : List Hd} (h : HeldAt w b off l) {B : Nat} (hb : Below B w w') (hg : b < B ∨ l = []) : HeldAt w' b off l := by
  intro i hi
  have hg' : b < B := by rcases hg with h | h; exact h; subst h; simp at hi
  obtain ⟨c0, c1, c2, c3⟩ := h i hi
  exact ⟨(hb.cell (p := ⟨b, off + i * 4, none⟩) hg').trans c0, (hb.cell (p := ⟨b, off + i * 4 + 1, none⟩) hg').trans c1, (hb.cell (p := ⟨b, off + i * 4 + 2, none⟩) hg').trans c2, (hb.cell (p := ⟨b, off + i * 4 + 3, none⟩) hg').trans c3⟩
theorem Ready.below {H n e1 e2 : Nat} {s1 s2 : Int} {c1 c2 : Bool} {b off : Nat} {hs : List Hd} {w wr w' : World} (r : Ready H n e1 s1 c1 e2 s2 c2 b off hs w wr) (hb : Below wr.heap.size wr w') : Ready H n e1 s1 c1 e2 s2 c2 b off hs w w' := by
  have hz := hb.size
  have hs := r.size
  exact ⟨fun i hi => (hb.cell (p := ⟨H, i, none⟩) r.size).trans (r.row i hi), fun i hi => (r.node i hi).below hb (r.node i hi).lt, r.via1.elim fun M h => ⟨M, h.below hb⟩, r.via2.elim fun M h => ⟨M, h.below hb⟩, r.held.below hb r.lt,
    by rcases r.lt with h | h; exact .inl (by omega); exact .inr h, by omega, r.bel.trans (hb.mono (by omega))⟩
theorem Ready.drew {H n e1 e2 : Nat} {s1 s2 : Int} {c1 c2 : Bool} {b off : Nat} {hs : List Hd} {w wr : World} (r : Ready H n e1 s1 c1 e2 s2 c2 b off hs w wr) : Ready H n e1 s1 c1 e2 s2 c2 b off hs w wr.drew := r.below (Below.refl _ _).drew

theorem made_row {B n : Nat} {w wr : World} (h : Made B n n w wr) : NodeRow wr B (B + 1) n := fun i hi => by
  have := h.row.cell hi
  rw [this]; simp [hi]
theorem ready_same {n e1 : Nat} {s1 : Int} {c1 : Bool} {ao : Option Addr} {b off cap : Nat} {hs : List Hd} {w w1 w2 : World} (hC : Came ao b off cap hs w) (hM : Made w.heap.size n n w w1) (he1 : e1 < n) (hL : Linked (w.heap.size + 1 + e1) s1 c1 w1 w2) :
    Ready w.heap.size n e1 s1 c1 e1 s1 c1 b off hs w w2 := by
  have z := hM.size
  have z2 := hL.size
  have hb := hM.bel.trans (hL.bel w.heap.size (by omega))
  exact ⟨fun i hi => (hL.cell _ _ (by omega) (by omega)).trans (made_row hM i hi), fun i hi => hL.node _ (hM.node i hi), ⟨_, hL.via⟩, ⟨_, hL.via⟩, hC.held.below hb hC.lt, by rcases hC.lt with h | h; exact .inl (by omega); exact .inr h, by omega, hb⟩
theorem ready_two {n e1 e2 : Nat} {s1 s2 : Int} {c1 c2 : Bool} {ao : Option Addr} {b off cap : Nat} {hs : List Hd} {w w1 w2 w3 : World} (hC : Came ao b off cap hs w) (hM : Made w.heap.size n n w w1) (he1 : e1 < n) (he2 : e2 < n) (hne : e2 ≠ e1)
    (hL : Linked (w.heap.size + 1 + e1) s1 c1 w1 w2) (hL2 : Linked (w.heap.size + 1 + e2) s2 c2 w2 w3) : Ready w.heap.size n e1 s1 c1 e2 s2 c2 b off hs w w3 := by
  have z := hM.size
  have z2 := hL.size
  have z3 := hL2.size
  have hb := (hM.bel.trans (hL.bel w.heap.size (by omega))).trans (hL2.bel w.heap.size (by omega))
  exact ⟨fun i hi => ((hL2.cell _ _ (by omega) (by omega)).trans (hL.cell _ _ (by omega) (by omega))).trans (made_row hM i hi), fun i hi => hL2.node _ (hL.node _ (hM.node i hi)), ⟨_, hL.via.linked hL2 (by omega) (by omega)⟩, ⟨_, hL2.via⟩, hC.held.below hb hC.lt,
    by rcases hC.lt with h | h; exact .inl (by omega); exact .inr h, by omega, hb⟩

/-- the holders that a slice leads to, its value written out -/
structure Led (ao : Option Addr) (N : Nat) (l : List Hd) (w : World) (g : Nat) : Prop where
  addr : 0 < l.length → ao = some ⟨g, 0, Option.none⟩
  lt : g < w.heap.size ∨ l = []
  at_ : HoldersAt w g N l

theorem holders_r {H n e1 e2 : Nat} {s1 s2 : Int} {c1 c2 : Bool} {ao : Option Addr} {b off cap : Nat} {hs : List Hd} {w wr : World} (r : Ready H n e1 s1 c1 e2 s2 c2 b off hs w wr) (ha : 0 < hs.length → ao = some ⟨b, off, none⟩) (hn : ao = Option.none → hs = [] ∧ cap = 0) (hl : hs.length ≤ 16384)
    (hin : ∀ (i : Nat) (h : i < hs.length), 0 ≤ hs[i].X ∧ hs[i].X < n ∧ 0 ≤ hs[i].Y ∧ hs[i].Y < n) :
    Calls Try.prog 10 #[.slice ao hs.length cap, .slice (some ⟨H, 0, none⟩) n n] wr fun e w' => ∃ ao1 g1 cap1, e = .returned (.slice ao1 hs.length cap1) ∧ Led ao1 (H + 1) hs w' g1 ∧ Ready H n e1 s1 c1 e2 s2 c2 b off hs w w' ∧ Below wr.heap.size wr w' := by
  cases ao with
  | none =>
    obtain ⟨rfl, rfl⟩ := hn rfl
    refine (makeHolders_nil H n wr).mono fun e w' ⟨h1, h2⟩ => ?_
    subst h2
    exact ⟨none, 0, 0, h1, ⟨fun h => by simp at h, .inr rfl, fun i hi => by simp at hi⟩, r, Below.refl _ _⟩
  | some a =>
    refine (makeHolders_some b off cap hs H (H + 1) n a wr (fun h => by simpa using ha h) hl r.lt r.held r.size r.row hin).mono fun e w' ⟨v, h1, h2, h3⟩ => ?_
    obtain ⟨ao1, g1, cap1, rfl, q1, q2, q3⟩ := Hv.of_own h2
    exact ⟨ao1, g1, cap1, h1, ⟨q1, q2, q3⟩, r.below h3, h3⟩

theorem okay_of {n : Nat} {hs : List Hd} (hin : ∀ (i : Nat) (h : i < hs.length), 0 ≤ hs[i].X ∧ hs[i].X < n ∧ 0 ≤ hs[i].Y ∧ hs[i].Y < n) : Okay n hs := fun i h => by have := hin i h; omega

theorem step1_yes {H n e1 e2 : Nat} {s1 s2 : Int} {c2 : Bool} {b off : Nat} {hs : List Hd} {w wr : World} (r : Ready H n e1 s1 false e2 s2 c2 b off hs w wr) {l : List Hd} {ao : Option Addr} {g : Nat} (cap : Nat) (hL : Led ao (H + 1) l wr g) (hl : l.length ≤ 16384) (hO : Okay n l) (he : e1 < n) :
    Calls Try.prog 9 #[.bool true, .slice ao l.length cap, .pointer (some ⟨H + 1 + e1, 0, none⟩)] wr fun ee w' => ∃ ao1 g1 cap1, ee = .returned (.tuple #[.bool true, .slice ao1 (stepL e1 s1 l).length cap1]) ∧ Led ao1 (H + 1) (stepL e1 s1 l) w' g1 ∧ Ready H n e1 s1 false e2 s2 c2 b off hs w w' ∧ Below wr.heap.size wr w' := by
  obtain ⟨M, hV⟩ := r.via1
  refine (zzthrough_yes (H + 1) n e1 M ao g cap l s1 wr hV hL.addr hL.lt hL.at_ hl hO r.node he).mono fun ee w' ⟨v, h1, h2, h3⟩ => ?_
  obtain ⟨ao1, g1, cap1, rfl, q1, q2, q3⟩ := h2
  exact ⟨ao1, g1, cap1, h1, ⟨q1, q2, q3⟩, r.below h3, h3⟩
theorem step2_yes {H n e1 e2 : Nat} {s1 s2 : Int} {c1 : Bool} {b off : Nat} {hs : List Hd} {w wr : World} (r : Ready H n e1 s1 c1 e2 s2 false b off hs w wr) {l : List Hd} {ao : Option Addr} {g : Nat} (cap : Nat) (hL : Led ao (H + 1) l wr g) (hl : l.length ≤ 16384) (hO : Okay n l) (he : e2 < n) :
    Calls Try.prog 9 #[.bool true, .slice ao l.length cap, .pointer (some ⟨H + 1 + e2, 0, none⟩)] wr fun ee w' => ∃ ao1 g1 cap1, ee = .returned (.tuple #[.bool true, .slice ao1 (stepL e2 s2 l).length cap1]) ∧ Led ao1 (H + 1) (stepL e2 s2 l) w' g1 ∧ Ready H n e1 s1 c1 e2 s2 false b off hs w w' ∧ Below wr.heap.size wr w' := by
  obtain ⟨M, hV⟩ := r.via2
  refine (zzthrough_yes (H + 1) n e2 M ao g cap l s2 wr hV hL.addr hL.lt hL.at_ hl hO r.node he).mono fun ee w' ⟨v, h1, h2, h3⟩ => ?_
  obtain ⟨ao1, g1, cap1, rfl, q1, q2, q3⟩ := h2
  exact ⟨ao1, g1, cap1, h1, ⟨q1, q2, q3⟩, r.below h3, h3⟩
theorem step1_no {H n e1 e2 : Nat} {s1 s2 : Int} {c1 c2 : Bool} {b off : Nat} {hs : List Hd} {w wr : World} (r : Ready H n e1 s1 c1 e2 s2 c2 b off hs w wr) (sure : Bool) (ao : Option Addr) (ln cap : Nat) (hno : sure = false ∨ c1 = true) :
    Calls Try.prog 9 #[.bool sure, .slice ao ln cap, .pointer (some ⟨H + 1 + e1, 0, none⟩)] wr fun ee w' => ee = .returned (.tuple #[.bool false, .slice none 0 0]) ∧ Ready H n e1 s1 c1 e2 s2 c2 b off hs w w' ∧ Below wr.heap.size wr w' := by
  obtain ⟨M, hV⟩ := r.via1
  exact (zzthrough_no (H + 1) e1 M ao ln cap sure s1 c1 wr hV hno).mono fun ee w' ⟨h1, h2⟩ => ⟨h1, r.below h2, h2⟩
theorem step2_no {H n e1 e2 : Nat} {s1 s2 : Int} {c1 c2 : Bool} {b off : Nat} {hs : List Hd} {w wr : World} (r : Ready H n e1 s1 c1 e2 s2 c2 b off hs w wr) (sure : Bool) (ao : Option Addr) (ln cap : Nat) (hno : sure = false ∨ c2 = true) :
    Calls Try.prog 9 #[.bool sure, .slice ao ln cap, .pointer (some ⟨H + 1 + e2, 0, none⟩)] wr fun ee w' => ee = .returned (.tuple #[.bool false, .slice none 0 0]) ∧ Ready H n e1 s1 c1 e2 s2 c2 b off hs w w' ∧ Below wr.heap.size wr w' := by
  obtain ⟨M, hV⟩ := r.via2
  exact (zzthrough_no (H + 1) e2 M ao ln cap sure s2 c2 wr hV hno).mono fun ee w' ⟨h1, h2⟩ => ⟨h1, r.below h2, h2⟩

theorem model_in {n e1 e2 : Nat} {s1 s2 : Int} {hs : List Hd} (hin : ∀ (i : Nat) (h : i < hs.length), 0 ≤ hs[i].X ∧ hs[i].X < n ∧ 0 ≤ hs[i].Y ∧ hs[i].Y < n) :
    ∀ (i : Nat) (h : i < (modelL e1 e2 s1 s2 hs).length), 0 ≤ (modelL e1 e2 s1 s2 hs)[i].X ∧ (modelL e1 e2 s1 s2 hs)[i].X < n ∧ 0 ≤ (modelL e1 e2 s1 s2 hs)[i].Y ∧ (modelL e1 e2 s1 s2 hs)[i].Y < n := by
  intro i hi
  have hm : (modelL e1 e2 s1 s2 hs)[i] ∈ modelL e1 e2 s1 s2 hs := List.getElem_mem hi
  unfold modelL at hm
  rw [List.mem_map] at hm
  obtain ⟨a, ha, he⟩ := hm
  obtain ⟨j, hj, rfl⟩ := List.getElem_of_mem (List.mem_filter.1 ha).1
  have := hin j hj
  have e : (modelL e1 e2 s1 s2 hs)[i] = fixS s2 (fixS s1 hs[j]) := by rw [he]; rfl
  rw [e, fixS_X, fixS_Y, fixS_X, fixS_Y]
  exact this

theorem model_r {H n e1 e2 : Nat} {s1 s2 : Int} {c1 c2 : Bool} {ao : Option Addr} {b off cap : Nat} {hs : List Hd} {w wr : World} (r : Ready H n e1 s1 c1 e2 s2 c2 b off hs w wr) (ha : 0 < hs.length → ao = some ⟨b, off, none⟩) (hl : hs.length ≤ 16384)
    (hin : ∀ (i : Nat) (h : i < hs.length), 0 ≤ hs[i].X ∧ hs[i].X < n ∧ 0 ≤ hs[i].Y ∧ hs[i].Y < n) {aog : Option Addr} {g cg : Nat} (hG : Led aog (H + 1) (stepL e2 s2 (stepL e1 s1 hs)) wr g) :
    Calls Try.prog 12 #[.slice ao hs.length cap, .int .i64 (e1 : Int), .int .i64 (e2 : Int), .int .i64 s1, .int .i64 s2] wr fun e w' => ∃ v, e = .returned v ∧ Wv w' v (modelL e1 e2 s1 s2 hs) ∧ Hv w' (H + 1) (.slice aog (stepL e2 s2 (stepL e1 s1 hs)).length cg) (modelL e1 e2 s1 s2 hs) ∧ Ready H n e1 s1 c1 e2 s2 c2 b off hs w w' := by
  have hv : Hv wr (H + 1) (.slice aog (stepL e2 s2 (stepL e1 s1 hs)).length cg) (stepL e2 s2 (stepL e1 s1 hs)) := ⟨aog, g, cg, rfl, hG.addr, hG.lt, hG.at_⟩
  refine (model_any b off cap hs n e1 e2 s1 s2 ao wr ha hl r.lt r.held hin).mono fun e w' ⟨v, h1, h2, h3⟩ => ⟨v, h1, Wv.of_own h2, ?_, r.below h3⟩
  have := hv.below h3
  rw [two_steps] at this ⊢
  exact this
theorem same_r {H n e1 e2 : Nat} {s1 s2 : Int} {c1 c2 : Bool} {b off : Nat} {hs : List Hd} {w wr : World} (r : Ready H n e1 s1 c1 e2 s2 c2 b off hs w wr) (hl : hs.length ≤ 16384) (hin : ∀ (i : Nat) (h : i < hs.length), 0 ≤ hs[i].X ∧ hs[i].X < n ∧ 0 ≤ hs[i].Y ∧ hs[i].Y < n)
    {v1 v2 : Value} (h1 : Hv wr (H + 1) v1 (modelL e1 e2 s1 s2 hs)) (h2 : Wv wr v2 (modelL e1 e2 s1 s2 hs)) :
    Calls Try.prog 11 #[v1, v2, .slice (some ⟨H, 0, none⟩) n n] wr fun e w' => e = .returned (.bool true) ∧ Below H w w' := by
  have hsz := r.size
  have := model_len e1 e2 s1 s2 hs
  exact (same_any (H + 1) n H _ v1 v2 wr h1 h2 (by omega) r.size r.row (model_in hin)).mono fun e w' ⟨q1, q2⟩ => ⟨q1, r.bel.trans (q2.mono (by omega))⟩
end Go.Proofs.Qxb6619715a
