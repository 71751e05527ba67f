/- makeNodes (7), needVia (8). -/
import Derived.Test.Qxb6619715aSmall
import Derived.Deep.OwnRows
import Derived.LaidEqlPtr
namespace Go.Proofs.Qxb6619715a
open Go.ChangeShapes Go.WideShapes Go.ChangeAt Go.RowKit

theorem info28 : (Try.prog.info? 28).map (fun i => (i.zero, i.size, i.bytes)) = some (some (.pointer none), 1, 8) := by kernel_rfl

theorem ptr_eql (w : World) (a b : Nat) (ha : ∃ c, w.heap[a]? = some (.cells c 46 (0, 0))) (hb : ∃ c, w.heap[b]? = some (.cells c 46 (0, 0))) :
    (binOp .eql 28 (.pointer (some ⟨a, 0, none⟩)) (.pointer (some ⟨b, 0, none⟩))).run Try.prog w = .ok (.bool (a == b)) w := by
  obtain ⟨j, hj⟩ : ∃ j, Try.prog.info? 46 = some j := by
    have : (Try.prog.info? 46).isSome = true := by kernel_rfl
    exact Option.isSome_iff_exists.1 this
  have hz : (Try.prog.info? 46).map (fun i => decide (i.size ≠ 0)) = some true := by kernel_rfl
  have hz' : j.size ≠ 0 := by simpa [hj] using hz
  by_cases e : a = b
  · subst e
    rw [run_eql_ptr_same w _ Try.underlying28 hj]; simp
  · obtain ⟨ca, ha⟩ := ha
    obtain ⟨cb, hb⟩ := hb
    rw [run_eql_ptr_other w Try.underlying28 hj hz' (by intro h; injection h; contradiction) ha hb]
    simp [e]
theorem ptr_neq (w : World) (a : Nat) : (binOp .neq 28 (.pointer (some ⟨a, 0, none⟩)) (.pointer (some ⟨a, 0, none⟩))).run Try.prog w = .ok (.bool false) w := by
  obtain ⟨j, hj⟩ : ∃ j, Try.prog.info? 46 = some j := by
    have : (Try.prog.info? 46).isSome = true := by kernel_rfl
    exact Option.isSome_iff_exists.1 this
  have h : ∀ d : Nat, (Op.equalIn (d + 1) 28 (.pointer (some ⟨a, 0, none⟩)) (.pointer (some ⟨a, 0, none⟩))).run Try.prog w = .ok true w := fun d => by
    simp [Op.equalIn, run_underlying Try.underlying28, sizeOf, typeInfo, hj, run_sameAddr_same]
  simp only [binOp]
  simp [Op.equal, Op.maxDepth, h 9999]

/-- the pointer to node i of those that lie from block N on -/
def np (N i : Nat) : Value := .pointer (some ⟨N + i, 0, none⟩)
/-- a node lies in block b -/
def IsNode (w : World) (b : Nat) : Prop := ∃ f, w.rowIs b 46 20 f
theorem IsNode.alloc {w : World} {b : Nat} (h : IsNode w b) (o : Obj) : IsNode (w.alloc o) b := h.elim fun f hf => ⟨f, hf.alloc o⟩
theorem IsNode.of_block {w w' : World} {b : Nat} (h : IsNode w b) (e : w'.heap[b]? = w.heap[b]?) : IsNode w' b := h.elim fun f hf => ⟨f, hf.of_block e⟩
theorem IsNode.set {w : World} {b : Nat} (h : IsNode w b) (a : Addr) (ha : a.spot = none) (v : Value) : IsNode (w.setCell a v) b := by
  obtain ⟨f, hf⟩ := h
  by_cases e : b = a.block
  · obtain ⟨ab, ao, sp⟩ := a
    simp only at e ha
    subst e ha
    exact ⟨_, hf.set ao v⟩
  · exact ⟨f, hf.setOther e v⟩
theorem IsNode.lt {w : World} {b : Nat} (h : IsNode w b) : b < w.heap.size := h.elim fun _ hf => hf.lt
theorem IsNode.below {w w' : World} {b B : Nat} (h : IsNode w b) (hb : Below B w w') (hB : b < B) : IsNode w' b := h.of_block (hb.block b hB)
/-- k of the n nodes are made: the row lies in block B, the nodes behind it -/
structure Made (B n k : Nat) (w wr : World) : Prop where
  row : wr.rowIs B 28 n (fun i => if i < k then np (B + 1) i else .pointer none)
  size : wr.heap.size = B + 1 + k
  node : ∀ i, i < k → IsNode wr (B + 1 + i)
  bel : Below B w wr

theorem made_start (w : World) (n : Nat) : Made w.heap.size n 0 w (w.alloc (.cells (madeCells #[.pointer none] n) 28)) :=
  ⟨(World.rowIs_made w (.pointer none) n 28).congr fun _ _ => by simp, by simp, fun i h => absurd h (Nat.not_lt_zero _), (Below.refl _ _).alloc (Nat.le_refl _) _⟩
theorem made_step {B n k : Nat} {w wr : World} (h : Made B n k w wr) (c : Array Value) (hc : c.size = 20) :
    Made B n (k + 1) w ((wr.alloc (.cells c 46)).setCell ⟨B, k, none⟩ (.pointer (some ⟨B + 1 + k, 0, none⟩))) := by
  have hs := h.size
  refine ⟨((h.row.alloc _).set k _).congr fun i hi => ?_, by simp [hs]; omega, fun i hi => ?_, (h.bel.alloc (by omega) _).setCell (Nat.le_refl _) _⟩
  · by_cases e : i = k
    · subst e; simp [np]
    · by_cases l : i < k
      · simp [e, l, Nat.lt_succ_of_lt l]
      · rw [if_neg e, if_neg l, if_neg (by omega)]
  · refine IsNode.set ?_ _ rfl _
    by_cases e : i = k
    · subst e
      have := World.rowIs_alloc wr c 46 (fun i => c.getD i default) (fun i hi => by simp [hi])
      rw [hs, hc] at this
      exact ⟨_, this⟩
    · exact (h.node i (by omega)).alloc _

set_option maxHeartbeats 400000 in
theorem makeNodes_any (n : Nat) (hn : n ≤ 16384) (w : World) :
    Calls Try.prog 7 #[.int .i64 n] w fun e w' => e = .returned (.slice (some ⟨w.heap.size, 0, none⟩) n n) ∧ Made w.heap.size n n w w' := by
  have hmk := run_make_row' (P := Try.prog) 25 28 (.pointer none) 8 Try.underlying25 info28 rfl .i64 .i64 n (by omega) (by omega)
  go_enter Try.func7, Try.ntmps7
  go_wp2
  go_loopw [4] (fun i wr => ∃ k : Nat, k ≤ n ∧ i = .int .i64 k ∧ Made w.heap.size n k w wr) (fun i _ => n - (intOf i).toNat)
  case atStart => exact ⟨0, Nat.zero_le _, rfl, made_start _ _⟩
  case round =>
    obtain ⟨k, hk, rfl, hM⟩ := hrel
    by_cases hlt : k < n
    · have hsz := hM.size
      have hca : ∀ o, (wr.alloc o).cell? ⟨w.heap.size, k, none⟩ = some (.pointer none) := fun o => by simpa using (hM.row.alloc o).cell hlt
      have hfa : ∀ o, (wr.alloc o).frozen? ⟨w.heap.size, k, none⟩ = false := fun o => (hM.row.alloc o).frozen k
      go_wp2
      go_roundw
      case rel =>
        refine ⟨k + 1, by omega, by go_num, ?_⟩
        exact made_step hM _ rfl
      case measure => simp [intOf]; omega
    · have e : k = n := by omega
      subst e
      go_wp2
      go_ret
      exact ⟨rfl, hM⟩

/-- the node in block nb needs one event, by a rule (in a block from M on) with this source and this condition -/
def Via (w : World) (M nb : Nat) (s : Int) (c : Bool) : Prop :=
  ∃ l r : Nat, nb < w.heap.size ∧ l < w.heap.size ∧ r < w.heap.size ∧ M ≤ r ∧ w.cell? ⟨nb, 9, none⟩ = some (.slice (some ⟨l, 0, none⟩) 1 1) ∧ w.cell? ⟨l, 1, none⟩ = some (.pointer (some ⟨r, 0, none⟩)) ∧
    w.cell? ⟨r, 9, none⟩ = some (.int .i64 s) ∧ w.cell? ⟨r, 10, none⟩ = some (.bool c)
structure Linked (nb : Nat) (s : Int) (c : Bool) (w w' : World) : Prop where
  cell : ∀ b o, b < w.heap.size → ¬ (b = nb ∧ o = 9) → w'.cell? ⟨b, o, none⟩ = w.cell? ⟨b, o, none⟩
  frozen : ∀ b o, b < w.heap.size → w'.frozen? ⟨b, o, none⟩ = w.frozen? ⟨b, o, none⟩
  size : w.heap.size ≤ w'.heap.size
  via : Via w' w.heap.size nb s c
  node : ∀ b, IsNode w b → IsNode w' b
  bel : ∀ B, B ≤ nb → Below B w w'

theorem Via.below {w w' : World} {M nb : Nat} {s : Int} {c : Bool} (h : Via w M nb s c) (hb : Below w.heap.size w w') : Via w' M nb s c := by
  obtain ⟨l, r, h1, h2, h3, h4, c1, c2, c3, c4⟩ := h
  have hz := hb.size
  exact ⟨l, r, by omega, by omega, by omega, h4, (hb.cell h1).trans c1, (hb.cell h2).trans c2, (hb.cell h3).trans c3, (hb.cell h3).trans c4⟩
theorem Via.mono {w : World} {M M' nb : Nat} {s : Int} {c : Bool} (h : Via w M nb s c) (hM : M' ≤ M) : Via w M' nb s c := by
  obtain ⟨l, r, h1, h2, h3, h4, c1, c2, c3, c4⟩ := h
  exact ⟨l, r, h1, h2, h3, by omega, c1, c2, c3, c4⟩
theorem Via.linked {w w' : World} {M nb nb' : Nat} {s s' : Int} {c c' : Bool} (h : Via w M nb s c) (hl : Linked nb' s' c' w w') (hne : nb ≠ nb') (hM : nb' < M) : Via w' M nb s c := by
  obtain ⟨l, r, h1, h2, h3, h4, c1, c2, c3, c4⟩ := h
  have hz := hl.size
  exact ⟨l, r, by omega, by omega, by omega, h4, (hl.cell _ _ h1 (by omega)).trans c1, (hl.cell _ _ h2 (by omega)).trans c2, (hl.cell _ _ h3 (by omega)).trans c3, (hl.cell _ _ h3 (by omega)).trans c4⟩

theorem linked_mk (nb : Nat) (s : Int) (c : Bool) (w : World) (hnb : nb < w.heap.size) (v : Value) (hv : w.cell? ⟨nb, 9, none⟩ = some v) (C0 C1 C2 : Array Value)
    (h1 : C1[9]? = some (.int .i64 s)) (h2 : C1[10]? = some (.bool c)) (h3 : C2[1]? = some (.pointer (some ⟨w.heap.size + 1, 0, none⟩))) :
    Linked nb s c w ((((w.alloc (.cells C0 46)).alloc (.cells C1 57)).alloc (.cells C2 59)).setCell ⟨nb, 9, none⟩ (.slice (some ⟨w.heap.size + 2, 0, none⟩) 1 1)) := by
  have hold : ∀ b o, b < w.heap.size → (((w.alloc (.cells C0 46)).alloc (.cells C1 57)).alloc (.cells C2 59)).cell? ⟨b, o, none⟩ = w.cell? ⟨b, o, none⟩ := fun b o hb => by
    rw [World.cell?_alloc_past _ _ _ (by simp; omega), World.cell?_alloc_past _ _ _ (by simp; omega), World.cell?_alloc_past _ _ _ hb]
  have n1 : ∀ o, (((w.alloc (.cells C0 46)).alloc (.cells C1 57)).alloc (.cells C2 59)).cell? ⟨w.heap.size + 1, o, none⟩ = C1[o]? := fun o => by
    rw [World.cell?_alloc_past _ _ _ (by simp), World.cell?_alloc_at _ _ _ _ (by simp)]
  have n2 : ∀ o, (((w.alloc (.cells C0 46)).alloc (.cells C1 57)).alloc (.cells C2 59)).cell? ⟨w.heap.size + 2, o, none⟩ = C2[o]? := fun o => by
    rw [World.cell?_alloc_at _ _ _ _ (by simp)]
  have ne : ∀ b o, ¬ (b = nb ∧ o = 9) → (⟨nb, 9, none⟩ : Addr) ≠ ⟨b, o, none⟩ := fun b o h e => by injection e with e1 e2; exact h ⟨e1.symm, e2.symm⟩
  refine ⟨fun b o hb hn => ?_, fun b o hb => ?_, by simp; omega, ⟨w.heap.size + 2, w.heap.size + 1, by simp; omega, by simp, by simp, by omega, ?_, ?_, ?_, ?_⟩, fun b h => (((h.alloc _).alloc _).alloc _).set _ rfl _, fun B hB => ?_⟩
  · rw [World.cell?_setCell_other _ _ _ _ (ne _ _ hn), hold b o hb]
  · rw [World.frozen?_setCell, World.frozen?_alloc_past _ _ _ (by simp; omega), World.frozen?_alloc_past _ _ _ (by simp; omega), World.frozen?_alloc_past _ _ _ hb]
  · exact World.cell?_setCell_same _ _ _ ((hold nb 9 hnb).trans hv)
  · rw [World.cell?_setCell_other _ _ _ _ (ne _ _ (by omega)), n2, h3]
  · rw [World.cell?_setCell_other _ _ _ _ (ne _ _ (by omega)), n1, h1]
  · rw [World.cell?_setCell_other _ _ _ _ (ne _ _ (by omega)), n1, h2]
  · exact ((((Below.refl _ _).alloc (by omega) _).alloc (by simp; omega) _).alloc (by simp; omega) _).setCell hB _

set_option maxHeartbeats 400000 in
theorem needVia_any (nb : Nat) (n s : Int) (c : Bool) (w : World) (hf : IsNode w nb) :
    Calls Try.prog 8 #[.pointer (some ⟨nb, 0, none⟩), .int .i64 n, .int .i64 s, .bool c] w fun e w' => e = .returned (.tuple #[]) ∧ Linked nb s c w w' := by
  have hnb := hf.lt
  obtain ⟨f, hrow⟩ := hf
  have hv := hrow.cell (i := 9) (by omega)
  have hfr := hrow.frozen 9
  obtain ⟨v, hvv⟩ : ∃ v, f 9 = v := ⟨_, rfl⟩
  rw [hvv] at hv
  clear hrow hvv
  have hv3 : ∀ o1 o2 o3, (((w.alloc o1).alloc o2).alloc o3).cell? ⟨nb, 9, none⟩ = some v := fun o1 o2 o3 => by
    rw [World.cell?_alloc_past _ _ _ (by simp; omega), World.cell?_alloc_past _ _ _ (by simp; omega), World.cell?_alloc_past _ _ _ hnb, hv]
  have hf3 : ∀ o1 o2 o3, (((w.alloc o1).alloc o2).alloc o3).frozen? ⟨nb, 9, none⟩ = false := fun o1 o2 o3 => by
    rw [World.frozen?_alloc_past _ _ _ (by simp; omega), World.frozen?_alloc_past _ _ _ (by simp; omega), World.frozen?_alloc_past _ _ _ hnb, hfr]
  go_enter Try.func8, Try.ntmps8
  go_wp2
  go_end0
  exact ⟨rfl, linked_mk nb s c w hnb v hv _ _ _ rfl rfl rfl⟩
end Go.Proofs.Qxb6619715a
