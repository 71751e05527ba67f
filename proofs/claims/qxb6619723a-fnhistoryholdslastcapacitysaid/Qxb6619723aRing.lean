/- The ring, as plain lists and numbers. -/
import Derived.Test.Qxb6619723aHist
namespace Go.Proofs.Qxb6619723a

/-- the values in the order in which they came: est from its oldest on, then xs -/
def seqN (es xs : List Nat) (nx0 i : Nat) : Nat := if i < es.length then es.getD ((nx0 + i) % es.length) 0 else xs.getD (i - es.length) 0

/-- the ring rs (room c, next nx) holds the last of the first t values of seq -/
structure Inv (c nx0 l0 : Nat) (seq : Nat → Nat) (t : Nat) (rs : List Nat) (nx : Nat) : Prop where
  len : rs.length = min t c
  pos : 0 < c → nx = (nx0 + (t - rs.length)) % c
  zero : c = 0 → nx = 0
  flat : l0 < c → nx0 = 0
  le : l0 ≤ t
  at_ : ∀ i, t - rs.length ≤ i → i < t → rs[(nx0 + i) % c]? = some (seq i)

theorem Inv.nx_lt {c nx0 l0 : Nat} {seq : Nat → Nat} {t : Nat} {rs : List Nat} {nx : Nat} (h : Inv c nx0 l0 seq t rs nx) (hc : 0 < c) : nx < c := by
  rw [h.pos hc]; exact Nat.mod_lt _ hc

theorem mod_apart {a c d i : Nat} (h1 : d < i) (h2 : i < d + c) : (a + i) % c ≠ (a + d) % c := by
  intro h
  have := Nat.sub_mod_eq_zero_of_mod_eq h
  rw [show a + i - (a + d) = i - d from by omega, Nat.mod_eq_of_lt (by omega)] at this
  omega

theorem inv_start {c nx0 : Nat} (es xs : List Nat) (hl : es.length ≤ c) (hz : es.length < c ∨ c = 0 → nx0 = 0) (hn : es.length = c → 0 < c → nx0 < c) : Inv c nx0 es.length (seqN es xs nx0) es.length es nx0 := by
  refine ⟨by omega, fun hc => ?_, fun h => hz (.inr h), fun h => hz (.inl h), Nat.le_refl _, fun i _ hi => ?_⟩
  · have : nx0 < c := by
      by_cases h : es.length = c
      · exact hn h hc
      · rw [hz (.inl (by omega))]; exact hc
    rw [Nat.sub_self, Nat.add_zero, Nat.mod_eq_of_lt this]
  · have e : (nx0 + i) % c = (nx0 + i) % es.length := by
      by_cases h : es.length = c
      · rw [h]
      · rw [hz (.inl (by omega)), Nat.zero_add, Nat.mod_eq_of_lt hi, Nat.mod_eq_of_lt (by omega)]
    have hlt : (nx0 + i) % es.length < es.length := Nat.mod_lt _ (by omega)
    rw [e, seqN, if_pos hi, List.getD_eq_getElem?_getD, List.getElem?_eq_getElem hlt]
    rfl

theorem inv_step {c nx0 l0 : Nat} {seq : Nat → Nat} {t : Nat} {rs : List Nat} {nx : Nat} (h : Inv c nx0 l0 seq t rs nx) : Inv c nx0 l0 seq (t + 1) (addR c nx rs (seq t)) (addN c nx rs) := by
  have hl := h.len
  have hle := h.le
  unfold addR addN
  by_cases h1 : rs.length < c
  · rw [if_pos h1, if_pos h1]
    have ht : rs.length = t := by omega
    have h0 := h.flat (by omega)
    subst h0
    refine ⟨by simp; omega, fun hc => ?_, fun hc => by omega, h.flat, by omega, fun i _ hi => ?_⟩
    · rw [h.pos hc]; simp [ht]
    · have hic : (0 + i) % c = i := by rw [Nat.zero_add, Nat.mod_eq_of_lt (by omega)]
      rw [hic]
      by_cases e : i = t
      · subst e
        rw [← ht, List.getElem?_append_right (Nat.le_refl _)]
        simp
      · have := h.at_ i (by omega) (by omega)
        rw [hic] at this
        rw [List.getElem?_append_left (by omega), this]
  · rw [if_neg h1, if_neg h1]
    by_cases h2 : 0 < c
    · rw [if_pos h2, if_pos h2]
      have hrc : rs.length = c := by omega
      have htc : c ≤ t := by omega
      have hp := h.pos h2
      have hnl := h.nx_lt h2
      refine ⟨by rw [List.length_set]; omega, fun _ => ?_, fun hc => by omega, h.flat, by omega, fun i hi1 hi2 => ?_⟩
      · rw [List.length_set, hp, Nat.mod_add_mod, hrc]
        congr 1; omega
      · rw [List.length_set, hrc] at hi1
        by_cases e : i = t
        · subst e
          have : (nx0 + i) % c = nx := by
            rw [hp, hrc, show nx0 + i = (nx0 + (i - c)) + c from by omega, Nat.add_mod_right]
          rw [this, List.getElem?_set_self (by omega)]
        · have hne : (nx0 + i) % c ≠ nx := by
            rw [hp, hrc]
            exact mod_apart (by omega) (by omega)
          rw [List.getElem?_set_ne (Ne.symm hne)]
          exact h.at_ i (by omega) (by omega)
    · rw [if_neg h2, if_neg h2]
      have hc0 : c = 0 := by omega
      have hr0 : rs.length = 0 := by omega
      exact ⟨by omega, fun hc => by omega, h.zero, h.flat, by omega, fun i hi1 hi2 => by omega⟩

/-- what the law reads at place j of the ring -/
theorem inv_read {c nx0 l0 : Nat} {seq : Nat → Nat} {t : Nat} {rs : List Nat} {nx : Nat} (h : Inv c nx0 l0 seq t rs nx) (j : Nat) (hj : j < rs.length) : rs[(nx + j) % rs.length]? = some (seq (t - rs.length + j)) := by
  have hl := h.len
  have hc : 0 < c := by omega
  have hle := h.le
  by_cases h1 : rs.length < c
  · have ht : rs.length = t := by omega
    have h0 := h.flat (by omega)
    have hp := h.pos hc
    rw [h0, ht, Nat.sub_self, Nat.zero_mod] at hp
    have := h.at_ j (by omega) (by omega)
    rw [h0, Nat.zero_add, Nat.mod_eq_of_lt (by omega)] at this
    rw [hp, Nat.zero_add, Nat.mod_eq_of_lt hj, this, ht]
    simp
  · have hrc : rs.length = c := by omega
    have := h.at_ (t - rs.length + j) (by omega) (by omega)
    rw [← this, h.pos hc, hrc, Nat.mod_add_mod, Nat.add_assoc]
end Go.Proofs.Qxb6619723a
