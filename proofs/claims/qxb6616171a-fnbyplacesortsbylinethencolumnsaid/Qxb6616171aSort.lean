/-
  SEAT b6616171a: THE PLAIN LAW OF THE INSERTION SORT: no Go in it but byPlace's own function 'place'.
-/
import Derived.Test.Qxb6616171aPlace
import Derived.Test.Qxb6616171aMem
namespace Go.Proofs.Qxb6616171a
/-- x stands before y: by line, then column, then index -/
def Klt (L C : Nat → Int) (x y : Nat) : Prop := L x < L y ∨ (L x = L y ∧ (C x < C y ∨ (C x = C y ∧ x < y)))
theorem place_le (l1 c1 l2 c2 : Int) : place l1 c1 l2 c2 ≤ 0 ↔ l1 < l2 ∨ (l1 = l2 ∧ c1 ≤ c2) := by
  unfold place or2 cmp3
  repeat' split
  all_goals omega
structure Out (L C : Nat → Int) (n i : Nat) (p : Nat → Nat) : Prop where
  rng : ∀ t, t < n → p t < n
  rest : ∀ t, i ≤ t → t < n → p t = t
  low : ∀ t, t < i → p t < i
  srt : ∀ t, t + 1 < i → Klt L C (p t) (p (t + 1))
structure Inn (L C : Nat → Int) (n i j : Nat) (p : Nat → Nat) : Prop where
  rng : ∀ t, t < n → p t < n
  rest : ∀ t, i < t → t < n → p t = t
  mine : p j = i
  low : ∀ t, t ≤ i → t ≠ j → p t < i
  s1 : ∀ t, t + 1 < j → Klt L C (p t) (p (t + 1))
  s2 : ∀ t, j < t → t + 1 ≤ i → Klt L C (p t) (p (t + 1))
  gap : ∀ t, t + 1 = j → j < i → Klt L C (p t) (p (j + 1))
  nxt : j < i → Klt L C (p j) (p (j + 1))
variable {L C : Nat → Int} {n i j : Nat} {p : Nat → Nat}
theorem Out.start (h : ∀ t, t < n → p t = t) (hn : 0 < n) : Out L C n 1 p :=
  ⟨fun t ht => by rw [h t ht]; exact ht, fun t _ ht => h t ht, fun t ht => by rw [h t (by omega)]; omega, fun t ht => by omega⟩
theorem Out.inn (h : Out L C n i p) (hi : i < n) : Inn L C n i i p :=
  ⟨h.rng, fun t ht hn => h.rest t (by omega) hn, h.rest i (Nat.le_refl _) hi, fun t ht hne => h.low t (by omega), fun t ht => h.srt t ht, fun t ht h2 => by omega, fun t ht h2 => by omega, fun h2 => by omega⟩
theorem Inn.zero (h : Inn L C n i 0 p) : Out L C n (i + 1) p := by
  refine ⟨h.rng, fun t ht hn => h.rest t (by omega) hn, fun t ht => ?_, fun t ht => ?_⟩
  · by_cases e : t = 0
    · subst e; rw [h.mine]; omega
    · have := h.low t (by omega) e; omega
  · by_cases e : t = 0
    · subst e; exact h.nxt (by omega)
    · exact h.s2 t (by omega) (by omega)
theorem Inn.stop (h : Inn L C n i (j + 1) p) (hj : j + 1 ≤ i) (hle : place (L (p j)) (C (p j)) (L (p (j + 1))) (C (p (j + 1))) ≤ 0) : Out L C n (i + 1) p := by
  refine ⟨h.rng, fun t ht hn => h.rest t (by omega) hn, fun t ht => ?_, fun t ht => ?_⟩
  · by_cases e : t = j + 1
    · subst e; rw [h.mine]; omega
    · have := h.low t (by omega) e; omega
  · by_cases e : t = j
    · subst e
      have hl := h.low t (by omega) (by omega)
      have hm := h.mine
      rw [place_le] at hle
      unfold Klt
      omega
    · rcases Nat.lt_or_ge t j with h1 | h1
      · exact h.s1 t (by omega)
      · by_cases e2 : t = j + 1
        · subst e2; exact h.nxt (by omega)
        · exact h.s2 t (by omega) (by omega)
/-- the exchange of places j and j + 1 -/
def swp (p : Nat → Nat) (j : Nat) : Nat → Nat := upd (upd p j (p (j + 1))) (j + 1) (p j)
theorem swp_l (p : Nat → Nat) (j : Nat) : swp p j j = p (j + 1) := by unfold swp; rw [upd_other _ _ _ _ (by omega), upd_same]
theorem swp_r (p : Nat → Nat) (j : Nat) : swp p j (j + 1) = p j := by unfold swp; rw [upd_same]
theorem swp_o (p : Nat → Nat) (j t : Nat) (h1 : t ≠ j) (h2 : t ≠ j + 1) : swp p j t = p t := by unfold swp; rw [upd_other _ _ _ _ h2, upd_other _ _ _ _ h1]
theorem Inn.step (h : Inn L C n i (j + 1) p) (hj : j + 1 ≤ i) (hi : i < n) (hgt : ¬ place (L (p j)) (C (p j)) (L (p (j + 1))) (C (p (j + 1))) ≤ 0) : Inn L C n i j (swp p j) := by
  refine ⟨fun t ht => ?_, fun t ht hn => ?_, ?_, fun t ht hne => ?_, fun t ht => ?_, fun t ht h2 => ?_, fun t ht h2 => ?_, fun h2 => ?_⟩
  · by_cases e1 : t = j
    · subst e1; rw [swp_l]; exact h.rng _ (by omega)
    · by_cases e2 : t = j + 1
      · subst e2; rw [swp_r]; exact h.rng _ (by omega)
      · rw [swp_o _ _ _ e1 e2]; exact h.rng t ht
  · rw [swp_o _ _ _ (by omega) (by omega)]; exact h.rest t ht hn
  · rw [swp_l]; exact h.mine
  · by_cases e2 : t = j + 1
    · subst e2; rw [swp_r]; exact h.low j (by omega) (by omega)
    · rw [swp_o _ _ _ hne e2]; exact h.low t ht e2
  · rw [swp_o _ _ _ (by omega) (by omega), swp_o _ _ _ (by omega) (by omega)]; exact h.s1 t (by omega)
  · by_cases e2 : t = j + 1
    · subst e2
      rw [swp_r, swp_o _ _ _ (by omega) (by omega)]
      exact h.gap j rfl (by omega)
    · rw [swp_o _ _ _ (by omega) e2, swp_o _ _ _ (by omega) (by omega)]
      exact h.s2 t (by omega) h2
  · rw [swp_o _ _ _ (by omega) (by omega), swp_r, ← ht]
    exact h.s1 t (by omega)
  · rw [swp_l, swp_r]
    rw [place_le] at hgt
    unfold Klt
    omega
end Go.Proofs.Qxb6616171a
