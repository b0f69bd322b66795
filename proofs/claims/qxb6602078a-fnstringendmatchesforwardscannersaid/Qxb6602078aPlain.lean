/-
  PLAIN MATHEMATICS OF THE ESCAPES: no Go in sight. 'g k' is the k-th byte behind the opening quote, 'b' says whether byte 0 is escaped.
-/
namespace Go.Proofs.Qxb6602078a.Plain

/-- Is the k-th byte escaped? -/
def esc (g : Nat → Int) (b : Bool) : Nat → Bool
  | 0 => b
  | k + 1 => !(esc g b k) && (g k == 92)

theorem esc_stop {g : Nat → Int} {b : Bool} {k : Nat} (h : g k ≠ 92) : esc g b (k + 1) = false := by
  simp [esc, h]

theorem esc_plain {g : Nat → Int} {b : Bool} {k : Nat} (h : esc g b k = true) : esc g b (k + 1) = false := by
  simp [esc, h]

theorem esc_back {g : Nat → Int} {b : Bool} {k : Nat} (h : esc g b k = false) (h2 : g k = 92) : esc g b (k + 1) = true := by
  simp [esc, h, h2]

/-- A run of m backslashes from place p on turns the mark m times. -/
theorem esc_run {g : Nat → Int} {b : Bool} (p m : Nat) (h : ∀ j, p ≤ j → j < p + m → g j = 92) :
    esc g b (p + m) = (esc g b p != decide (m % 2 = 1)) := by
  induction m with
  | zero => simp
  | succ m ih =>
    have i1 := ih (fun j h1 h2 => h j h1 (by omega))
    have i2 := h (p + m) (by omega) (by omega)
    show (!(esc g b (p + m)) && (g (p + m) == 92)) = _
    rw [i1, i2]
    rcases Nat.mod_two_eq_zero_or_one m with e | e
    · have e2 : (m + 1) % 2 = 1 := by omega
      cases esc g b p <;> simp [e, e2]
    · have e2 : (m + 1) % 2 = 0 := by omega
      cases esc g b p <;> simp [e, e2]

/-- No quote that is not escaped lies ahead of place k. -/
def clear (g : Nat → Int) (b : Bool) (k : Nat) : Prop := ∀ p, p < k → g p = 34 → esc g b p = true

theorem clear_zero (g : Nat → Int) (b : Bool) : clear g b 0 := fun p h => by omega
theorem clear_snoc {g : Nat → Int} {b : Bool} {k : Nat} (h : clear g b k) (h2 : g k = 34 → esc g b k = true) : clear g b (k + 1) := fun p hp h34 => by
  rcases Nat.lt_or_ge p k with h1 | h1
  · exact h p h1 h34
  · have : p = k := by omega
    subst this; exact h2 h34
theorem clear_far {g : Nat → Int} {b : Bool} {k m : Nat} (h : clear g b k) (h2 : ∀ p, k ≤ p → p < m → g p ≠ 34) : clear g b m := fun p hp h34 => by
  rcases Nat.lt_or_ge p k with h1 | h1
  · exact h p h1 h34
  · exact absurd h34 (h2 p h1 hp)
theorem clear_less {g : Nat → Int} {b : Bool} {k m : Nat} (h : clear g b k) (h2 : m ≤ k) : clear g b m := fun p hp h34 => h p (by omega) h34

/-- E is where the string of n bytes ends: at the first quote that is not escaped, or at n. -/
def IsEnd (g : Nat → Int) (b : Bool) (n E : Nat) : Prop :=
  E ≤ n ∧ clear g b E ∧ (E < n → g E = 34 ∧ esc g b E = false)

theorem IsEnd.unique {g : Nat → Int} {b : Bool} {n E F : Nat} (h : IsEnd g b n E) (k : IsEnd g b n F) : E = F := by
  rcases Nat.lt_trichotomy E F with h1 | h1 | h1
  · obtain ⟨h34, he⟩ := h.2.2 (by have := k.1; omega)
    have := k.2.1 E h1 h34
    rw [he] at this; simp at this
  · exact h1
  · obtain ⟨h34, he⟩ := k.2.2 (by have := h.1; omega)
    have := h.2.1 F h1 h34
    rw [he] at this; simp at this

/-- Told by places in the whole text 'l', the opening quote at s: ahead of place E stand just m backslashes. -/
theorem esc_at (l : Nat → Int) (s E m : Nat) (hm : s + 1 + m ≤ E) (hrun : ∀ j, E - m ≤ j → j < E → l j = 92) (hp : l (E - m - 1) ≠ 92) :
    esc (fun k => l (s + 1 + k)) false (E - (s + 1)) = decide (m % 2 = 1) := by
  have e1 : E - (s + 1) = (E - m - (s + 1)) + m := by omega
  have h0 : esc (fun k => l (s + 1 + k)) false (E - m - (s + 1)) = false := by
    by_cases hz : E - m - (s + 1) = 0
    · rw [hz]; rfl
    · obtain ⟨t, ht⟩ : ∃ t, E - m - (s + 1) = t + 1 := ⟨E - m - (s + 1) - 1, by omega⟩
      rw [ht]
      refine esc_stop ?_
      have : s + 1 + t = E - m - 1 := by omega
      simpa [this] using hp
  rw [e1, esc_run _ _ (fun j h1 h2 => hrun _ (by omega) (by omega)), h0]
  simp

end Go.Proofs.Qxb6602078a.Plain
