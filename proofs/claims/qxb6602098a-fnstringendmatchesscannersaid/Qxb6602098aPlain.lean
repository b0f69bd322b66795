/-
  PLAIN MATHEMATICS OF THE ESCAPES: no Go in sight. 'g k' is the k-th byte behind the opening quote, 'b' says whether byte 0 is escaped.
-/
namespace Go.Proofs.Qxb6602098a.Plain

/-- Is the k-th byte escaped? -/
def esc (g : Nat → Int) (b : Bool) : Nat → Bool
  | 0 => b
  | k + 1 => !(esc g b k) && (g k == 92)

theorem esc_stop {g : Nat → Int} {b : Bool} {k : Nat} (h : g k ≠ 92) : esc g b (k + 1) = false := by
  simp [esc, h]

theorem esc_plain {g : Nat → Int} {b : Bool} {k : Nat} (h : esc g b k = true) : esc g b (k + 1) = false := by
  simp [esc, h]

theorem esc_back {g : Nat → Int} {b : Bool} {k : Nat} (h : esc g b k = false) (h2 : g k = 92) : esc g b (k + 1) = true := by
  simp [esc, h, h2]

/-- A run of m backslashes from place p on turns the mark m times. -/
theorem esc_run {g : Nat → Int} {b : Bool} (p m : Nat) (h : ∀ j, p ≤ j → j < p + m → g j = 92) :
    esc g b (p + m) = (esc g b p != decide (m % 2 = 1)) := by
  induction m with
  | zero => simp
  | succ m ih =>
    have i1 := ih (fun j h1 h2 => h j h1 (by omega))
    have i2 := h (p + m) (by omega) (by omega)
    show (!(esc g b (p + m)) && (g (p + m) == 92)) = _
    rw [i1, i2]
    rcases Nat.mod_two_eq_zero_or_one m with e | e
    · have e2 : (m + 1) % 2 = 1 := by omega
      cases esc g b p <;> simp [e, e2]
    · have e2 : (m + 1) % 2 = 0 := by omega
      cases esc g b p <;> simp [e, e2]

/-- No quote that is not escaped lies ahead of place k. -/
def clear (g : Nat → Int) (b : Bool) (k : Nat) : Prop := ∀ p, p < k → g p = 34 → esc g b p = true

theorem clear_zero (g : Nat → Int) (b : Bool) : clear g b 0 := fun p h => by omega
theorem clear_snoc {g : Nat → Int} {b : Bool} {k : Nat} (h : clear g b k) (h2 : g k = 34 → esc g b k = true) : clear g b (k + 1) := fun p hp h34 => by
  rcases Nat.lt_or_ge p k with h1 | h1
  · exact h p h1 h34
  · have : p = k := by omega
    subst this; exact h2 h34
theorem clear_far {g : Nat → Int} {b : Bool} {k m : Nat} (h : clear g b k) (h2 : ∀ p, k ≤ p → p < m → g p ≠ 34) : clear g b m := fun p hp h34 => by
  rcases Nat.lt_or_ge p k with h1 | h1
  · exact h p h1 h34
  · exact absurd h34 (h2 p h1 hp)
theorem clear_less {g : Nat → Int} {b : Bool} {k m : Nat} (h : clear g b k) (h2 : m ≤ k) : clear g b m := fun p hp h34 => h p (by omega) h34

/-- E is where the string of n bytes ends: at the first quote that is not escaped, or at n. -/
def IsEnd (g : Nat → Int) (b : Bool) (n E : Nat) : Prop :=
  E ≤ n ∧ clear g b E ∧ (E < n → g E = 34 ∧ esc g b E = false)

theorem IsEnd.unique {g : Nat → Int} {b : Bool} {n E F : Nat} (h : IsEnd g b n E) (k : IsEnd g b n F) : E = F := by
  rcases Nat.lt_trichotomy E F with h1 | h1 | h1
  · obtain ⟨h34, he⟩ := h.2.2 (by have := k.1; omega)
    have := k.2.1 E h1 h34
    rw [he] at this; simp at this
  · exact h1
  · obtain ⟨h34, he⟩ := k.2.2 (by have := h.1; omega)
    have := h.2.1 F h1 h34
    rw [he] at this; simp at this

/-- Told by places in the whole text 'l', the opening quote at s: ahead of place E stand just m backslashes. -/
theorem esc_at (l : Nat → Int) (s E m : Nat) (hm : s + 1 + m ≤ E) (hrun : ∀ j, E - m ≤ j → j < E → l j = 92) (hp : l (E - m - 1) ≠ 92) :
    esc (fun k => l (s + 1 + k)) false (E - (s + 1)) = decide (m % 2 = 1) := by
  have e1 : E - (s + 1) = (E - m - (s + 1)) + m := by omega
  have h0 : esc (fun k => l (s + 1 + k)) false (E - m - (s + 1)) = false := by
    by_cases hz : E - m - (s + 1) = 0
    · rw [hz]; rfl
    · obtain ⟨t, ht⟩ : ∃ t, E - m - (s + 1) = t + 1 := ⟨E - m - (s + 1) - 1, by omega⟩
      rw [ht]
      refine esc_stop ?_
      have : s + 1 + t = E - m - 1 := by omega
      simpa [this] using hp
  rw [e1, esc_run _ _ (fun j h1 h2 => hrun _ (by omega) (by omega)), h0]
  simp

/-- Over bytes that are no backslash the mark stays off. -/
theorem esc_quiet {g : Nat → Int} {b : Bool} {k : Nat} (h : esc g b k = false) (m : Nat) (h2 : ∀ j, k ≤ j → j < k + m → g j ≠ 92) : esc g b (k + m) = false := by
  cases m with
  | zero => exact h
  | succ m => exact esc_stop (h2 (k + m) (by omega) (by omega))

/-- A backslash lies ahead of place E. -/
def Back (g : Nat → Int) (E : Nat) : Prop := ∃ p, p < E ∧ g p = 92
/-- Behind a backslash lies a quote. -/
def Late (g : Nat → Int) (n : Nat) : Prop := ∃ f q, f < q ∧ q < n ∧ g f = 92 ∧ g q = 34

/-- What is answered: the end and whether a backslash lies ahead of it; or -1 and whether a quote lies behind the first backslash. -/
def Ans (g : Nat → Int) (o n : Nat) (r : Int) (x : Bool) : Prop :=
  (∃ E, E < n ∧ r = ((o + E : Nat) : Int) ∧ IsEnd g false n E ∧ (x = true ↔ Back g E)) ∨ (r = -1 ∧ IsEnd g false n n ∧ (x = true ↔ Late g n))

theorem Ans.unique {g : Nat → Int} {o n : Nat} {r r' : Int} {x x' : Bool} (h : Ans g o n r x) (k : Ans g o n r' x') : r = r' ∧ x = x' := by
  rcases h with ⟨E, hE, rfl, hi, hx⟩ | ⟨rfl, hi, hx⟩ <;> rcases k with ⟨F, hF, rfl, hj, hy⟩ | ⟨rfl, hj, hy⟩
  · obtain rfl := hi.unique hj
    exact ⟨rfl, by rw [Bool.eq_iff_iff, hx, hy]⟩
  · have := hi.unique hj; omega
  · have := hi.unique hj; omega
  · exact ⟨rfl, by rw [Bool.eq_iff_iff, hx, hy]⟩

theorem Back.more {g : Nat → Int} {E F : Nat} (h : Back g E) (hEF : E ≤ F) : Back g F := by
  obtain ⟨p, h1, h2⟩ := h
  exact ⟨p, by omega, h2⟩

theorem not_late_of_first {g : Nat → Int} {n : Nat} (h : ∀ j, j < n → g j ≠ 92) : ¬ Late g n := by
  rintro ⟨f, q, h1, h2, h3, _⟩
  exact h f (by omega) h3

theorem not_late_of_none {g : Nat → Int} {n f : Nat} (h : ∀ j, j < f → g j ≠ 92) (h2 : ∀ j, f < j → j < n → g j ≠ 34) : ¬ Late g n := by
  rintro ⟨p, q, h1, h3, h4, h5⟩
  by_cases hp : p < f
  · exact h p hp h4
  · exact h2 q (by omega) h3 h5

end Go.Proofs.Qxb6602098a.Plain
