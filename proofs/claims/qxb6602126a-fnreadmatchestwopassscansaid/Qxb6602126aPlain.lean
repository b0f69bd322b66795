/-
  PLAIN MATHEMATICS OF THE ESCAPES: no Go in sight. 'g k' is the k-th byte behind the opening quote, 'b' says whether byte 0 is escaped.
-/
namespace Go.Proofs.Qxb6602126a.Plain

/-- Is the k-th byte escaped? -/
def esc (g : Nat → Int) (b : Bool) : Nat → Bool
  | 0 => b
  | k + 1 => !(esc g b k) && (g k == 92)

theorem esc_stop {g : Nat → Int} {b : Bool} {k : Nat} (h : g k ≠ 92) : esc g b (k + 1) = false := by
  simp [esc, h]

theorem esc_plain {g : Nat → Int} {b : Bool} {k : Nat} (h : esc g b k = true) : esc g b (k + 1) = false := by
  simp [esc, h]

theorem esc_back {g : Nat → Int} {b : Bool} {k : Nat} (h : esc g b k = false) (h2 : g k = 92) : esc g b (k + 1) = true := by
  simp [esc, h, h2]

/-- A run of m backslashes from place p on turns the mark m times. -/
theorem esc_run {g : Nat → Int} {b : Bool} (p m : Nat) (h : ∀ j, p ≤ j → j < p + m → g j = 92) :
    esc g b (p + m) = (esc g b p != decide (m % 2 = 1)) := by
  induction m with
  | zero => simp
  | succ m ih =>
    have i1 := ih (fun j h1 h2 => h j h1 (by omega))
    have i2 := h (p + m) (by omega) (by omega)
    show (!(esc g b (p + m)) && (g (p + m) == 92)) = _
    rw [i1, i2]
    rcases Nat.mod_two_eq_zero_or_one m with e | e
    · have e2 : (m + 1) % 2 = 1 := by omega
      cases esc g b p <;> simp [e, e2]
    · have e2 : (m + 1) % 2 = 0 := by omega
      cases esc g b p <;> simp [e, e2]

/-- No quote that is not escaped lies ahead of place k. -/
def clear (g : Nat → Int) (b : Bool) (k : Nat) : Prop := ∀ p, p < k → g p = 34 → esc g b p = true

theorem clear_zero (g : Nat → Int) (b : Bool) : clear g b 0 := fun p h => by omega
theorem clear_snoc {g : Nat → Int} {b : Bool} {k : Nat} (h : clear g b k) (h2 : g k = 34 → esc g b k = true) : clear g b (k + 1) := fun p hp h34 => by
  rcases Nat.lt_or_ge p k with h1 | h1
  · exact h p h1 h34
  · have : p = k := by omega
    subst this; exact h2 h34
theorem clear_far {g : Nat → Int} {b : Bool} {k m : Nat} (h : clear g b k) (h2 : ∀ p, k ≤ p → p < m → g p ≠ 34) : clear g b m := fun p hp h34 => by
  rcases Nat.lt_or_ge p k with h1 | h1
  · exact h p h1 h34
  · exact absurd h34 (h2 p h1 hp)
theorem clear_less {g : Nat → Int} {b : Bool} {k m : Nat} (h : clear g b k) (h2 : m ≤ k) : clear g b m := fun p hp h34 => h p (by omega) h34

/-- E is where the string of n bytes ends: at the first quote that is not escaped, or at n. -/
def IsEnd (g : Nat → Int) (b : Bool) (n E : Nat) : Prop :=
  E ≤ n ∧ clear g b E ∧ (E < n → g E = 34 ∧ esc g b E = false)

theorem IsEnd.unique {g : Nat → Int} {b : Bool} {n E F : Nat} (h : IsEnd g b n E) (k : IsEnd g b n F) : E = F := by
  rcases Nat.lt_trichotomy E F with h1 | h1 | h1
  · obtain ⟨h34, he⟩ := h.2.2 (by have := k.1; omega)
    have := k.2.1 E h1 h34
    rw [he] at this; simp at this
  · exact h1
  · obtain ⟨h34, he⟩ := k.2.2 (by have := h.1; omega)
    have := h.2.1 F h1 h34
    rw [he] at this; simp at this

/-- Ahead of place E stand just m backslashes, and behind them (from the left) the start or another byte. -/
theorem esc_at (g : Nat → Int) (b : Bool) (E m : Nat) (hm : m ≤ E) (hrun : ∀ j, E - m ≤ j → j < E → g j = 92) (hp : E - m ≠ 0 → g (E - m - 1) ≠ 92) :
    esc g b E = if E - m = 0 then (decide (m % 2 = 1) != b) else decide (m % 2 = 1) := by
  have e1 : esc g b E = (esc g b (E - m) != decide (m % 2 = 1)) := by
    have := esc_run (g := g) (b := b) (E - m) m (fun j h1 h2 => hrun j h1 (by omega))
    rwa [show E - m + m = E by omega] at this
  rw [e1]
  by_cases hz : E - m = 0
  · rw [if_pos hz, hz]
    show (b != decide (m % 2 = 1)) = _
    cases b <;> cases decide (m % 2 = 1) <;> rfl
  · rw [if_neg hz]
    have h0 : esc g b (E - m) = false := by
      obtain ⟨t, ht⟩ : ∃ t, E - m = t + 1 := ⟨E - m - 1, by omega⟩
      rw [ht]
      refine esc_stop ?_
      have := hp hz
      rwa [ht] at this
    rw [h0]
    cases decide (m % 2 = 1) <;> rfl

theorem esc_congr {g h : Nat → Int} {b : Bool} : ∀ (k : Nat), (∀ j, j < k → g j = h j) → esc g b k = esc h b k
  | 0, _ => rfl
  | k + 1, e => by
    show (!(esc g b k) && (g k == 92)) = (!(esc h b k) && (h k == 92))
    rw [esc_congr k (fun j hj => e j (by omega)), e k (by omega)]

theorem esc_shift (g : Nat → Int) (b : Bool) (m : Nat) : ∀ k, esc (fun j => g (m + j)) (esc g b m) k = esc g b (m + k)
  | 0 => rfl
  | k + 1 => by
    show (!(esc (fun j => g (m + j)) (esc g b m) k) && (g (m + k) == 92)) = (!(esc g b (m + k)) && (g (m + k) == 92))
    rw [esc_shift g b m k]

/-- A text of n + m bytes, its first n bytes told by g, the next m by h. -/
def glue (g h : Nat → Int) (n : Nat) : Nat → Int := fun i => if i < n then g i else h (i - n)

theorem glue_lo (g h : Nat → Int) {n i : Nat} (hi : i < n) : glue g h n i = g i := by simp [glue, hi]
theorem glue_hi (g h : Nat → Int) (n i : Nat) : glue g h n (n + i) = h i := by
  simp only [glue]
  rw [if_neg (by omega), show n + i - n = i by omega]

theorem esc_glue_lo (g h : Nat → Int) (b : Bool) (n k : Nat) (hk : k ≤ n) : esc (glue g h n) b k = esc g b k :=
  esc_congr k (fun j hj => glue_lo g h (by omega))
theorem esc_glue_hi (g h : Nat → Int) (b : Bool) (n k : Nat) : esc (glue g h n) b (n + k) = esc h (esc g b n) k := by
  rw [← esc_shift, esc_glue_lo g h b n n (Nat.le_refl _)]
  exact esc_congr k (fun j _ => glue_hi g h n j)

/-- The string ends inside the first piece: there it ends in the whole. -/
theorem IsEnd.first {g h : Nat → Int} {b : Bool} {n m E : Nat} (he : IsEnd g b n E) (hE : E < n) : IsEnd (glue g h n) b (n + m) E := by
  obtain ⟨h1, h2, h3⟩ := he
  refine ⟨by omega, fun p hp h34 => ?_, fun _ => ?_⟩
  · rw [glue_lo g h (by omega)] at h34
    rw [esc_glue_lo g h b n p (by omega)]
    exact h2 p hp h34
  · rw [glue_lo g h hE, esc_glue_lo g h b n E (by omega)]
    exact h3 hE

/-- It goes on behind the first piece. -/
theorem IsEnd.second {g h : Nat → Int} {b : Bool} {n m E : Nat} (he : IsEnd g b n n) (hf : IsEnd h (esc g b n) m E) : IsEnd (glue g h n) b (n + m) (n + E) := by
  obtain ⟨h1, h2, h3⟩ := he
  obtain ⟨k1, k2, k3⟩ := hf
  refine ⟨by omega, fun p hp h34 => ?_, fun hlt => ?_⟩
  · rcases Nat.lt_or_ge p n with hpn | hpn
    · rw [glue_lo g h hpn] at h34
      rw [esc_glue_lo g h b n p (by omega)]
      exact h2 p hpn h34
    · obtain ⟨q, rfl⟩ : ∃ q, p = n + q := ⟨p - n, by omega⟩
      rw [glue_hi] at h34
      rw [esc_glue_hi]
      exact k2 q (by omega) h34
  · rw [glue_hi, esc_glue_hi]
    exact k3 (by omega)

end Go.Proofs.Qxb6602126a.Plain
