/-
  PLAIN MATHEMATICS OF ONE JSON VALUE's TEXT: an automaton of four fields; no Go in sight (but for int's wrap).
-/
import Derived.Test.Qxb6602126aPlain
import Derived.RowKit
namespace Go.Proofs.Qxb6602126a.Plain
open Go.RowKit

/-- The state: the depth, in a string, in a literal, the next byte is escaped. -/
structure St where
  d : Int
  str : Bool
  lit : Bool
  esc : Bool

def ends (c : Int) : Bool := c == 32 || c == 9 || c == 13 || c == 10 || c == 44 || c == 125 || c == 93

/-- The state behind a byte. -/
def next (S : St) (c : Int) : St :=
  if S.str = true then
    (if S.esc = true then ⟨S.d, true, S.lit, false⟩ else if c = 92 then ⟨S.d, true, S.lit, true⟩ else if c = 34 then ⟨S.d, false, S.lit, false⟩ else ⟨S.d, true, S.lit, false⟩)
  else if c = 34 then ⟨S.d, true, S.lit, S.esc⟩
  else if S.lit = true then ⟨S.d, false, true, S.esc⟩
  else if c = 123 ∨ c = 91 then ⟨wrap64 (S.d + 1), false, false, S.esc⟩
  else if c = 125 ∨ c = 93 then ⟨wrap64 (S.d - 1), false, false, S.esc⟩
  else if S.d = 0 then ⟨S.d, false, true, S.esc⟩ else ⟨S.d, false, false, S.esc⟩

/-- Does the value end here? 0: it goes on; 1: behind this byte; 2: ahead of it. -/
def stop (S : St) (c : Int) : Nat :=
  if S.str = true then (if S.esc = false ∧ c = 34 ∧ S.d = 0 then 1 else 0)
  else if c = 34 then 0
  else if S.lit = true then (if ends c = true then 2 else 0)
  else if c = 123 ∨ c = 91 then 0
  else if c = 125 ∨ c = 93 then (if wrap64 (S.d - 1) ≤ 0 then 1 else 0)
  else if S.d = 0 then (if ends c = true then 2 else 0) else 0

/-- The state behind k bytes. -/
def run (g : Nat → Int) (S : St) : Nat → St
  | 0 => S
  | k + 1 => next (run g S k) (g k)

/-- The value goes on through the first k bytes. -/
def on (g : Nat → Int) (S : St) (k : Nat) : Prop := ∀ j, j < k → stop (run g S j) (g j) = 0

theorem on_zero (g : Nat → Int) (S : St) : on g S 0 := fun j h => by omega
theorem on_snoc {g : Nat → Int} {S : St} {k : Nat} (h : on g S k) (h2 : stop (run g S k) (g k) = 0) : on g S (k + 1) := fun j hj => by
  rcases Nat.lt_or_ge j k with h1 | h1
  · exact h j h1
  · have : j = k := by omega
    subst this; exact h2

/-- At byte i it ends; or i is n and it does not end. -/
def Fin (g : Nat → Int) (S : St) (n i : Nat) : Prop := i ≤ n ∧ on g S i ∧ (i < n → stop (run g S i) (g i) ≠ 0)

theorem Fin.unique {g : Nat → Int} {S : St} {n i j : Nat} (h : Fin g S n i) (k : Fin g S n j) : i = j := by
  rcases Nat.lt_trichotomy i j with h1 | h1 | h1
  · exact absurd (k.2.1 i h1) (h.2.2 (by have := k.1; omega))
  · exact h1
  · exact absurd (h.2.1 j h1) (k.2.2 (by have := h.1; omega))

/-- How many bytes are the value's, where it ends at byte i. -/
def cnt (S : St) (c : Int) (i : Nat) : Nat := if stop S c = 1 then i + 1 else i
/-- The depth and the string mark that 'read' leaves where the value ends: S0 is the state at the piece's start. -/
def dOut (S0 S : St) (c : Int) : Int := if S.str = true then S.d else if S.lit = true then S0.d else if c = 125 ∨ c = 93 then wrap64 (S.d - 1) else S0.d
def sOut (S0 S : St) : Bool := if S.str = true then false else S0.str

/-! ### The body of a string -/

/-- From an open string on: as long as no quote that is not escaped comes, the depth and the marks stay. -/
theorem run_string {g : Nat → Int} {S0 T : St} {k : Nat} (hT : run g S0 k = T) (hs : T.str = true) : ∀ j, clear (fun i => g (k + i)) T.esc j →
    run g S0 (k + j) = ⟨T.d, true, T.lit, esc (fun i => g (k + i)) T.esc j⟩
  | 0, _ => by
    rw [Nat.add_zero, hT]
    cases T; simp_all [esc]
  | j + 1, hc => by
    have ih := run_string hT hs j (clear_less hc (by omega))
    show next (run g S0 (k + j)) (g (k + j)) = _
    rw [ih]
    have hq := hc j (by omega)
    simp only [next, if_true, esc]
    cases he : esc (fun i => g (k + i)) T.esc j
    · simp only [he] at hq
      have h34 : g (k + j) ≠ 34 := fun h => by have := hq h; cases this
      by_cases h92 : g (k + j) = 92
      · simp [h92]
      · simp [h92, h34]
    · simp

theorem on_string {g : Nat → Int} {S0 T : St} {k : Nat} (hT : run g S0 k = T) (hs : T.str = true) (ho : on g S0 k) (j : Nat) (hc : clear (fun i => g (k + i)) T.esc j) : on g S0 (k + j) := by
  intro i hi
  rcases Nat.lt_or_ge i k with h1 | h1
  · exact ho i h1
  · obtain ⟨m, rfl⟩ : ∃ m, i = k + m := ⟨i - k, by omega⟩
    rw [run_string hT hs m (clear_less hc (by omega))]
    simp only [stop, if_true]
    rw [if_neg]
    rintro ⟨h2, h3, _⟩
    have := hc m (by omega) h3
    rw [h2] at this; cases this

/-- The string closes at its byte E. -/
theorem string_closes {g : Nat → Int} {S0 T : St} {k n E : Nat} (hT : run g S0 k = T) (hs : T.str = true) (ho : on g S0 k) (he : IsEnd (fun i => g (k + i)) T.esc (n - k) E) (hE : E < n - k) :
    run g S0 (k + E + 1) = ⟨T.d, false, T.lit, false⟩ ∧ on g S0 (k + E) ∧ run g S0 (k + E) = ⟨T.d, true, T.lit, false⟩ ∧ g (k + E) = 34 := by
  obtain ⟨h1, h2, h3⟩ := he
  obtain ⟨h4, h5⟩ := h3 hE
  have hr := run_string hT hs E h2
  rw [h5] at hr
  have h4' : g (k + E) = 34 := h4
  refine ⟨?_, on_string hT hs ho E h2, hr, h4⟩
  show next (run g S0 (k + E)) (g (k + E)) = _
  rw [hr, h4']
  simp [next]

/-- It does not close. -/
theorem string_open {g : Nat → Int} {S0 T : St} {k n : Nat} (hT : run g S0 k = T) (hs : T.str = true) (ho : on g S0 k) (hk : k ≤ n) (he : IsEnd (fun i => g (k + i)) T.esc (n - k) (n - k)) :
    run g S0 n = ⟨T.d, true, T.lit, esc (fun i => g (k + i)) T.esc (n - k)⟩ ∧ on g S0 n := by
  have hr := run_string hT hs (n - k) he.2.1
  have ho' := on_string hT hs ho (n - k) he.2.1
  rw [show k + (n - k) = n by omega] at hr ho'
  exact ⟨hr, ho'⟩

/-! ### Two pieces -/
theorem run_congr {g h : Nat → Int} {S : St} : ∀ (k : Nat), (∀ j, j < k → g j = h j) → run g S k = run h S k
  | 0, _ => rfl
  | k + 1, e => by
    show next (run g S k) (g k) = next (run h S k) (h k)
    rw [run_congr k (fun j hj => e j (by omega)), e k (by omega)]

theorem run_shift (g : Nat → Int) (S : St) (m : Nat) : ∀ k, run (fun j => g (m + j)) (run g S m) k = run g S (m + k)
  | 0 => rfl
  | k + 1 => by
    show next (run (fun j => g (m + j)) (run g S m) k) (g (m + k)) = next (run g S (m + k)) (g (m + k))
    rw [run_shift g S m k]

theorem run_glue_lo (g h : Nat → Int) (S : St) (n k : Nat) (hk : k ≤ n) : run (glue g h n) S k = run g S k :=
  run_congr k (fun j hj => glue_lo g h (by omega))
theorem run_glue_hi (g h : Nat → Int) (S : St) (n k : Nat) : run (glue g h n) S (n + k) = run h (run g S n) k := by
  rw [← run_shift, run_glue_lo g h S n n (Nat.le_refl _)]
  exact run_congr k (fun j _ => glue_hi g h n j)

theorem Fin.first {g h : Nat → Int} {S : St} {n m i : Nat} (he : Fin g S n i) (hi : i < n) : Fin (glue g h n) S (n + m) i := by
  obtain ⟨h1, h2, h3⟩ := he
  refine ⟨by omega, fun j hj => ?_, fun _ => ?_⟩
  · rw [glue_lo g h (by omega), run_glue_lo g h S n j (by omega)]
    exact h2 j hj
  · rw [glue_lo g h hi, run_glue_lo g h S n i (by omega)]
    exact h3 hi

theorem Fin.second {g h : Nat → Int} {S : St} {n m i : Nat} (he : Fin g S n n) (hf : Fin h (run g S n) m i) : Fin (glue g h n) S (n + m) (n + i) := by
  obtain ⟨h1, h2, h3⟩ := he
  obtain ⟨k1, k2, k3⟩ := hf
  refine ⟨by omega, fun p hp => ?_, fun hlt => ?_⟩
  · rcases Nat.lt_or_ge p n with hpn | hpn
    · rw [glue_lo g h hpn, run_glue_lo g h S n p (by omega)]
      exact h2 p hpn
    · obtain ⟨q, rfl⟩ : ∃ q, p = n + q := ⟨p - n, by omega⟩
      rw [glue_hi, run_glue_hi]
      exact k2 q (by omega)
  · rw [glue_hi, run_glue_hi]
    exact k3 (by omega)

end Go.Proofs.Qxb6602126a.Plain
