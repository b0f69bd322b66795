/-
  PLAIN: what 'read' answers, as one predicate; two pieces against the whole.
-/
import Derived.Test.Qxb6602126aAuto
namespace Go.Proofs.Qxb6602126a.Plain
open Go.RowKit

/-- N bytes are the value's; dn: it ended; the four fields behind it. -/
def Out (g : Nat → Int) (S0 : St) (n N : Nat) (dn : Bool) (D : Int) (B L X : Bool) : Prop :=
  (∃ i, i < n ∧ Fin g S0 n i ∧ dn = true ∧ N = cnt (run g S0 i) (g i) i ∧ D = dOut S0 (run g S0 i) (g i) ∧ B = sOut S0 (run g S0 i) ∧ L = (next (run g S0 i) (g i)).lit ∧ X = (next (run g S0 i) (g i)).esc) ∨
  (Fin g S0 n n ∧ dn = false ∧ N = n ∧ D = (run g S0 n).d ∧ B = (run g S0 n).str ∧ L = (run g S0 n).lit ∧ X = (run g S0 n).esc)

theorem Out.le {g : Nat → Int} {S0 : St} {n N : Nat} {dn : Bool} {D : Int} {B L X : Bool} (h : Out g S0 n N dn D B L X) : N ≤ n := by
  rcases h with ⟨i, hi, _, _, rfl, _⟩ | ⟨_, _, rfl, _⟩
  · unfold cnt; split <;> omega
  · exact Nat.le_refl _

theorem cnt_shift (S : St) (c : Int) (n i : Nat) : cnt S c (n + i) = n + cnt S c i := by
  unfold cnt; split <;> omega

theorem pieces_first {ga gb : Nat → Int} {S0 : St} {na nb N N1 : Nat} {dn : Bool} {D D1 : Int} {B L X B1 L1 X1 : Bool}
    (h : Out (glue ga gb na) S0 (na + nb) N dn D B L X) (h1 : Out ga S0 na N1 true D1 B1 L1 X1) :
    dn = true ∧ N = N1 ∧ D = D1 ∧ B = B1 ∧ L = L1 ∧ X = X1 := by
  rcases h1 with ⟨i, hi, hf, _, rfl, rfl, rfl, rfl, rfl⟩ | ⟨_, h, _⟩
  · have hw : Fin (glue ga gb na) S0 (na + nb) i := hf.first hi
    rcases h with ⟨j, hj, hg, rfl, rfl, rfl, rfl, rfl, rfl⟩ | ⟨hg, _⟩
    · obtain rfl := hg.unique hw
      rw [glue_lo ga gb hi, run_glue_lo ga gb S0 na j (by omega)]
      exact ⟨rfl, rfl, rfl, rfl, rfl, rfl⟩
    · have := hg.unique hw; omega
  · cases h

theorem pieces_second {ga gb : Nat → Int} {S0 : St} {na nb N N1 N2 : Nat} {dn dn2 : Bool} {D D1 D2 : Int} {B L X B1 L1 X1 B2 L2 X2 : Bool}
    (h : Out (glue ga gb na) S0 (na + nb) N dn D B L X) (h1 : Out ga S0 na N1 false D1 B1 L1 X1) (h2 : Out gb ⟨D1, B1, L1, X1⟩ nb N2 dn2 D2 B2 L2 X2) :
    dn = dn2 ∧ N = na + N2 ∧ L = L2 ∧ X = X2 ∧ (dn2 = false → N2 = nb ∧ D = D2 ∧ B = B2) := by
  rcases h1 with ⟨_, _, _, h, _⟩ | ⟨hf, _, _, rfl, rfl, rfl, rfl⟩
  · cases h
  · have e : (⟨(run ga S0 na).d, (run ga S0 na).str, (run ga S0 na).lit, (run ga S0 na).esc⟩ : St) = run ga S0 na := rfl
    rw [e] at h2
    rcases h2 with ⟨i, hi, hk, rfl, rfl, rfl, rfl, rfl, rfl⟩ | ⟨hk, rfl, hN2, rfl, rfl, rfl, rfl⟩
    · have hw := hf.second hk
      rcases h with ⟨j, hj, hg, rfl, rfl, rfl, rfl, rfl, rfl⟩ | ⟨hg, _⟩
      · obtain rfl := hg.unique hw
        rw [glue_hi, run_glue_hi, cnt_shift]
        exact ⟨rfl, rfl, rfl, rfl, fun h => by cases h⟩
      · have := hg.unique hw; omega
    · have hw := hf.second hk
      rcases h with ⟨j, hj, hg, rfl, rfl, rfl, rfl, rfl, rfl⟩ | ⟨hg, rfl, hN, rfl, rfl, rfl, rfl⟩
      · have := hg.unique hw; omega
      · rw [run_glue_hi]
        exact ⟨rfl, by omega, rfl, rfl, fun _ => ⟨hN2, rfl, rfl⟩⟩

end Go.Proofs.Qxb6602126a.Plain
