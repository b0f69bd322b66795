import Derived.Test.Qxb6602209aWant
import Derived.Test.Qxb6602209aAppMsg
namespace Go.Proofs.Qxb6602209a
open Go.RowKit
set_option linter.unusedVariables false

/-- Field i as bytes. -/
def fld (m : M) (q : Int) (i : Nat) : List Int := if isC i = true then bytesI (fsM m i) ++ [0] else [foM m q i]
/-- Where field i begins. -/
def pos (m : M) (q : Int) : Nat → Nat
  | 0 => 0
  | i + 1 => pos m q i + (fld m q i).length
/-- The first i fields. -/
def upTo (m : M) (q : Int) : Nat → List Int
  | 0 => []
  | i + 1 => upTo m q i ++ fld m q i
theorem upTo_length (m : M) (q : Int) : ∀ i, (upTo m q i).length = pos m q i
  | 0 => rfl
  | i + 1 => by simp [upTo, pos, upTo_length m q i]

theorem enc_eq (m : M) (q : Int) (S O : List Int) : enc m q S O = upTo m q 17 ++ (S ++ O) := by
  simp [enc, upTo, fld, isC, fsM, foM]

/-- The text from field i on. -/
theorem upTo_split (m : M) (q : Int) (R : List Int) (i : Nat) : ∀ k, i + 1 + k ≤ 17 → ∃ T, upTo m q (i + 1 + k) ++ R = upTo m q i ++ (fld m q i ++ T)
  | 0, _ => ⟨R, by simp [upTo]⟩
  | k + 1, h => by
    obtain ⟨T, hT⟩ := upTo_split m q (fld m q (i + 1 + k) ++ R) i k (by omega)
    refine ⟨T, ?_⟩
    rw [← hT]
    show upTo m q (i + 1 + k) ++ fld m q (i + 1 + k) ++ R = _
    rw [List.append_assoc]

theorem body_get (m : M) (q : Int) (R : List Int) (i j : Nat) (hi : i < 17) (hj : j < (fld m q i).length) : (upTo m q 17 ++ R).getD (pos m q i + j) 0 = (fld m q i).getD j 0 := by
  obtain ⟨T, hT⟩ := upTo_split m q R i (17 - (i + 1)) (by omega)
  rw [show i + 1 + (17 - (i + 1)) = 17 by omega] at hT
  rw [hT, ← upTo_length m q i]
  simp only [List.getD_eq_getElem?_getD]
  rw [List.getElem?_append_right (by omega), show (upTo m q i).length + j - (upTo m q i).length = j by omega, List.getElem?_append_left hj]

theorem fld_lenC (m : M) (q : Int) (i : Nat) (h : isC i = true) : (fld m q i).length = (fsM m i).size + 1 := by
  simp [fld, h, bytesI]
theorem fld_lenO (m : M) (q : Int) (i : Nat) (h : isC i = false) : (fld m q i).length = 1 := by simp [fld, h]

theorem nul_nz {s : ByteArray} (h : nul s = false) : ∀ j (hj : j < s.size), ((s[j].toNat : Nat) : Int) ≠ 0 := by
  intro j hj e
  have h0 : s[j] = 0 := UInt8.toNat_inj.1 (by simpa using e)
  have := nul_true hj h0
  rw [h] at this; cases this

/-- THE LAY-OUT OF AN ENCODED MESSAGE, cut after n bytes. -/
theorem lay_of (m : M) (q : Int) (R : List Int) (n : Nat) (hn : n ≤ (upTo m q 17 ++ R).length)
    (n0 : nul m.s0 = false) (n3 : nul m.s3 = false) (n6 : nul m.s6 = false) (n10 : nul m.s10 = false) (n11 : nul m.s11 = false)
    (hby : ∀ z ∈ upTo m q 17 ++ R, 0 ≤ z ∧ z < 256) :
    Lay (fun k => (upTo m q 17 ++ R).getD k 0) n (pos m q) (fsM m) (foM m q) := by
  have hnul : ∀ i, i < 17 → isC i = true → nul (fsM m i) = false := by
    refine cases17 ?_ ?_ ?_ ?_ ?_ ?_ ?_ ?_ ?_ ?_ ?_ ?_ ?_ ?_ ?_ ?_ ?_
    all_goals intro hc
    all_goals first | exact n0 | exact n3 | exact n6 | exact n10 | exact n11 | exact absurd hc (by decide)
  refine ⟨rfl, ?_, ?_, fun i hi hc => nul_nz (hnul i hi hc), ?_, ?_, ?_, ?_, ?_⟩
  · intro i hi
    show pos m q i + (fld m q i).length = _
    cases hc : isC i
    · rw [fld_lenO m q i hc]; simp
    · rw [fld_lenC m q i hc]; simp
  · intro i hi hc j hj _
    show (upTo m q 17 ++ R).getD (pos m q i + j) 0 = _
    rw [body_get m q R i j hi (by rw [fld_lenC m q i hc]; omega)]
    simp only [fld, hc, if_true, List.getD_eq_getElem?_getD]
    rw [List.getElem?_append_left (by simp [bytesI]; exact hj)]
    simp only [bytesI, List.getElem?_map]
    rw [List.getElem?_eq_getElem (by simpa using hj)]
    rfl
  · intro i hi hc _
    show (upTo m q 17 ++ R).getD (pos m q i + (fsM m i).size) 0 = _
    rw [body_get m q R i _ hi (by rw [fld_lenC m q i hc]; omega)]
    simp only [fld, hc, if_true, List.getD_eq_getElem?_getD]
    have hl : (bytesI (fsM m i)).length = (fsM m i).size := by simp [bytesI]
    rw [List.getElem?_append_right (by omega), hl, Nat.sub_self]
    rfl
  · intro i hi hc _
    show (upTo m q 17 ++ R).getD (pos m q i) 0 = _
    have := body_get m q R i 0 hi (by rw [fld_lenO m q i hc]; omega)
    rw [Nat.add_zero] at this
    rw [this]
    simp [fld, hc]
  · refine cases17 ?_ ?_ ?_ ?_ ?_ ?_ ?_ ?_ ?_ ?_ ?_ ?_ ?_ ?_ ?_ ?_ ?_
    all_goals intro hc
    all_goals first | rfl | exact absurd hc (by decide)
  · refine cases17 ?_ ?_ ?_ ?_ ?_ ?_ ?_ ?_ ?_ ?_ ?_ ?_ ?_ ?_ ?_ ?_ ?_
    all_goals intro hc
    all_goals first | rfl | exact absurd hc (by decide)
  · intro i hi
    refine hby _ ?_
    have : i < (upTo m q 17 ++ R).length := by omega
    rw [List.getD_eq_getElem?_getD, List.getElem?_eq_getElem this]
    exact List.getElem_mem this

theorem pos_mono (m : M) (q : Int) : ∀ i k, pos m q i ≤ pos m q (i + k)
  | _, 0 => Nat.le_refl _
  | i, k + 1 => Nat.le_trans (pos_mono m q i k) (by show pos m q (i + k) ≤ pos m q (i + k) + _; omega)

theorem pos17 (m : M) (q : Int) : pos m q 17 = 17 + m.s0.size + m.s3.size + m.s6.size + m.s10.size + m.s11.size := by
  simp [pos, fld, isC, fsM, bytesI]
  omega

theorem pos_q (m : M) (q q' : Int) : ∀ i, pos m q i = pos m q' i
  | 0 => rfl
  | i + 1 => by
    show pos m q i + (fld m q i).length = pos m q' i + (fld m q' i).length
    rw [pos_q m q q' i]
    cases hc : isC i
    · rw [fld_lenO m q i hc, fld_lenO m q' i hc]
    · rw [fld_lenC m q i hc, fld_lenC m q' i hc]

/-- The cut at n bytes falls into one of the fields, or behind all. -/
theorem cut_of (m : M) (q : Int) (n : Nat) : ∃ f, Cut (pos m q) n f := by
  have step : ∀ k, k ≤ 17 → (∀ i, i < k → pos m q (i + 1) ≤ n) ∨ ∃ f, f < k ∧ (∀ i, i < f → pos m q (i + 1) ≤ n) ∧ n < pos m q (f + 1) := by
    intro k
    induction k with
    | zero => intro _; exact .inl (fun i hi => by omega)
    | succ k ih =>
      intro hk
      rcases ih (by omega) with h | ⟨f, h1, h2, h3⟩
      · by_cases hc : pos m q (k + 1) ≤ n
        · refine .inl (fun i hi => ?_)
          rcases Nat.lt_or_ge i k with h4 | h4
          · exact h i h4
          · have : i = k := by omega
            subst this; exact hc
        · exact .inr ⟨k, by omega, h, by omega⟩
      · exact .inr ⟨f, by omega, h2, h3⟩
  have st : ∀ f, (∀ i, i < f → pos m q (i + 1) ≤ n) → pos m q f ≤ n := by
    intro f h
    cases f with
    | zero => exact Nat.zero_le _
    | succ f => exact h f (by omega)
  rcases step 17 (Nat.le_refl _) with h | ⟨f, h1, h2, h3⟩
  · exact ⟨17, Nat.le_refl _, st 17 h, h, fun h => by omega⟩
  · exact ⟨f, by omega, st f h2, h2, fun _ => h3⟩

theorem cut_all (m : M) (q : Int) (n : Nat) (h : pos m q 17 ≤ n) : Cut (pos m q) n 17 :=
  ⟨Nat.le_refl _, h, fun i hi => Nat.le_trans (by have := pos_mono m q (i + 1) (17 - (i + 1)); rwa [show i + 1 + (17 - (i + 1)) = 17 by omega] at this) h, fun h => by omega⟩
end Go.Proofs.Qxb6602209a
