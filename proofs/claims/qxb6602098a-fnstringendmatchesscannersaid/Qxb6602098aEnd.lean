import Derived.Test.Qxb6602098aScan
import Derived.Test.Qxb6602098aIdx
namespace Go.Proofs.Qxb6602098a
open Go.ChangeShapes Go.WideShapes Go.ChangeAt Go.RowKit
set_option linter.unusedVariables false

theorem add_zero_block (b o i : Nat) : (⟨b, o, none⟩ : Addr).add i = ⟨b, o + i, none⟩ := by
  unfold Addr.add; split <;> simp_all

/-- What the round knows of the mark and of the place. -/
def Known (g : Nat → Int) (n k : Nat) (x : Bool) : Prop :=
  Plain.esc g false k = false ∧ Plain.clear g false k ∧ (x = true → Plain.Back g k ∧ Plain.Late g n) ∧ (x = false → k = 0)

/-- What the round knows of the quote that was found. -/
def Quote (g : Nat → Int) (n k q : Nat) : Prop := k + q < n ∧ g (k + q) = 34 ∧ ∀ j, j < q → g (k + j) ≠ 34

theorem known_step {g : Nat → Int} {n k q t : Nat} {x : Bool} (h : Known g n k x) (hq : Quote g n k q) (ht : t < q) (h92 : g (k + t) = 92) (hno : ∀ j, j < t → g (k + j) ≠ 92) : Known g n (k + t + 2) true := by
  obtain ⟨h1, h2, h3, h4⟩ := h
  obtain ⟨q1, q2, q3⟩ := hq
  have e0 : Plain.esc g false (k + t) = false := Plain.esc_quiet h1 t (fun j a b => by
    have := hno (j - k) (by omega)
    rwa [show k + (j - k) = j by omega] at this)
  have e1 : Plain.esc g false (k + t + 1) = true := Plain.esc_back e0 h92
  have c0 : Plain.clear g false (k + t) := Plain.clear_far h2 (fun j a b => by
    have := q3 (j - k) (by omega)
    rwa [show k + (j - k) = j by omega] at this)
  refine ⟨Plain.esc_plain e1, Plain.clear_snoc (Plain.clear_snoc c0 (fun h => absurd h (by omega))) (fun _ => e1), fun _ => ⟨⟨k + t, by omega, h92⟩, ⟨k + t, k + q, by omega, q1, h92, q2⟩⟩, fun h => by cases h⟩

theorem quote_keep {g : Nat → Int} {n k q t : Nat} (hq : Quote g n k q) (ht : t + 2 ≤ q) : Quote g n (k + t + 2) (q - t - 2) := by
  obtain ⟨q1, q2, q3⟩ := hq
  refine ⟨by omega, by rw [show k + t + 2 + (q - t - 2) = k + q by omega]; exact q2, fun j hj => ?_⟩
  have := q3 (t + 2 + j) (by omega)
  rwa [show k + (t + 2 + j) = k + t + 2 + j by omega] at this

theorem ans_hit {g : Nat → Int} {n k q o : Nat} {x : Bool} (h : Known g n k x) (hq : Quote g n k q) (hno : ∀ j, j < q → g (k + j) ≠ 92) : Plain.Ans g o n ((o + (k + q) : Nat) : Int) x := by
  obtain ⟨h1, h2, h3, h4⟩ := h
  obtain ⟨q1, q2, q3⟩ := hq
  refine .inl ⟨k + q, q1, rfl, ⟨by omega, ?_, fun _ => ⟨q2, ?_⟩⟩, ?_⟩
  · exact Plain.clear_far h2 (fun j a b => by
      have := q3 (j - k) (by omega)
      rwa [show k + (j - k) = j by omega] at this)
  · exact Plain.esc_quiet h1 q (fun j a b => by
      have := hno (j - k) (by omega)
      rwa [show k + (j - k) = j by omega] at this)
  · constructor
    · intro hx; exact (h3 hx).1.more (by omega)
    · rintro ⟨p, hp, h92⟩
      cases hx : x with
      | true => rfl
      | false =>
        have := h4 hx
        subst this
        exact absurd h92 (by have := hno p (by omega); rwa [Nat.zero_add] at this)

theorem ans_none {g : Nat → Int} {n k o : Nat} {x : Bool} (h : Known g n k x) (hk : k ≤ n) (hno : ∀ j, k ≤ j → j < n → g j ≠ 34) : Plain.Ans g o n (-1) x := by
  obtain ⟨h1, h2, h3, h4⟩ := h
  refine .inr ⟨rfl, ⟨Nat.le_refl _, Plain.clear_far h2 hno, fun h => by omega⟩, ?_⟩
  constructor
  · intro hx; exact (h3 hx).2
  · rintro ⟨f, q, a, b, _, h34⟩
    cases hx : x with
    | true => rfl
    | false =>
      have := h4 hx
      subst this
      exact absurd h34 (hno q (by omega) b)

set_option maxHeartbeats 1000000 in
/-- stringEnd: quote by quote. -/
theorem se_any (l : Nat → Int) (b n s : Nat) (w : World) (hn : n ≤ 1048576) (hs : s < n) (hc : ∀ i, i < n → w.cell? ⟨b, i, none⟩ = some (.int .u8 (l i))) (hby : ∀ i, i < n → 0 ≤ l i ∧ l i < 256) :
    Calls Try.prog 16 #[.slice (some ⟨b, 0, none⟩) n n, .int .i64 s] w fun e w' => Post l s n e ∧ w' = w := by
  go_enter Try.func16, Try.ntmps16
  go_wp2
  go_loop [5, 6, 7] (fun t u i => ∃ (k : Nat) (x : Bool) (qv : Int), s + 1 + k ≤ n ∧ i = .int .i64 ((s + 1 + k : Nat) : Int) ∧ t = .bool x ∧ u = .int .i64 qv ∧ Known (fun k => l (s + 1 + k)) (n - (s + 1)) k x ∧ (qv < s + 1 + k ∨ ∃ q : Nat, qv = s + 1 + k + q ∧ Quote (fun k => l (s + 1 + k)) (n - (s + 1)) k q)) (fun _ _ i => n - (intOf i).toNat)
  case atStart => exact ⟨0, false, -1, by omega, by go_num, rfl, rfl, ⟨rfl, Plain.clear_zero _ _, by simp, fun _ => rfl⟩, .inl (by omega)⟩
  case round =>
    obtain ⟨k, x, qv, hk, rfl, rfl, rfl, hkn, hqv⟩ := hrel
    by_cases hlt : s + 1 + k < n
    · rcases hqv with hqv | ⟨q, rfl, hq⟩
      · go_wp2_with fail
        refine (idx_any ⟨b, s + 1 + k, none⟩ (n - (s + 1 + k)) (n - (s + 1 + k)) (fun i => l (s + 1 + k + i)) 34 _ (fun i hi => by rw [add_zero_block]; exact hc _ (by omega)) (fun i hi => hby _ (by omega)) ⟨by omega, by omega⟩).mono ?_
        rintro e1 w1 ⟨⟨r, rfl, hr⟩, rfl⟩
        rcases hr with ⟨q, rfl, hql, hq34, hqn⟩ | ⟨rfl, hr⟩
        · have hq : Quote (fun k => l (s + 1 + k)) (n - (s + 1)) k q := ⟨by omega, by show l (s + 1 + (k + q)) = 34; rw [← Nat.add_assoc]; exact hq34, fun j hj => by show l (s + 1 + (k + j)) ≠ 34; rw [← Nat.add_assoc]; exact hqn j hj⟩
          clear hq34 hqn
          have hqb := hq.1
          go_wp2_with fail
          refine (idx_any ⟨b, s + 1 + k, none⟩ q (n - (s + 1 + k)) (fun i => l (s + 1 + k + i)) 92 _ (fun i hi => by rw [add_zero_block]; exact hc _ (by omega)) (fun i hi => hby _ (by omega)) ⟨by omega, by omega⟩).mono ?_
          rintro e1 w1 ⟨⟨r, rfl, hr⟩, rfl⟩
          rcases hr with ⟨t, rfl, htl, ht92, htn⟩ | ⟨rfl, hr⟩
          · have hkn2 := known_step (t := t) hkn hq htl (by show l (s + 1 + (k + t)) = 92; rw [← Nat.add_assoc]; exact ht92) (fun j hj => by show l (s + 1 + (k + j)) ≠ 92; rw [← Nat.add_assoc]; exact htn j hj)
            clear ht92 htn
            go_wp2
            go_round
            case rel =>
              refine ⟨k + t + 2, true, _, by omega, by go_num, rfl, rfl, hkn2, ?_⟩
              by_cases h2 : t + 2 ≤ q
              · exact .inr ⟨q - t - 2, by omega, quote_keep hq h2⟩
              · exact .inl (by omega)
            case measure => simp [intOf]; omega
          · have hfin := ans_hit (o := s + 1) hkn hq (fun j hj => by show l (s + 1 + (k + j)) ≠ 92; rw [← Nat.add_assoc]; exact hr j hj)
            clear hr
            go_wp2
            go_ret2
            rw [show ((s + 1 + (k + q) : Nat) : Int) = (s : Int) + 1 + k + q by omega] at hfin
            exact ⟨⟨_, _, rfl, hfin⟩, rfl⟩
        · have hfin := ans_none (o := s + 1) hkn (by omega) (fun j a b => by
            have : l (s + 1 + k + (j - k)) ≠ 34 := hr (j - k) (by omega)
            show l (s + 1 + j) ≠ 34
            rwa [show s + 1 + k + (j - k) = s + 1 + j by omega] at this)
          clear hr
          go_wp2
          go_ret2
          exact ⟨⟨_, _, rfl, hfin⟩, rfl⟩
      · have hqb := hq.1
        go_wp2_with fail
        refine (idx_any ⟨b, s + 1 + k, none⟩ q (n - (s + 1 + k)) (fun i => l (s + 1 + k + i)) 92 _ (fun i hi => by rw [add_zero_block]; exact hc _ (by omega)) (fun i hi => hby _ (by omega)) ⟨by omega, by omega⟩).mono ?_
        rintro e1 w1 ⟨⟨r, rfl, hr⟩, rfl⟩
        rcases hr with ⟨t, rfl, htl, ht92, htn⟩ | ⟨rfl, hr⟩
        · have hkn2 := known_step (t := t) hkn hq htl (by show l (s + 1 + (k + t)) = 92; rw [← Nat.add_assoc]; exact ht92) (fun j hj => by show l (s + 1 + (k + j)) ≠ 92; rw [← Nat.add_assoc]; exact htn j hj)
          clear ht92 htn
          go_wp2
          go_round
          case rel =>
            refine ⟨k + t + 2, true, _, by omega, by go_num, rfl, rfl, hkn2, ?_⟩
            by_cases h2 : t + 2 ≤ q
            · exact .inr ⟨q - t - 2, by omega, quote_keep hq h2⟩
            · exact .inl (by omega)
          case measure => simp [intOf]; omega
        · have hfin := ans_hit (o := s + 1) hkn hq (fun j hj => by show l (s + 1 + (k + j)) ≠ 92; rw [← Nat.add_assoc]; exact hr j hj)
          clear hr
          go_wp2
          go_ret2
          rw [show ((s + 1 + (k + q) : Nat) : Int) = (s : Int) + 1 + k + q by omega] at hfin
          exact ⟨⟨_, _, rfl, hfin⟩, rfl⟩
    · clear hqv
      have hfin := ans_none (o := s + 1) hkn (by omega) (fun j a b => by omega)
      go_wp2
      go_ret2
      exact ⟨⟨_, _, rfl, hfin⟩, rfl⟩
end Go.Proofs.Qxb6602098a
