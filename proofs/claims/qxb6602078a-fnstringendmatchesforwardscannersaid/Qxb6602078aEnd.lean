import Derived.Test.Qxb6602078aFwd
import Derived.Test.Qxb6602078aIdx
namespace Go.Proofs.Qxb6602078a
open Go.ChangeShapes Go.WideShapes Go.ChangeAt Go.RowKit
set_option linter.unusedVariables false

theorem add_zero_block (b o i : Nat) : (⟨b, o, none⟩ : Addr).add i = ⟨b, o + i, none⟩ := by
  unfold Addr.add; split <;> simp_all

theorem far_of {l : Nat → Int} {s e q : Nat} (hse : s ≤ e) (hcl : Plain.clear (fun k => l (s + 1 + k)) false (e - s)) (Hqn : Hid (∀ j, j < q → l (e + 1 + j) ≠ 34)) :
    Plain.clear (fun k => l (s + 1 + k)) false (e + 1 + q - (s + 1)) :=
  Plain.clear_far hcl (fun p h1 h2 => by
    have := Hqn.out (p - (e - s)) (by omega)
    have e3 : e + 1 + (p - (e - s)) = s + 1 + p := by omega
    simpa [e3] using this)

/-- stringEnd finds the end. -/
theorem se_any (l : Nat → Int) (b n s : Nat) (w : World) (hn : n ≤ 1048576) (hs : s < n) (hc : ∀ i, i < n → w.cell? ⟨b, i, none⟩ = some (.int .u8 (l i))) (hby : ∀ i, i < n → 0 ≤ l i ∧ l i < 256) (h34 : l s = 34) :
    Calls Try.prog 9 #[.slice (some ⟨b, 0, none⟩) n n, .int .i64 s] w fun e w' => (∃ E, e = .returned (.int .i64 ((s + 1 + E : Nat) : Int)) ∧ Plain.IsEnd (fun k => l (s + 1 + k)) false (n - (s + 1)) E) ∧ w' = w := by
  have H34 : Hid (l s = 34) := h34
  clear h34
  go_enter Try.func9, Try.ntmps9
  go_wp2
  go_loop [5] (fun i => ∃ e : Nat, s ≤ e ∧ e < n ∧ i = .int .i64 (e : Int) ∧ Hid (l e = 34) ∧ Plain.clear (fun k => l (s + 1 + k)) false (e - s)) (fun i => n - (intOf i).toNat)
  case atStart => exact ⟨s, by omega, by omega, by go_num, H34, by simpa using Plain.clear_zero _ _⟩
  case round =>
    obtain ⟨e, hse, hen, rfl, he34, hcl⟩ := hrel
    by_cases hlast : e + 1 = n
    · subst hlast
      go_wp2_with fail
      refine (idx_any ⟨b, 0, none⟩ 0 0 (fun i => l (e + 1 + i)) 34 _ (fun i hi => by omega) (fun i hi => by omega) ⟨by omega, by omega⟩).mono ?_
      rintro e1 w1 ⟨⟨r, rfl, hr⟩, rfl⟩
      rcases hr with ⟨q, rfl, hq, _⟩ | ⟨rfl, hr⟩
      · omega
      · go_wp2
        go_ret
        exact ⟨⟨e + 1 - (s + 1), by go_num, Nat.le_refl _, Plain.clear_less hcl (by omega), fun h => by omega⟩, rfl⟩
    · go_wp2_with fail
      refine (idx_any ⟨b, e + 1, none⟩ (n - (e + 1)) (n - (e + 1)) (fun i => l (e + 1 + i)) 34 _ (fun i hi => by rw [add_zero_block]; exact hc _ (by omega)) (fun i hi => hby _ (by omega)) ⟨by omega, by omega⟩).mono ?_
      rintro e1 w1 ⟨⟨r, rfl, hr⟩, rfl⟩
      rcases hr with ⟨q, rfl, hq, hq34, hqn⟩ | ⟨rfl, hr⟩
      · have Hq34 : Hid (l (e + 1 + q) = 34) := hq34
        have Hqn : Hid (∀ j, j < q → l (e + 1 + j) ≠ 34) := hqn
        clear hq34 hqn
        go_wp2
        go_loop [7] (fun k => ∃ m : Nat, m ≤ q ∧ k = .int .i64 ((e + q - m : Nat) : Int) ∧ Hid (∀ j, e + 1 + q - m ≤ j → j < e + 1 + q → l j = 92)) (fun k => (intOf k).toNat)
        case atStart => exact ⟨0, by omega, by go_num, fun j h1 h2 => by omega⟩
        case round =>
          obtain ⟨m, hm, rfl, hrun⟩ := hrel
          have hce := hc (e + q - m) (by omega)
          go_wp2
          · have h92 : (l (e + q - m) == 92) = true := by assumption
            have hmq : m ≠ q := by
              rintro rfl
              have : l e = 34 := he34
              have e2 : e + m - m = e := by omega
              rw [e2] at h92; simp [this] at h92
            go_round
            case rel =>
              refine ⟨m + 1, by omega, by go_num, fun j h1 h2 => ?_⟩
              by_cases hj : j = e + q - m
              · subst hj; simpa using h92
              · exact hrun j (by omega) h2
            case measure => simp [intOf]; omega
          · have hn92 : (l (e + q - m) == 92) = false := by assumption
            have hpar : (((e : Int) + (1 + (q : Int)) - 1 - ((e + q - m : Nat) : Int)) % 2 == 0) = true := by assumption
            have hm2 : m % 2 = 0 := by simp at hpar; omega
            have hesc := Plain.esc_at l s (e + 1 + q) m (by omega) hrun (by rw [show e + 1 + q - m - 1 = e + q - m by omega]; simpa using hn92)
            have hfar := far_of hse hcl Hqn
            go_ret
            refine ⟨⟨e + 1 + q - (s + 1), by go_num, by omega, hfar, fun _ => ⟨?_, ?_⟩⟩, rfl⟩
            · show l (s + 1 + (e + 1 + q - (s + 1))) = 34
              rw [show s + 1 + (e + 1 + q - (s + 1)) = e + 1 + q by omega]; exact Hq34
            · rw [hesc]; simp [hm2]
          · have hn92 : (l (e + q - m) == 92) = false := by assumption
            have hpar : (((e : Int) + (1 + (q : Int)) - 1 - ((e + q - m : Nat) : Int)) % 2 == 0) = false := by assumption
            have hm2 : m % 2 = 1 := by simp at hpar; omega
            have hesc := Plain.esc_at l s (e + 1 + q) m (by omega) hrun (by rw [show e + 1 + q - m - 1 = e + q - m by omega]; simpa using hn92)
            have hfar := far_of hse hcl Hqn
            go_round
            case rel =>
              refine ⟨e + 1 + q, by omega, by omega, by go_num, Hq34, ?_⟩
              rw [show e + 1 + q - s = e + 1 + q - (s + 1) + 1 by omega]
              exact Plain.clear_snoc hfar (fun _ => by rw [hesc]; simp [hm2])
            case measure => simp [intOf]; omega
      · go_wp2
        go_ret
        have hfar : Plain.clear (fun k => l (s + 1 + k)) false (n - (s + 1)) := Plain.clear_far hcl (fun p h1 h2 => by
          have := hr (p - (e - s)) (by omega)
          have e3 : e + 1 + (p - (e - s)) = s + 1 + p := by omega
          simpa [e3] using this)
        exact ⟨⟨n - (s + 1), by go_num, Nat.le_refl _, hfar, fun h => by omega⟩, rfl⟩
end Go.Proofs.Qxb6602078a
