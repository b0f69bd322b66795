import Derived.Test.Qxb6602126aRows
import Derived.Test.Qxb6602126aPlain
import Derived.WalkKit
import Derived.ProofKit
import Derived.Below
namespace Go.Proofs.Qxb6602126a
open Go.ChangeShapes Go.WideShapes Go.ChangeAt Go.RowKit
set_option linter.unusedVariables false

theorem ret_bool {a b : Bool} (h : a = b) : Ending.returned (.bool a) = .returned (.bool b) := by rw [h]

theorem par1 (m : Nat) (x : Bool) : (!((m : Int) % 2 == 1) == x) = (decide (m % 2 = 1) != x) := by
  have : ((m : Int) % 2 == 1) = decide (m % 2 = 1) := by
    rw [Bool.eq_iff_iff]; simp; omega
  rw [this]
  cases x <;> cases decide (m % 2 = 1) <;> rfl
theorem par2 (E m : Nat) (h : m ≤ E) : (((E : Int) - ((E - m : Nat) : Int)) % 2 == 1) = decide (m % 2 = 1) := by
  rw [Bool.eq_iff_iff]; simp; omega

/-- oddBackslashes tells whether the byte at place E is escaped. -/
theorem odd_any (g : Nat → Int) (b o n c E : Nat) (x : Bool) (w : World) (hn : n ≤ 1048576) (hE : E ≤ n) (hc : ∀ i, i < n → w.cell? ⟨b, o + i, none⟩ = some (.int .u8 (g i))) :
    Calls Try.prog 25 #[.slice (some ⟨b, o, none⟩) n c, .int .i64 E, .bool x] w fun e w' => e = .returned (.bool (Plain.esc g x E)) ∧ w' = w := by
  go_enter Try.func25, Try.ntmps25
  go_wp2
  go_loop [7] (fun i => ∃ m : Nat, m ≤ E ∧ i = .int .i64 ((E - m : Nat) : Int) ∧ Hid (∀ j, E - m ≤ j → j < E → g j = 92)) (fun i => (intOf i).toNat)
  case atStart => exact ⟨0, by omega, by go_num, fun j h1 h2 => by omega⟩
  case round =>
    obtain ⟨m, hm, rfl, hrun⟩ := hrel
    by_cases hz : E - m = 0
    · have hfin := Plain.esc_at g x E m hm hrun.out (fun h => absurd hz h)
      rw [if_pos hz] at hfin
      have HF : Hid (Plain.esc g x E = (decide (m % 2 = 1) != x)) := hfin
      clear hfin
      have hmE : m = E := by omega
      subst hmE
      go_wp2
      go_ret
      refine ⟨ret_bool ?_, rfl⟩
      rw [HF.out]
      exact par1 m x
    · have hce := hc (E - m - 1) (by omega)
      by_cases h92 : g (E - m - 1) = 92
      · go_wp2
        go_round
        case rel =>
          refine ⟨m + 1, by omega, by go_num, fun j h1 h2 => ?_⟩
          by_cases hj : j = E - m - 1
          · subst hj; exact h92
          · exact hrun.out j (by omega) h2
        case measure => simp [intOf]; omega
      · have hfin := Plain.esc_at g x E m hm hrun.out (fun _ => h92)
        rw [if_neg hz] at hfin
        have HF : Hid (Plain.esc g x E = decide (m % 2 = 1)) := hfin
        clear hfin
        go_wp2
        go_ret
        refine ⟨ret_bool ?_, rfl⟩
        rw [HF.out]
        exact par2 E m hm

/-- The same at nil. -/
theorem odd_nil (x : Bool) (w : World) :
    Calls Try.prog 25 #[.slice none 0 0, .int .i64 0, .bool x] w fun e w' => e = .returned (.bool x) ∧ w' = w := by
  go_enter Try.func25, Try.ntmps25
  go_wp2
  refine wp_loop_rounds 1 ?_
  rw [rounds_succ]
  go_wp2
  go_ret
  exact ⟨ret_bool (by cases x <;> rfl), rfl⟩
end Go.Proofs.Qxb6602126a
