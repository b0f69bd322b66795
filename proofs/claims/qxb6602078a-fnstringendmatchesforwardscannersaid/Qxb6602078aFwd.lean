import Derived.Test.Qxb6602078aRows
import Derived.Test.Qxb6602078aPlain
import Derived.WalkKit
import Derived.ProofKit
import Derived.Below
namespace Go.Proofs.Qxb6602078a
open Go.ChangeShapes Go.WideShapes Go.ChangeAt Go.RowKit
set_option linter.unusedVariables false

/-- The forward scanner finds the end. -/
theorem fwd_any (l : Nat → Int) (b n c s : Nat) (w : World) (hn : n ≤ 1048576) (hs : s < n) (hc : ∀ i, i < n → w.cell? ⟨b, i, none⟩ = some (.int .u8 (l i))) :
    Calls Try.prog 7 #[.slice (some ⟨b, 0, none⟩) n c, .int .i64 s] w fun e w' => (∃ E, e = .returned (.int .i64 ((s + 1 + E : Nat) : Int)) ∧ Plain.IsEnd (fun k => l (s + 1 + k)) false (n - (s + 1)) E) ∧ w' = w := by
  go_enter Try.func7, Try.ntmps7
  go_wp2
  go_loop [5] (fun i => ∃ k : Nat, s + 1 + k ≤ n + 1 ∧ i = .int .i64 ((s + 1 + k : Nat) : Int) ∧ Plain.esc (fun k => l (s + 1 + k)) false k = false ∧ Plain.clear (fun k => l (s + 1 + k)) false k) (fun i => n + 1 - (intOf i).toNat)
  case atStart => exact ⟨0, by omega, by go_num, rfl, Plain.clear_zero _ _⟩
  case round =>
    obtain ⟨k, hk, rfl, he, hcl⟩ := hrel
    by_cases hlt : s + 1 + k < n
    · have hce := hc (s + 1 + k) hlt
      go_wp2
      · go_ret
        have h34 : (l (s + 1 + k) == 34) = true := by assumption
        exact ⟨⟨k, by go_num, by omega, hcl, fun _ => ⟨by simpa using h34, he⟩⟩, rfl⟩
      · have h34 : (l (s + 1 + k) == 34) = false := by assumption
        have h92 : (l (s + 1 + k) == 92) = true := by assumption
        have e1 : Plain.esc (fun k => l (s + 1 + k)) false (k + 1) = true := Plain.esc_back he (by simpa using h92)
        go_round
        case rel => exact ⟨k + 2, by omega, by go_num, Plain.esc_plain e1, Plain.clear_snoc (Plain.clear_snoc hcl (fun h => absurd h (by simpa using h34))) (fun _ => e1)⟩
        case measure => simp [intOf]; omega
      · have h34 : (l (s + 1 + k) == 34) = false := by assumption
        have h92 : (l (s + 1 + k) == 92) = false := by assumption
        go_round
        case rel => exact ⟨k + 1, by omega, by go_num, Plain.esc_stop (by simpa using h92), Plain.clear_snoc hcl (fun h => absurd h (by simpa using h34))⟩
        case measure => simp [intOf]; omega
    · go_wp2
      go_ret
      exact ⟨⟨n - (s + 1), by go_num, Nat.le_refl _, Plain.clear_less hcl (by omega), fun h => by omega⟩, rfl⟩
end Go.Proofs.Qxb6602078a
