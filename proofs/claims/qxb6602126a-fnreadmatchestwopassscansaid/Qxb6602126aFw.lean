import Derived.Test.Qxb6602126aRows
import Derived.Test.Qxb6602126aPlain
import Derived.WalkKit
import Derived.ProofKit
import Derived.Below
namespace Go.Proofs.Qxb6602126a
open Go.ChangeShapes Go.WideShapes Go.ChangeAt Go.RowKit
set_option linter.unusedVariables false

/-- What b1StringForward gives back. -/
def FwPost (g : Nat → Int) (x : Bool) (n : Nat) (e : Ending) : Prop :=
  (∃ E, E < n ∧ Plain.IsEnd g x n E ∧ e = .returned (.tuple #[.int .i64 ((E + 1 : Nat) : Int), .bool true, .bool false])) ∨
  (Plain.IsEnd g x n n ∧ e = .returned (.tuple #[.int .i64 (n : Int), .bool false, .bool (Plain.esc g x n)]))

theorem fw_any (g : Nat → Int) (b o n c : Nat) (x : Bool) (w : World) (hn : n ≤ 1048576) (hc : ∀ i, i < n → w.cell? ⟨b, o + i, none⟩ = some (.int .u8 (g i))) :
    Calls Try.prog 17 #[.bool x, .slice (some ⟨b, o, none⟩) n c] w fun e w' => FwPost g x n e ∧ w' = w := by
  go_enter Try.func17, Try.ntmps17
  go_wp2
  go_loop [7, 8] (fun t i => ∃ k : Nat, k ≤ n ∧ i = .int .i64 (k : Int) ∧ t = .bool (Plain.esc g x k) ∧ Plain.clear g x k) (fun _ i => n - (intOf i).toNat)
  case atStart => exact ⟨0, by omega, by go_num, rfl, Plain.clear_zero _ _⟩
  case round =>
    obtain ⟨k, hk, rfl, rfl, hcl⟩ := hrel
    by_cases hlt : k < n
    · have hce := hc k hlt
      cases hesc : Plain.esc g x k
      · have HE : Hid (Plain.esc g x k = false) := hesc
        clear hesc
        by_cases h92 : g k = 92
        · have e1 := Plain.esc_back HE.out h92
          have HE1 : Hid (Plain.esc g x (k + 1) = true) := e1
          clear e1
          go_wp2
          go_round
          case rel => exact ⟨k + 1, by omega, by go_num, by rw [HE1.out], Plain.clear_snoc hcl (fun h => by omega)⟩
          case measure => simp [intOf]; omega
        · have e1 := Plain.esc_stop (b := x) h92
          have HE1 : Hid (Plain.esc g x (k + 1) = false) := e1
          clear e1
          by_cases h34 : g k = 34
          · go_wp2
            go_ret3
            exact ⟨.inl ⟨k, hlt, ⟨by omega, hcl, fun _ => ⟨h34, HE.out⟩⟩, rfl⟩, rfl⟩
          · go_wp2
            go_round
            case rel => exact ⟨k + 1, by omega, by go_num, by rw [HE1.out], Plain.clear_snoc hcl (fun h => absurd h h34)⟩
            case measure => simp [intOf]; omega
      · have HE : Hid (Plain.esc g x k = true) := hesc
        have HE1 : Hid (Plain.esc g x (k + 1) = false) := Plain.esc_plain hesc
        clear hesc
        go_wp2
        go_round
        case rel => exact ⟨k + 1, by omega, by go_num, by rw [HE1.out], Plain.clear_snoc hcl (fun _ => HE.out)⟩
        case measure => simp [intOf]; omega
    · obtain rfl : k = n := by omega
      go_wp2
      go_ret3
      exact ⟨.inr ⟨⟨Nat.le_refl _, hcl, fun h => by omega⟩, rfl⟩, rfl⟩

theorem fw_nil (g : Nat → Int) (x : Bool) (w : World) :
    Calls Try.prog 17 #[.bool x, .slice none 0 0] w fun e w' => FwPost g x 0 e ∧ w' = w := by
  go_enter Try.func17, Try.ntmps17
  go_wp2
  refine wp_loop_rounds 1 ?_
  rw [rounds_succ]
  go_wp2
  go_ret3
  exact ⟨.inr ⟨⟨Nat.le_refl _, Plain.clear_zero _ _, fun h => by omega⟩, rfl⟩, rfl⟩
end Go.Proofs.Qxb6602126a
