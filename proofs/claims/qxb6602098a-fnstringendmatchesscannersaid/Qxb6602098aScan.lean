import Derived.Test.Qxb6602098aRows
import Derived.Test.Qxb6602098aPlain
import Derived.WalkKit
import Derived.ProofKit
import Derived.Below
namespace Go.Proofs.Qxb6602098a
open Go.ChangeShapes Go.WideShapes Go.ChangeAt Go.RowKit
set_option linter.unusedVariables false

/-- What both searches give back. -/
def Post (l : Nat → Int) (s n : Nat) (e : Ending) : Prop := ∃ r x, e = .returned (.tuple #[.int .i64 r, .bool x]) ∧ Plain.Ans (fun k => l (s + 1 + k)) (s + 1) (n - (s + 1)) r x

set_option maxHeartbeats 1000000 in
/-- seScan: byte by byte. -/
theorem scan_any (l : Nat → Int) (b n c s : Nat) (w : World) (hn : n ≤ 1048576) (hs : s < n) (hc : ∀ i, i < n → w.cell? ⟨b, i, none⟩ = some (.int .u8 (l i))) :
    Calls Try.prog 10 #[.slice (some ⟨b, 0, none⟩) n c, .int .i64 s] w fun e w' => Post l s n e ∧ w' = w := by
  go_enter Try.func10, Try.ntmps10
  go_wp2
  go_loop [6, 7] (fun t i => ∃ (k : Nat) (x : Bool), s + 1 + k ≤ n + 1 ∧ i = .int .i64 ((s + 1 + k : Nat) : Int) ∧ t = .bool x ∧ Plain.esc (fun k => l (s + 1 + k)) false k = false ∧ Plain.clear (fun k => l (s + 1 + k)) false k ∧ Hid (x = true ↔ Plain.Back (fun k => l (s + 1 + k)) k)) (fun _ i => n + 1 - (intOf i).toNat)
  case atStart => exact ⟨0, false, by omega, by go_num, rfl, rfl, Plain.clear_zero _ _, by constructor; simp; rintro ⟨p, hp, _⟩; omega⟩
  case round =>
    obtain ⟨k, x, hk, rfl, rfl, he, hcl, hx⟩ := hrel
    by_cases hlt : s + 1 + k < n
    · have hce := hc (s + 1 + k) hlt
      go_wp2
      · have h34 : (l (s + 1 + k) == 34) = true := by assumption
        go_ret2
        exact ⟨⟨_, x, rfl, .inl ⟨k, by omega, by go_num, ⟨by omega, hcl, fun _ => ⟨by simpa using h34, he⟩⟩, hx.out⟩⟩, rfl⟩
      · have h34 : (l (s + 1 + k) == 34) = false := by assumption
        have h92 : (l (s + 1 + k) == 92) = true := by assumption
        have e1 : Plain.esc (fun k => l (s + 1 + k)) false (k + 1) = true := Plain.esc_back he (by simpa using h92)
        go_round
        case rel => exact ⟨k + 2, true, by omega, by go_num, rfl, Plain.esc_plain e1, Plain.clear_snoc (Plain.clear_snoc hcl (fun h => absurd h (by simpa using h34))) (fun _ => e1), ⟨fun _ => ⟨k, by omega, by simpa using h92⟩, fun _ => rfl⟩⟩
        case measure => simp [intOf]; omega
      · have h34 : (l (s + 1 + k) == 34) = false := by assumption
        have h92 : (l (s + 1 + k) == 92) = false := by assumption
        go_round
        case rel =>
          refine ⟨k + 1, x, by omega, by go_num, rfl, Plain.esc_stop (by simpa using h92), Plain.clear_snoc hcl (fun h => absurd h (by simpa using h34)), ?_⟩
          show x = true ↔ _
          rw [hx.out]
          constructor
          · intro h; exact h.more (by omega)
          · rintro ⟨p, hp, h92'⟩
            refine ⟨p, ?_, h92'⟩
            rcases Nat.lt_or_ge p k with h | h
            · exact h
            · have : p = k := by omega
              subst this; simp at h92; exact absurd h92' h92
        case measure => simp [intOf]; omega
    · have hend : Plain.IsEnd (fun k => l (s + 1 + k)) false (n - (s + 1)) (n - (s + 1)) := ⟨Nat.le_refl _, Plain.clear_less hcl (by omega), fun h => by omega⟩
      clear hx he hcl
      go_wp2
      go_loop [9, 10] (fun f i => ∃ k : Nat, s + 1 + k ≤ n ∧ i = .int .i64 ((s + 1 + k : Nat) : Int) ∧ f = .int .i64 (-1) ∧ Hid (∀ j, j < k → l (s + 1 + j) ≠ 92)) (fun _ i => n - (intOf i).toNat)
      case atStart => exact ⟨0, by omega, by go_num, rfl, fun j hj => by omega⟩
      case round =>
        obtain ⟨k, hk, rfl, rfl, hno⟩ := hrel
        by_cases hlt : s + 1 + k < n
        · have hce := hc (s + 1 + k) hlt
          go_wp2
          · have h92 : (l (s + 1 + k) == 92) = true := by assumption
            have h92' : l (s + 1 + k) = 92 := by simpa using h92
            have H92 : Hid (l (s + 1 + k) = 92) := h92'
            clear h92'
            go_loop [11] (fun i => ∃ m : Nat, s + 1 + k + 1 + m ≤ n ∧ i = .int .i64 ((s + 1 + k + 1 + m : Nat) : Int) ∧ Hid (∀ j, k < j → j < k + 1 + m → l (s + 1 + j) ≠ 34)) (fun i => n - (intOf i).toNat)
            case atStart => exact ⟨0, by omega, by go_num, fun j h1 h2 => by omega⟩
            case round =>
              obtain ⟨m, hm, rfl, hnq⟩ := hrel
              by_cases hlt2 : s + 1 + k + 1 + m < n
              · have hce2 := hc (s + 1 + k + 1 + m) hlt2
                go_wp2
                · have h34 : (l (s + 1 + k + 1 + m) == 34) = true := by assumption
                  have hL : Plain.Late (fun k => l (s + 1 + k)) (n - (s + 1)) := ⟨k, k + 1 + m, by omega, by omega, H92.out, by
                    show l (s + 1 + (k + 1 + m)) = 34
                    rw [show s + 1 + (k + 1 + m) = s + 1 + k + 1 + m by omega]; simpa using h34⟩
                  go_ret2
                  exact ⟨⟨_, true, rfl, .inr ⟨rfl, hend, by simp [hL]⟩⟩, rfl⟩
                · have h34 : (l (s + 1 + k + 1 + m) == 34) = false := by assumption
                  go_round
                  case rel =>
                    refine ⟨m + 1, by omega, by go_num, fun j h1 h2 => ?_⟩
                    rcases Nat.lt_or_ge j (k + 1 + m) with h | h
                    · exact hnq.out j h1 h
                    · have : j = k + 1 + m := by omega
                      subst this
                      rw [show s + 1 + (k + 1 + m) = s + 1 + k + 1 + m by omega]; simpa using h34
                  case measure => simp [intOf]; omega
              · have hL : ¬ Plain.Late (fun k => l (s + 1 + k)) (n - (s + 1)) := Plain.not_late_of_none (f := k) hno.out (fun j h1 h2 => hnq.out j h1 (by omega))
                go_wp2
                go_ret2
                exact ⟨⟨_, false, rfl, .inr ⟨rfl, hend, by simp [hL]⟩⟩, rfl⟩
          · have h92 : (l (s + 1 + k) == 92) = false := by assumption
            go_round
            case rel =>
              refine ⟨k + 1, by omega, by go_num, rfl, fun j hj => ?_⟩
              rcases Nat.lt_or_ge j k with h | h
              · exact hno.out j h
              · have : j = k := by omega
                subst this; simpa using h92
            case measure => simp [intOf]; omega
        · go_wp2
          go_ret2
          have hL : ¬ Plain.Late (fun k => l (s + 1 + k)) (n - (s + 1)) := Plain.not_late_of_first (fun j hj => hno.out j (by omega))
          exact ⟨⟨_, false, rfl, .inr ⟨rfl, hend, by simp [hL]⟩⟩, rfl⟩
end Go.Proofs.Qxb6602098a
