import Derived.Test.Qxb6602126aLex
import Derived.Test.Qxb6602126aRd
namespace Go.Proofs.Qxb6602126a
open Go.ChangeShapes Go.WideShapes Go.ChangeAt Go.RowKit
set_option linter.unusedVariables false

/-- b1EndsLiteral. -/
theorem ends2_any (c : Int) (w : World) : Calls Try.prog 29 #[.int .u8 c] w fun e w' => e = .returned (.bool (Plain.ends c)) ∧ w' = w := by
  have hE : Hid (Plain.ends c = (c == 32 || c == 9 || c == 13 || c == 10 || c == 44 || c == 125 || c == 93)) := rfl
  go_enter Try.func29, Try.ntmps29
  go_wp2
  all_goals go_ret
  all_goals refine ⟨?_, rfl⟩
  all_goals rw [hE.out]
  all_goals simp [*]

/-- What b1StructEnd gives back. -/
def SePost (g : Nat → Int) (S0 : Plain.St) (n : Nat) (e : Ending) : Prop :=
  (∃ (i : Nat) (D : Int), i < n ∧ Plain.Fin g S0 n i ∧ e = .returned (.tuple #[.int .i64 ((Plain.cnt (Plain.run g S0 i) (g i) i : Nat) : Int), .bool true, .int .i64 D, .bool (Plain.next (Plain.run g S0 i) (g i)).lit])) ∨
  (Plain.Fin g S0 n n ∧ e = .returned (.tuple #[.int .i64 (n : Int), .bool false, .int .i64 (Plain.run g S0 n).d, .bool (Plain.run g S0 n).lit]))

def SeRel (g : Nat → Int) (S0 : Plain.St) (n : Nat) (td tl ti : Value) : Prop :=
  ∃ (k : Nat) (d : Int) (s l x : Bool), k ≤ n ∧ ti = .int .i64 (k : Int) ∧ td = .int .i64 d ∧ tl = .bool l ∧ Plain.run g S0 k = ⟨d, s, l, x⟩ ∧ Plain.on g S0 k

theorem se_done {g : Nat → Int} {S0 S : Plain.St} {n i : Nat} {D : Int} {N : Int} {L : Bool} (hi : i < n) (hon : Plain.on g S0 i) (hS : Plain.run g S0 i = S) (hst : Plain.stop S (g i) ≠ 0)
    (hN : N = ((Plain.cnt S (g i) i : Nat) : Int)) (hL : L = (Plain.next S (g i)).lit) : SePost g S0 n (.returned (.tuple #[.int .i64 N, .bool true, .int .i64 D, .bool L])) := by
  subst hS hN hL
  exact .inl ⟨i, D, hi, ⟨by omega, hon, fun _ => hst⟩, rfl⟩

set_option maxHeartbeats 4000000 in
set_option maxRecDepth 100000 in
theorem se_any {w : World} {ao : Option Addr} {n c bk : Nat} {g : Nat → Int} (h : Sl w ao n c g) (hn : n ≤ 1048576) (S0 : Plain.St) (hkc : ∀ i, i < n → w.cell? ⟨bk, i, none⟩ = some (.int .u8 (Plain.kinds g S0 i))) :
    Calls Try.prog 22 #[.int .i64 S0.d, .bool S0.lit, .slice ao n c, .slice (some ⟨bk, 0, none⟩) n n] w fun e w' => SePost g S0 n e ∧ w' = w := by
  have Ha : Hid (0 < n → ∃ b o, ao = some ⟨b, o, none⟩ ∧ ∀ i, i < n → w.cell? ⟨b, o + i, none⟩ = some (.int .u8 (g i))) := h.open'
  clear h
  go_enter Try.func22, Try.ntmps22
  go_wp2
  go_loop [12, 13, 14] (fun td tl ti => SeRel g S0 n td tl ti) (fun _ _ ti => n - (intOf ti).toNat)
  case atStart => exact ⟨0, S0.d, S0.str, S0.lit, S0.esc, by omega, by go_num, rfl, rfl, rfl, Plain.on_zero _ _⟩
  case round =>
    obtain ⟨k, d, s, l, x, hk, rfl, rfl, rfl, hS, hon⟩ := hrel
    have HS : Hid (Plain.run g S0 k = ⟨d, s, l, x⟩) := hS
    by_cases hlt : k < n
    · obtain ⟨b, o, rfl, hc⟩ := Ha.out (by omega)
      have hce := hc k hlt
      have hke := hkc k hlt
      have ek : Plain.kinds g S0 k = Plain.kind s x (g k) := by simp only [Plain.kinds, hS]
      rw [ek] at hke
      clear hS ek hc hkc Ha
      cases s
      · by_cases h34 : g k = 34
        · have ek : Plain.kind false x (g k) = 1 := by simp [Plain.kind, h34]
          rw [ek] at hke
          clear ek
          have Hst : Hid (Plain.stop ⟨d, false, l, x⟩ (g k) = 0) := by show _ = _; simp [Plain.stop, h34]
          have Hnx : Hid (Plain.next ⟨d, false, l, x⟩ (g k) = ⟨d, true, l, x⟩) := by show _ = _; simp [Plain.next, h34]
          go_wp2
          go_round
          case rel => exact ⟨k + 1, d, true, l, x, by omega, by go_num, rfl, rfl, run_next HS.out Hnx.out, on_next hon HS.out Hst.out⟩
          case measure => simp [intOf]; omega
        · have ek : Plain.kind false x (g k) = 0 := by simp [Plain.kind, h34]
          rw [ek] at hke
          clear ek
          have hce2 := ends2_any (g k)
          cases l
          · by_cases ho : g k = 123 ∨ g k = 91
            · have Hst : Hid (Plain.stop ⟨d, false, false, x⟩ (g k) = 0) := by show _ = _; simp [Plain.stop, h34, ho]
              have Hnx : Hid (Plain.next ⟨d, false, false, x⟩ (g k) = ⟨wrap64 (d + 1), false, false, x⟩) := by show _ = _; simp [Plain.next, h34, ho]
              clear hce2
              rcases ho with ho | ho
              all_goals
                go_wp2
                go_round
                case rel => exact ⟨k + 1, _, false, false, x, by omega, by go_num, rfl, rfl, run_next HS.out Hnx.out, on_next hon HS.out Hst.out⟩
                case measure => simp [intOf]; omega
            · have ho1 : (g k == 123) = false := by simp; omega
              have ho2 : (g k == 91) = false := by simp; omega
              by_cases hcl : g k = 125 ∨ g k = 93
              · have Hnx : Hid (Plain.next ⟨d, false, false, x⟩ (g k) = ⟨wrap64 (d - 1), false, false, x⟩) := by show _ = _; simp [Plain.next, h34, ho, hcl]
                have Hst : Hid (Plain.stop ⟨d, false, false, x⟩ (g k) = if wrap64 (d - 1) ≤ 0 then 1 else 0) := by show _ = _; simp [Plain.stop, h34, ho, hcl]
                clear hce2
                by_cases hz : wrap64 (d - 1) ≤ 0
                · rcases hcl with hcl | hcl
                  all_goals
                    go_wp2
                    exact bodyPost_ret (v := .tuple #[.int .i64 ((k : Int) + 1), .bool true, .int .i64 (wrap64 (d - 1)), .bool false]) (by simp [results, Try.results22, go_sem]) rfl ⟨se_done hlt hon HS.out (by rw [Hst.out, if_pos hz]; simp) (by rw [Plain.cnt, Hst.out, if_pos hz]; go_num) (by rw [Hnx.out]), rfl⟩
                · rcases hcl with hcl | hcl
                  all_goals
                    go_wp2
                    go_round
                    case rel => exact ⟨k + 1, _, false, false, x, by omega, by go_num, rfl, rfl, run_next HS.out Hnx.out, on_next hon HS.out (by rw [Hst.out, if_neg hz])⟩
                    case measure => simp [intOf]; omega
              · have hc1 : (g k == 125) = false := by simp; omega
                have hc2 : (g k == 93) = false := by simp; omega
                by_cases hd : d = 0
                · subst hd
                  obtain ⟨f1, f2, _, _⟩ := lit_facts S0 (x := x) (l := false) (d := 0) h34 (.inr ⟨rfl, rfl, rfl, h34, by omega, by omega, by omega, by omega⟩)
                  have F2 : Hid (Plain.next ⟨0, false, false, x⟩ (g k) = ⟨0, false, true, x⟩) := f2
                  clear f2
                  cases he : Plain.ends (g k)
                  · rw [he] at hce2 f1
                    have F1 : Hid (Plain.stop ⟨0, false, false, x⟩ (g k) = 0) := f1
                    clear f1 he
                    go_wp2_with (go_at_call 29; refine (hce2 _).mono ?_; rintro e w' ⟨rfl, rfl⟩)
                    go_round
                    case rel => exact ⟨k + 1, _, false, true, x, by omega, by go_num, rfl, rfl, run_next HS.out F2.out, on_next hon HS.out F1.out⟩
                    case measure => simp [intOf]; omega
                  · rw [he] at hce2 f1
                    have F1 : Hid (Plain.stop ⟨0, false, false, x⟩ (g k) = 2) := f1
                    clear f1 he
                    go_wp2_with (go_at_call 29; refine (hce2 _).mono ?_; rintro e w' ⟨rfl, rfl⟩)
                    exact bodyPost_ret (v := .tuple #[.int .i64 (k : Int), .bool true, .int .i64 0, .bool true]) (by simp [results, Try.results22, go_sem]) rfl ⟨se_done hlt hon HS.out (by rw [F1.out]; simp) (by rw [Plain.cnt, F1.out]; rfl) (by rw [F2.out]), rfl⟩
                · have hdb : (d == 0) = false := by simpa using hd
                  have Hnx : Hid (Plain.next ⟨d, false, false, x⟩ (g k) = ⟨d, false, false, x⟩) := by show _ = _; simp [Plain.next, h34, ho, hcl, hd]
                  have Hst : Hid (Plain.stop ⟨d, false, false, x⟩ (g k) = 0) := by show _ = _; simp [Plain.stop, h34, ho, hcl, hd]
                  go_wp2_with (go_at_call 29; refine (hce2 _).mono ?_; rintro e w' ⟨rfl, rfl⟩)
                  go_round
                  case rel => exact ⟨k + 1, d, false, false, x, by omega, by go_num, rfl, rfl, run_next HS.out Hnx.out, on_next hon HS.out Hst.out⟩
                  case measure => simp [intOf]; omega
          · obtain ⟨f1, f2, _, _⟩ := lit_facts S0 (x := x) (l := true) (d := d) h34 (.inl rfl)
            have F2 : Hid (Plain.next ⟨d, false, true, x⟩ (g k) = ⟨d, false, true, x⟩) := f2
            clear f2
            cases he : Plain.ends (g k)
            · rw [he] at hce2 f1
              have F1 : Hid (Plain.stop ⟨d, false, true, x⟩ (g k) = 0) := f1
              clear f1 he
              go_wp2_with (go_at_call 29; refine (hce2 _).mono ?_; rintro e w' ⟨rfl, rfl⟩)
              go_round
              case rel => exact ⟨k + 1, _, false, true, x, by omega, by go_num, rfl, rfl, run_next HS.out F2.out, on_next hon HS.out F1.out⟩
              case measure => simp [intOf]; omega
            · rw [he] at hce2 f1
              have F1 : Hid (Plain.stop ⟨d, false, true, x⟩ (g k) = 2) := f1
              clear f1 he
              go_wp2_with (go_at_call 29; refine (hce2 _).mono ?_; rintro e w' ⟨rfl, rfl⟩)
              exact bodyPost_ret (v := .tuple #[.int .i64 (k : Int), .bool true, .int .i64 d, .bool true]) (by simp [results, Try.results22, go_sem]) rfl ⟨se_done hlt hon HS.out (by rw [F1.out]; simp) (by rw [Plain.cnt, F1.out]; rfl) (by rw [F2.out]), rfl⟩
      · by_cases hq : x = false ∧ g k = 34
        · obtain ⟨rfl, h34⟩ := hq
          have ek : Plain.kind true false (g k) = 3 := by simp [Plain.kind, h34]
          rw [ek] at hke
          clear ek
          have Hnx : Hid (Plain.next ⟨d, true, l, false⟩ (g k) = ⟨d, false, l, false⟩) := by show _ = _; simp [Plain.next, h34]
          by_cases hd : d = 0
          · subst hd
            have Hst : Hid (Plain.stop ⟨0, true, l, false⟩ (g k) = 1) := by show _ = _; simp [Plain.stop, h34]
            go_wp2
            exact bodyPost_ret (v := .tuple #[.int .i64 ((k : Int) + 1), .bool true, .int .i64 0, .bool l]) (by simp [results, Try.results22, go_sem]) rfl ⟨se_done hlt hon HS.out (by rw [Hst.out]; simp) (by rw [Plain.cnt, Hst.out]; go_num) (by rw [Hnx.out]), rfl⟩
          · have hdb : (d == 0) = false := by simpa using hd
            have Hst : Hid (Plain.stop ⟨d, true, l, false⟩ (g k) = 0) := by show _ = _; simp [Plain.stop, hd]
            go_wp2
            go_round
            case rel => exact ⟨k + 1, d, false, l, false, by omega, by go_num, rfl, rfl, run_next HS.out Hnx.out, on_next hon HS.out Hst.out⟩
            case measure => simp [intOf]; omega
        · have ek : Plain.kind true x (g k) = 2 := by
            cases x
            · have : g k ≠ 34 := fun h => hq ⟨rfl, h⟩
              simp [Plain.kind, this]
            · simp [Plain.kind]
          rw [ek] at hke
          clear ek
          have Hst : Hid (Plain.stop ⟨d, true, l, x⟩ (g k) = 0) := by
            show _ = _
            simp only [Plain.stop, if_true]
            rw [if_neg (fun h => hq ⟨h.1, h.2.1⟩)]
          obtain ⟨x', hx'⟩ : ∃ x', Plain.next ⟨d, true, l, x⟩ (g k) = ⟨d, true, l, x'⟩ := by
            cases x
            · have : g k ≠ 34 := fun h => hq ⟨rfl, h⟩
              by_cases h92 : g k = 92
              · exact ⟨true, by simp [Plain.next, h92]⟩
              · exact ⟨false, by simp [Plain.next, h92, this]⟩
            · exact ⟨false, by simp [Plain.next]⟩
          have Hnx : Hid (Plain.next ⟨d, true, l, x⟩ (g k) = ⟨d, true, l, x'⟩) := hx'
          clear hx' hq
          go_wp2
          go_round
          case rel => exact ⟨k + 1, d, true, l, x', by omega, by go_num, rfl, rfl, run_next HS.out Hnx.out, on_next hon HS.out Hst.out⟩
          case measure => simp [intOf]; omega
    · obtain rfl : k = n := by omega
      clear hS
      go_wp2
      exact bodyPost_ret (v := .tuple #[.int .i64 (k : Int), .bool false, .int .i64 d, .bool l]) (by simp [results, Try.results22, go_sem]) rfl ⟨.inr ⟨⟨Nat.le_refl _, hon, fun h => by omega⟩, by rw [HS.out]⟩, rfl⟩
end Go.Proofs.Qxb6602126a
