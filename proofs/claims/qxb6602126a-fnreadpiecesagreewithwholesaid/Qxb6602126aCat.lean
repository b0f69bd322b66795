import Derived.Test.Qxb6602126aSl
namespace Go.Proofs.Qxb6602126a
open Go.ChangeShapes Go.WideShapes Go.ChangeAt Go.RowKit
set_option linter.unusedVariables false

set_option maxHeartbeats 1000000 in
/-- b1Concat: the bytes of a, then those of b. -/
theorem cat_any (ao bo : Option Addr) (na ca nb cb : Nat) (ga gb : Nat → Int) (w : World) (hna : na ≤ 524288) (hnb : nb ≤ 524288) (ha : Sl w ao na ca ga) (hb : Sl w bo nb cb gb) :
    Calls Try.prog 14 #[.slice ao na ca, .slice bo nb cb] w fun e w' => e = .returned (.slice (some ⟨w.heap.size, 0, none⟩) (na + nb) (na + nb)) ∧ w' = w.alloc (.cells (row (Plain.glue ga gb na) (na + nb) (na + nb)).toArray 5) := by
  have hmk := fun w => make_bytes (Plain.glue ga gb na) (na + nb) (by omega) w
  simp only [Int.natCast_add] at hmk
  have ha' : 0 < na → ∃ b o, ao = some ⟨b, o, none⟩ ∧ ∀ i, i < na → w.cell? ⟨b, o + i, none⟩ = some (.int .u8 (ga i)) := by
    rcases ha with ⟨_, h, _⟩ | ⟨b, o, h1, h2, h3⟩
    · intro h'; omega
    · exact fun _ => ⟨b, o, h1, h3⟩
  have hb' : 0 < nb → ∃ b o, bo = some ⟨b, o, none⟩ ∧ ∀ i, i < nb → w.cell? ⟨b, o + i, none⟩ = some (.int .u8 (gb i)) := by
    rcases hb with ⟨_, h, _⟩ | ⟨b, o, h1, h2, h3⟩
    · intro h'; omega
    · exact fun _ => ⟨b, o, h1, h3⟩
  have Ha : Hid (0 < na → ∃ b o, ao = some ⟨b, o, none⟩ ∧ ∀ i, i < na → w.cell? ⟨b, o + i, none⟩ = some (.int .u8 (ga i))) := ha'
  have Hb : Hid (0 < nb → ∃ b o, bo = some ⟨b, o, none⟩ ∧ ∀ i, i < nb → w.cell? ⟨b, o + i, none⟩ = some (.int .u8 (gb i))) := hb'
  clear ha hb ha' hb'
  go_enter Try.func14, Try.ntmps14
  go_wp2
  go_loopw [6] (fun i wr => ∃ k : Nat, k ≤ na ∧ i = .int .i64 (k : Int) ∧ wr = w.alloc (.cells (row (Plain.glue ga gb na) (na + nb) k).toArray 5)) (fun i _ => na - (intOf i).toNat)
  case atStart => exact ⟨0, by omega, by go_num, rfl⟩
  case round =>
    obtain ⟨k, hk, rfl, rfl⟩ := hrel
    by_cases hlt : k < na
    · obtain ⟨b, o, rfl, hc⟩ := Ha.out (by omega)
      have hce := hc k hlt
      rw [← Plain.glue_lo ga gb hlt] at hce
      have hbk : b < w.heap.size := block_lt_of_cell hce
      have hrow := row_get (Plain.glue ga gb na) (na + nb) k k (by omega)
      have hlen := row_length (Plain.glue ga gb na) (na + nb) k
      have hset := row_set (Plain.glue ga gb na) (na + nb) k (by omega)
      clear hc Ha
      go_wp2
      go_roundw
      case rel => exact ⟨k + 1, by omega, by go_num, rfl⟩
      case measure => simp [intOf]; omega
    · obtain rfl : k = na := by omega
      go_wp2
      go_loopw [7] (fun i wr => ∃ j : Nat, j ≤ nb ∧ i = .int .i64 (j : Int) ∧ wr = w.alloc (.cells (row (Plain.glue ga gb k) (k + nb) (k + j)).toArray 5)) (fun i _ => nb - (intOf i).toNat)
      case atStart => exact ⟨0, by omega, by go_num, rfl⟩
      case round =>
        obtain ⟨j, hj, rfl, rfl⟩ := hrel
        by_cases hltj : j < nb
        · obtain ⟨b, o, rfl, hc⟩ := Hb.out (by omega)
          have hce := hc j hltj
          rw [← Plain.glue_hi ga gb k] at hce
          have hbk : b < w.heap.size := block_lt_of_cell hce
          have hrow := row_get (Plain.glue ga gb k) (k + nb) (k + j) (k + j) (by omega)
          have hlen := row_length (Plain.glue ga gb k) (k + nb) (k + j)
          have hset := row_set (Plain.glue ga gb k) (k + nb) (k + j) (by omega)
          clear hc Hb
          go_wp2
          go_roundw
          case rel => exact ⟨j + 1, by omega, by go_num, rfl⟩
          case measure => simp [intOf]; omega
        · obtain rfl : j = nb := by omega
          go_wp2
          go_ret
          exact ⟨rfl, rfl⟩

theorem cat_sl {w : World} {ao bo : Option Addr} {na ca nb cb : Nat} {ga gb : Nat → Int} (hna : na ≤ 524288) (hnb : nb ≤ 524288) (ha : Sl w ao na ca ga) (hb : Sl w bo nb cb gb) :
    Calls Try.prog 14 #[.slice ao na ca, .slice bo nb cb] w fun e w' => ∃ xo cp, e = .returned (.slice xo (na + nb) cp) ∧ Sl w' xo (na + nb) cp (Plain.glue ga gb na) ∧ Below w.heap.size w w' := by
  refine (cat_any ao bo na ca nb cb ga gb w hna hnb ha hb).mono ?_
  rintro e w' ⟨rfl, rfl⟩
  refine ⟨_, _, rfl, .inr ⟨_, 0, rfl, Nat.le_refl _, fun i hi => ?_⟩, (Below.refl _ _).alloc (Nat.le_refl _) _⟩
  rw [Nat.zero_add, World.cell?_alloc_new]
  have := row_get (Plain.glue ga gb na) (na + nb) (na + nb) i hi
  rw [if_pos hi] at this
  simpa using this
end Go.Proofs.Qxb6602126a
