import Derived.Test.Qxb6602209aRdr
import Derived.Deep.QuietTactic
import Derived.BigQuiet
import Derived.WalkLawsBesides
namespace Go.Proofs.Qxb6602209a
open Go.ChangeShapes Go.WideShapes Go.ChangeAt Go.RowKit
set_option linter.unusedVariables false

/-- Bytes in memory, where there are any. -/
def By (w : World) (ao : Option Addr) (n : Nat) (f : Nat → Int) : Prop := 0 < n → ∃ b o, ao = some ⟨b, o, none⟩ ∧ ∀ i, i < n → w.cell? ⟨b, o + i, none⟩ = some (.int .u8 (f i))

theorem Bd.by' {w : World} {U : Nat} {ao : Option Addr} {n c : Nat} {f : Nat → Int} (h : Bd w U ao n c f) : By w ao n f := by
  rcases h with ⟨_, h, _⟩ | ⟨b, o, h1, _, _, h3⟩
  · intro h'; omega
  · exact fun _ => ⟨b, o, h1, h3⟩
theorem Sl.by' {w : World} {B : Nat} {ao : Option Addr} {n c : Nat} {f : Nat → Int} (h : Sl w B ao n c f) : By w ao n f := by
  rcases h with ⟨_, h, _⟩ | ⟨b, o, h1, _, _, h3⟩
  · intro h'; omega
  · exact fun _ => ⟨b, o, h1, h3⟩

set_option maxHeartbeats 2000000 in
/-- zzSameBytes of two slices of the same bytes. -/
theorem same17 {w : World} {ao bo : Option Addr} {n ca cb : Nat} {f : Nat → Int} (ha : By w ao n f) (hb : By w bo n f) (hn : n ≤ 2097152) :
    Calls Try.prog 17 #[.slice ao n ca, .slice bo n cb] w fun e w' => e = .returned (.bool true) ∧ ∃ q, w' = w.drewN q := by
  have Ha : Hid _ := ha
  have Hb : Hid _ := hb
  clear ha hb
  go_enter Try.func17, Try.ntmps17
  go_wp2
  go_loopw [5] (fun t wr => ∃ (i q : Nat), i ≤ n ∧ t = .int .i64 (i : Int) ∧ wr = w.drewN q) (fun t _ => n - (intOf t).toNat)
  case atStart => exact ⟨0, 0, by omega, rfl, rfl⟩
  case round =>
    obtain ⟨i, q, hi, rfl, rfl⟩ := hrel
    by_cases hlt : i < n
    · obtain ⟨b, o, rfl, hc⟩ := Ha.out (by omega)
      obtain ⟨b2, o2, rfl, hc2⟩ := Hb.out (by omega)
      have x1 := hc i hlt
      have x2 := hc2 i hlt
      have h1 : (i : Int) < (n : Int) := by omega
      clear Ha Hb hc hc2
      go_wp2
      go_quiet (fail)
      go_wp2
      go_roundw
      case rel => exact ⟨i + 1, q + nq, by omega, by go_num, rfl⟩
      case measure => simp [intOf]; omega
    · go_wp2
      go_ret
      exact ⟨rfl, q, rfl⟩
end Go.Proofs.Qxb6602209a
