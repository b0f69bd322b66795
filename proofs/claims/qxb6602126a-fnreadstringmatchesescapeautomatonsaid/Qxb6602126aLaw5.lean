import Derived.Test.Qxb6602126aSl
namespace Go.Proofs.Qxb6602126a
open Go.ChangeShapes Go.WideShapes Go.ChangeAt Go.RowKit
set_option linter.unusedVariables false

set_option maxHeartbeats 1000000 in
theorem law5_road (a0 : Int) (a1 a2 a3 : Bool) (a4 : Option Addr) (len4 cap4 : Nat) (z4 : List Int) (w : World) (w4 : In w a4 len4 cap4 z4) (hn : len4 ≤ 1048576) :
    Calls Try.prog 5 #[.int .i64 a0, .bool a1, .bool a2, .bool a3, .slice a4 len4 cap4] w fun e w' => e = .returned (.bool true) ∧ Below w.heap.size w w' := by
  have h1 : ¬ (1048576 < (len4 : Int)) := by omega
  have hby := w4.bytes
  have c10 := clone_sl w4 hn
  clear w4
  go_enter Try.func5, Try.ntmps5
  go_wp2_with (go_at_call 15; go_in)
  refine c10.mono ?_
  rintro e w1 ⟨ao, cp, rfl, hsl, hb1⟩
  go_wp2_with fail
  refine (zrs_sl hsl hn hby _ _ _ _).mono ?_
  rintro e w2 ⟨hp, hb2⟩
  have hsl2 := hsl.below hb2
  have hB : Below w.heap.size w w2 := hb1.trans (hb2.mono hb1.size)
  clear hsl hb1 hb2 c10
  rcases hp with ⟨E, hE, hi, rfl⟩ | ⟨hi, rfl⟩
  · go_wp2_with fail
    refine (fw_sl hsl2 hn _).mono ?_
    rintro e w3 ⟨⟨F, hF, hj, rfl⟩ | ⟨hj, rfl⟩, rfl⟩
    · obtain rfl := hi.unique hj
      go_wp2
      go_ret
      exact ⟨by simp, hB⟩
    · have := hi.unique hj; omega
  · go_wp2_with fail
    refine (fw_sl hsl2 hn _).mono ?_
    rintro e w3 ⟨⟨F, hF, hj, rfl⟩ | ⟨hj, rfl⟩, rfl⟩
    · have := hi.unique hj; omega
    · go_wp2
      go_ret
      exact ⟨by simp, hB⟩

theorem law5_big (a0 : Int) (a1 a2 a3 : Bool) (a4 : Option Addr) (len4 cap4 : Nat) (w : World) (hn : 1048576 < (len4 : Int)) :
    Calls Try.prog 5 #[.int .i64 a0, .bool a1, .bool a2, .bool a3, .slice a4 len4 cap4] w fun e w' => e = .returned (.bool true) ∧ Below w.heap.size w w' := by
  go_enter Try.func5, Try.ntmps5
  go_wp2
  go_ret
  exact ⟨rfl, Below.refl _ _⟩
end Go.Proofs.Qxb6602126a
