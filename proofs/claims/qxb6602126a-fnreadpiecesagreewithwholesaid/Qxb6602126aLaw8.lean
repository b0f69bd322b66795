import Derived.Test.Qxb6602126aZrd
import Derived.Test.Qxb6602126aOut
import Derived.Test.Qxb6602126aCat
namespace Go.Proofs.Qxb6602126a
open Go.ChangeShapes Go.WideShapes Go.ChangeAt Go.RowKit
set_option linter.unusedVariables false

/-- ZZRead, its answer under names. -/
theorem zrd_out {w : World} {ao : Option Addr} {n c : Nat} {g : Nat → Int} (h : Sl w ao n c g) (hn : n ≤ 1048576) (hby : ∀ i, i < n → 0 ≤ g i ∧ g i < 256) (d : Int) (s l x : Bool) :
    Calls Try.prog 20 #[.int .i64 d, .bool s, .bool l, .bool x, .slice ao n c] w fun e w' => (∃ (N : Nat) (dn : Bool) (D : Int) (B L X : Bool), e = .returned (.tuple #[.int .i64 (N : Int), .bool dn, .int .i64 D, .bool B, .bool L, .bool X]) ∧ Plain.Out g ⟨d, s, l, x⟩ n N dn D B L X) ∧ Below w.heap.size w w' := by
  refine (zrd_sl h hn hby ⟨d, s, l, x⟩).mono ?_
  rintro e w' ⟨⟨i, hi, hf, rfl⟩ | ⟨hf, rfl⟩, hb⟩
  · exact ⟨⟨_, _, _, _, _, _, rfl, .inl ⟨i, hi, hf, rfl, rfl, rfl, rfl, rfl, rfl⟩⟩, hb⟩
  · exact ⟨⟨_, _, _, _, _, _, rfl, .inr ⟨hf, rfl, rfl, rfl, rfl, rfl, rfl⟩⟩, hb⟩

theorem bytes_glue {ga gb : Nat → Int} {na nb : Nat} (ha : ∀ i, i < na → 0 ≤ ga i ∧ ga i < 256) (hb : ∀ i, i < nb → 0 ≤ gb i ∧ gb i < 256) : ∀ i, i < na + nb → 0 ≤ Plain.glue ga gb na i ∧ Plain.glue ga gb na i < 256 := by
  intro i hi
  by_cases h : i < na
  · rw [Plain.glue_lo ga gb h]; exact ha i h
  · obtain ⟨j, rfl⟩ : ∃ j, i = na + j := ⟨i - na, by omega⟩
    rw [Plain.glue_hi]; exact hb j (by omega)

set_option maxHeartbeats 2000000 in
set_option maxRecDepth 100000 in
theorem law8_road (a0 : Int) (a1 a2 a3 : Bool) (a4 : Option Addr) (na cap4 : Nat) (z4 : List Int) (a5 : Option Addr) (nb cap5 : Nat) (z5 : List Int) (w : World) (w4 : In w a4 na cap4 z4) (w5 : In w a5 nb cap5 z5) (hna : na ≤ 524288) (hnb : nb ≤ 524288) :
    Calls Try.prog 8 #[.int .i64 a0, .bool a1, .bool a2, .bool a3, .slice a4 na cap4, .slice a5 nb cap5] w fun e w' => e = .returned (.bool true) ∧ Below w.heap.size w w' := by
  have h1 : ¬ (524288 < (na : Int)) := by omega
  have h2 : ¬ (524288 < (nb : Int)) := by omega
  have hby4 := w4.bytes
  have hby5 := w5.bytes
  have hbyg := bytes_glue hby4 hby5
  go_enter Try.func8, Try.ntmps8
  go_wp2_with (go_at_call 24; go_in)
  refine (clone_sl w4 (by omega)).mono ?_
  rintro e w1 ⟨ao, ca, rfl, hsa, hb1⟩
  go_wp2_with fail
  refine (clone_sl (w5.below hb1) (by omega)).mono ?_
  rintro e w2 ⟨bo, cb, rfl, hsb, hb2⟩
  have hsa2 := hsa.below hb2
  go_wp2_with fail
  refine (cat_sl hna hnb hsa2 hsb).mono ?_
  rintro e w3 ⟨xo, cx, rfl, hsx, hb3⟩
  have hsa3 := hsa2.below hb3
  have hsb3 := hsb.below hb3
  have hB3 : Below w.heap.size w w3 := (hb1.trans (hb2.mono hb1.size)).trans (hb3.mono (Nat.le_trans hb1.size hb2.size))
  clear hsa hsa2 hsb hb1 hb2 hb3 w4 w5
  go_wp2_with fail
  refine (zrd_out hsx (by omega) hbyg _ _ _ _).mono ?_
  rintro e w4 ⟨⟨N, dn, D, B, L, X, rfl, ho⟩, hb4⟩
  have hsa4 := hsa3.below hb4
  have hsb4 := hsb3.below hb4
  have hB4 : Below w.heap.size w w4 := hB3.trans (hb4.mono hB3.size)
  have hNle := ho.le
  clear hsa3 hsb3 hB3 hb4 hsx
  go_wp2_with fail
  refine (zrd_out hsa4 (by omega) hby4 _ _ _ _).mono ?_
  rintro e w5 ⟨⟨N1, dn1, D1, B1, L1, X1, rfl, ho1⟩, hb5⟩
  have hsb5 := hsb4.below hb5
  have hB5 : Below w.heap.size w w5 := hB4.trans (hb5.mono hB4.size)
  clear hsa4 hsb4 hB4 hb5
  cases dn1
  · go_wp2_with fail
    refine (zrd_out hsb5 (by omega) hby5 _ _ _ _).mono ?_
    rintro e w6 ⟨⟨N2, dn2, D2, B2, L2, X2, rfl, ho2⟩, hb6⟩
    have hB6 : Below w.heap.size w w6 := hB5.trans (hb6.mono hB5.size)
    have hN2 := ho2.le
    obtain ⟨rfl, rfl, rfl, rfl, hrest⟩ := Plain.pieces_second ho ho1 ho2
    clear hsb5 hB5 hb6 ho ho1 ho2 hbyg hby4 hby5
    cases dn
    · obtain ⟨rfl, rfl, rfl⟩ := hrest rfl
      clear hrest
      go_wp2
      go_ret
      exact ⟨by simp, hB6⟩
    · clear hrest
      go_wp2
      go_ret
      exact ⟨by simp, hB6⟩
  · obtain ⟨rfl, rfl, rfl, rfl, rfl, rfl⟩ := Plain.pieces_first ho ho1
    clear ho ho1 hbyg hby4 hby5 hsb5
    go_wp2
    go_ret
    exact ⟨by simp, hB5⟩

set_option maxRecDepth 100000 in
theorem law8_big (a0 : Int) (a1 a2 a3 : Bool) (a4 : Option Addr) (na cap4 : Nat) (a5 : Option Addr) (nb cap5 : Nat) (w : World) (hna : na ≤ maxLen) (hnb : nb ≤ maxLen) (h : ¬ (na ≤ 524288 ∧ nb ≤ 524288)) :
    Calls Try.prog 8 #[.int .i64 a0, .bool a1, .bool a2, .bool a3, .slice a4 na cap4, .slice a5 nb cap5] w fun e w' => e = .returned (.bool true) ∧ Below w.heap.size w w' := by
  unfold maxLen at hna hnb
  by_cases c1 : 1048576 < (na : Int)
  · go_enter Try.func8, Try.ntmps8
    go_wp2
    go_ret
    exact ⟨rfl, Below.refl _ _⟩
  · by_cases c2 : 1048576 < (nb : Int)
    · go_enter Try.func8, Try.ntmps8
      go_wp2
      go_ret
      exact ⟨rfl, Below.refl _ _⟩
    · by_cases c3 : 1048576 < (na : Int) + (nb : Int)
      · go_enter Try.func8, Try.ntmps8
        go_wp2
        go_ret
        exact ⟨rfl, Below.refl _ _⟩
      · by_cases c4 : 524288 < (na : Int)
        · go_enter Try.func8, Try.ntmps8
          go_wp2
          go_ret
          exact ⟨rfl, Below.refl _ _⟩
        · have c5 : 524288 < (nb : Int) := by omega
          go_enter Try.func8, Try.ntmps8
          go_wp2
          go_ret
          exact ⟨rfl, Below.refl _ _⟩
end Go.Proofs.Qxb6602126a
