import Derived.Test.Qxb6602126aZrd
import Derived.Test.Qxb6602126aSe
namespace Go.Proofs.Qxb6602126a
open Go.ChangeShapes Go.WideShapes Go.ChangeAt Go.RowKit
set_option linter.unusedVariables false

namespace Plain
/-- Where the value ends ahead of a byte, that byte does not turn the mark. -/
theorem next_esc {S : St} {c : Int} (h0 : stop S c ≠ 0) (h : stop S c ≠ 1) : (next S c).esc = S.esc := by
  unfold stop at h0 h
  unfold next
  by_cases hs : S.str = true
  · rw [if_pos hs] at h0 h
    split at h
    · exact absurd rfl h
    · rename_i hn
      rw [if_neg hn] at h0
      exact absurd rfl h0
  · rw [if_neg hs]
    split
    · rfl
    · split
      · rfl
      · split
        · rfl
        · split
          · rfl
          · split <;> rfl

theorem esc_cnt {g : Nat → Int} {S0 : St} {n i : Nat} (hi : i < n) (h : Fin g S0 n i) : (run g S0 (cnt (run g S0 i) (g i) i)).esc = (next (run g S0 i) (g i)).esc := by
  have h0 := h.2.2 hi
  unfold cnt
  by_cases h1 : stop (run g S0 i) (g i) = 1
  · rw [if_pos h1]; rfl
  · rw [if_neg h1, next_esc h0 h1]

theorem cnt_le {S : St} {c : Int} {i n : Nat} (hi : i < n) : cnt S c i ≤ n := by unfold cnt; split <;> omega
end Plain

/-- ZZRead, its answer under names. -/
theorem zrd_out {w : World} {ao : Option Addr} {n c : Nat} {g : Nat → Int} (h : Sl w ao n c g) (hn : n ≤ 1048576) (hby : ∀ i, i < n → 0 ≤ g i ∧ g i < 256) (d : Int) (s l x : Bool) :
    Calls Try.prog 20 #[.int .i64 d, .bool s, .bool l, .bool x, .slice ao n c] w fun e w' => (∃ (N : Nat) (dn : Bool) (D : Int) (B L X : Bool), e = .returned (.tuple #[.int .i64 (N : Int), .bool dn, .int .i64 D, .bool B, .bool L, .bool X]) ∧ Plain.Out g ⟨d, s, l, x⟩ n N dn D B L X) ∧ Below w.heap.size w w' := by
  refine (zrd_sl h hn hby ⟨d, s, l, x⟩).mono ?_
  rintro e w' ⟨⟨i, hi, hf, rfl⟩ | ⟨hf, rfl⟩, hb⟩
  · exact ⟨⟨_, _, _, _, _, _, rfl, .inl ⟨i, hi, hf, rfl, rfl, rfl, rfl, rfl, rfl⟩⟩, hb⟩
  · exact ⟨⟨_, _, _, _, _, _, rfl, .inr ⟨hf, rfl, rfl, rfl, rfl, rfl, rfl⟩⟩, hb⟩

/-- b1StructEnd, its answer under names: of the same value. -/
theorem se_out {w : World} {ao : Option Addr} {n c bk : Nat} {g : Nat → Int} (h : Sl w ao n c g) (hn : n ≤ 1048576) (d : Int) (s l x : Bool) (hkc : ∀ i, i < n → w.cell? ⟨bk, i, none⟩ = some (.int .u8 (Plain.kinds g ⟨d, s, l, x⟩ i)))
    {N : Nat} {dn : Bool} {D : Int} {B L X : Bool} (ho : Plain.Out g ⟨d, s, l, x⟩ n N dn D B L X) :
    Calls Try.prog 22 #[.int .i64 d, .bool l, .slice ao n c, .slice (some ⟨bk, 0, none⟩) n n] w fun e w' => (∃ D' : Int, e = .returned (.tuple #[.int .i64 (N : Int), .bool dn, .int .i64 D', .bool L]) ∧ N ≤ n ∧ (Plain.run g ⟨d, s, l, x⟩ N).esc = X ∧ (dn = false → D' = D ∧ (Plain.run g ⟨d, s, l, x⟩ N).str = B)) ∧ w' = w := by
  refine (se_any h hn ⟨d, s, l, x⟩ hkc).mono ?_
  rintro e w' ⟨⟨i, D', hi, hf, rfl⟩ | ⟨hf, rfl⟩, rfl⟩
  · rcases ho with ⟨j, hj, hg, rfl, rfl, rfl, rfl, rfl, rfl⟩ | ⟨hg, _⟩
    · obtain rfl := hf.unique hg
      exact ⟨⟨D', rfl, Plain.cnt_le hi, Plain.esc_cnt hi hf, fun h => by cases h⟩, rfl⟩
    · have := hf.unique hg; omega
  · rcases ho with ⟨j, hj, hg, _⟩ | ⟨hg, rfl, rfl, rfl, rfl, rfl, rfl⟩
    · have := hf.unique hg; omega
    · exact ⟨⟨_, rfl, Nat.le_refl _, rfl, fun _ => ⟨rfl, rfl⟩⟩, rfl⟩

theorem lex_cells {w : World} {f : Nat → Int} {n : Nat} : ∀ i, i < n → (w.alloc (.cells (row f n n).toArray 5)).cell? ⟨w.heap.size, i, none⟩ = some (.int .u8 (f i)) := by
  intro i hi
  rw [World.cell?_alloc_new]
  have := row_get f n n i hi
  rw [if_pos hi] at this
  simpa using this

set_option maxHeartbeats 2000000 in
set_option maxRecDepth 100000 in
theorem law7_road (a0 : Int) (a1 a2 a3 : Bool) (a4 : Option Addr) (n cap4 : Nat) (z4 : List Int) (w : World) (w4 : In w a4 n cap4 z4) (hn : n ≤ 1048576) :
    Calls Try.prog 7 #[.int .i64 a0, .bool a1, .bool a2, .bool a3, .slice a4 n cap4] w fun e w' => e = .returned (.bool true) ∧ Below w.heap.size w w' := by
  have h1 : ¬ (1048576 < (n : Int)) := by omega
  have hby := w4.bytes
  go_enter Try.func7, Try.ntmps7
  go_wp2_with (go_at_call 19; go_in)
  refine (clone_sl w4 hn).mono ?_
  rintro e w1 ⟨ao, cp, rfl, hsl, hb1⟩
  go_wp2_with fail
  refine (zrd_out hsl hn hby _ _ _ _).mono ?_
  rintro e w2 ⟨⟨N, dn, D, B, L, X, rfl, ho⟩, hb2⟩
  have hsl2 := hsl.below hb2
  have hB2 : Below w.heap.size w w2 := hb1.trans (hb2.mono hb1.size)
  clear hsl hb1 hb2 w4
  go_wp2_with fail
  refine (lex_sl hsl2 hn ⟨a0, a1, a2, a3⟩).mono ?_
  rintro e w3 ⟨rfl, hw3⟩
  have hb3 : Below w2.heap.size w2 w3 := by rw [hw3]; exact (Below.refl _ _).alloc (Nat.le_refl _) _
  have hcells := lex_cells (w := w2) (f := Plain.kinds (fun i => z4.getD i 0) ⟨a0, a1, a2, a3⟩) (n := n)
  rw [← hw3] at hcells
  have hsl3 := hsl2.below hb3
  have hB3 : Below w.heap.size w w3 := hB2.trans (hb3.mono hB2.size)
  have c22 := se_out hsl3 hn a0 a1 a2 a3 hcells ho
  clear hsl2 hB2 hb3 hw3 hcells ho hby
  go_wp2_with fail
  refine c22.mono ?_
  rintro e w4 ⟨⟨D', rfl, hN, hX, hrest⟩, rfl⟩
  clear c22
  have c23 := lexState_sl hsl3 hn ⟨a0, a1, a2, a3⟩ N hN
  clear hsl3
  rw [hX] at c23
  clear hX
  cases dn
  · obtain ⟨rfl, hB⟩ := hrest rfl
    rw [hB] at c23
    clear hrest hB
    go_wp2_with fail
    refine c23.mono ?_
    rintro e w5 ⟨rfl, rfl⟩
    clear c23
    go_wp2
    go_ret
    exact ⟨by simp, hB3⟩
  · clear hrest
    go_wp2_with fail
    refine c23.mono ?_
    rintro e w5 ⟨rfl, rfl⟩
    clear c23
    go_wp2
    go_ret
    exact ⟨by simp, hB3⟩

set_option maxRecDepth 100000 in
theorem law7_big (a0 : Int) (a1 a2 a3 : Bool) (a4 : Option Addr) (len4 cap4 : Nat) (w : World) (hn : 1048576 < (len4 : Int)) :
    Calls Try.prog 7 #[.int .i64 a0, .bool a1, .bool a2, .bool a3, .slice a4 len4 cap4] w fun e w' => e = .returned (.bool true) ∧ Below w.heap.size w w' := by
  go_enter Try.func7, Try.ntmps7
  go_wp2
  go_ret
  exact ⟨rfl, Below.refl _ _⟩
end Go.Proofs.Qxb6602126a
