import Derived.Test.Qxb6602126aRows
import Derived.Test.Qxb6602126aIdx
import Derived.WalkKit
import Derived.ProofKit
import Derived.Below
import Derived.WalkLawsBesides
import Derived.WalkSpells
import Derived.Laws.Rows
namespace Go.Proofs.Qxb6602126a
open Go.ChangeShapes Go.WideShapes Go.ChangeAt Go.RowKit
set_option linter.unusedVariables false

theorem Try.info5 : (Try.prog.info? 5).map (fun i => (i.zero, i.size, i.bytes)) = some (some (.int .u8 0), 1, 1) := by kernel_rfl

/-- A row of n bytes of which the first k are told by f, the rest 0. -/
def row (f : Nat → Int) (n k : Nat) : List Value := (List.range n).map fun i => Value.int .u8 (if i < k then f i else 0)
theorem row_length (f : Nat → Int) (n k : Nat) : (row f n k).length = n := by simp [row]
theorem row_get (f : Nat → Int) (n k i : Nat) (h : i < n) : (row f n k)[i]? = some (Value.int .u8 (if i < k then f i else 0)) := by simp [row, h]
theorem row_set (f : Nat → Int) (n k : Nat) (h : k < n) : (row f n k).set k (Value.int .u8 (f k)) = row f n (k + 1) := by
  apply List.ext_getElem?
  intro i
  rw [List.getElem?_set]
  by_cases hi : i < n
  · rw [row_get _ _ _ _ hi, row_get _ _ _ _ hi]
    by_cases e : k = i
    · subst e; simp [row_length, h]
    · rw [if_neg e]
      by_cases h1 : i < k
      · rw [if_pos h1, if_pos (by omega)]
      · rw [if_neg h1, if_neg (by omega)]
  · have e : ¬ k = i := by omega
    rw [if_neg e, List.getElem?_eq_none (by rw [row_length]; omega), List.getElem?_eq_none (by rw [row_length]; omega)]

/-- 'make([]byte, n)'. -/
theorem make_bytes (f : Nat → Int) (n : Nat) (hn : n ≤ 1048576) (w : World) : (Instr.makeSlice 22 (.int .i64 n) (.int .i64 n)).run Try.prog w = .ok (.slice (some ⟨w.heap.size, 0, none⟩) n n) (w.alloc (.cells (row f n 0).toArray 5)) := by
  obtain ⟨i0, hi, hz0, hz1, hz2⟩ := info_parts Try.info5
  have hr := run_make (P := Try.prog) w 22 5 i0 _ Try.underlying22 hi hz0 .i64 .i64 n n (by omega) (Int.le_refl _) (by rw [hz2]; omega) (by omega)
  have e : madeCells (Value.int .u8 0).cells n = (row f n 0).toArray := by
    apply Array.ext'
    apply List.ext_getElem?
    intro i
    by_cases h : i < n
    · rw [row_get _ _ _ _ h]; simp [madeCells, h, Value.cells, Nat.mod_one]
    · simp [madeCells, row, h]
  rw [← e]
  simpa [hz1] using hr

theorem nil_eql (w : World) (a : Option Addr) (n c n' c' : Nat) : (binOp .eql 22 (.slice a n c) (.slice none n' c')).run Try.prog w = .ok (.bool a.isNone) w :=
  Lib.run_eql_slice_nil w _ _ a n c n' c' Try.underlying22

theorem clone_any (x : Addr) (n c : Nat) (f : Nat → Int) (w : World) (hn : n ≤ 1048576) (hc : ∀ i, i < n → w.cell? (x.add i) = some (.int .u8 (f i))) :
    Calls Try.prog 10 #[.slice (some x) n c] w fun e w' => e = .returned (.slice (some ⟨w.heap.size, 0, none⟩) n n) ∧ w' = w.alloc (.cells (row f n n).toArray 5) := by
  have hmk := fun w => make_bytes f n hn w
  have hq := nil_eql
  go_enter Try.func10, Try.ntmps10
  go_wp2
  go_loopw [4] (fun i wr => ∃ k : Nat, k ≤ n ∧ i = .int .i64 (k : Int) ∧ wr = w.alloc (.cells (row f n k).toArray 5)) (fun i _ => n - (intOf i).toNat)
  case atStart => exact ⟨0, by omega, by go_num, rfl⟩
  case round =>
    obtain ⟨k, hk, rfl, rfl⟩ := hrel
    by_cases hlt : k < n
    · have hce := hc k hlt
      obtain ⟨b, o, spot⟩ := x
      have hspot : spot = none := by
        have h0 := hc 0 (by omega)
        simpa [Addr.add] using World.cell?_spot h0
      subst hspot
      rw [add_zero_block] at hce
      have hb : b < w.heap.size := block_lt_of_cell hce
      have hrow := row_get f n k k hlt
      have hlen := row_length f n k
      have hset := row_set f n k hlt
      clear hc
      go_wp2
      go_roundw
      case rel => exact ⟨k + 1, by omega, by go_num, rfl⟩
      case measure => simp [intOf]; omega
    · obtain rfl : k = n := by omega
      clear hc
      go_wp2
      go_ret
      exact ⟨rfl, rfl⟩

theorem clone_nil (w : World) : Calls Try.prog 10 #[.slice none 0 0] w fun e w' => e = .returned (.slice none 0 0) ∧ w' = w := by
  have hq := nil_eql
  go_enter Try.func10, Try.ntmps10
  go_wp2
  go_ret
  exact ⟨rfl, rfl⟩
end Go.Proofs.Qxb6602126a
