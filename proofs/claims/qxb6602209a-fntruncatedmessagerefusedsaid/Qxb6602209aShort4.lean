import Derived.Test.Qxb6602209aShort3
import Derived.Test.Qxb6602209aMsg4
namespace Go.Proofs.Qxb6602209a
open Go.ChangeShapes Go.WideShapes Go.ChangeAt Go.RowKit
set_option linter.unusedVariables false

set_option maxHeartbeats 2000000 in
set_option maxRecDepth 100000 in
theorem law4_big (k : Int) (V : Array Value) (m : M) (hM : IsM V m) (w : World)
    (h : 1048576 < m.s0.size + m.s3.size + m.s6.size + m.s10.size + m.s11.size + m.nS + m.nO)
    (h1 : m.s0.size ≤ maxLen) (h2 : m.s3.size ≤ maxLen) (h3 : m.s6.size ≤ maxLen) (h4 : m.s10.size ≤ maxLen) (h5 : m.s11.size ≤ maxLen) (h6 : m.nS ≤ maxLen) (h7 : m.nO ≤ maxLen) :
    Calls Try.prog 4 #[.agg V, .int .i64 k] w fun e w' => e = .returned (.bool true) ∧ Below w.heap.size w w' := by
  have HI : Hid ((Try.prog.info? 24).map (·.size) = some V.size) := by show _ = _; rw [Try.size24, hM.size]
  go_enter Try.func4, Try.ntmps4
  go_wp2_with (first | (refine wpList_load_row rfl 24 (.tmp 2) rfl _ rfl 24 V (0, 0) _ (heap_alloc_new w _) Try.underlying24 rfl HI.out ?_) | fail)
  refine (bytes20_noV hM _ _ h h1 h2 h3 h4 h5 h6 h7).mono ?_
  rintro e w1 ⟨rfl, b1⟩
  have B1 : Below w.heap.size w w1 := ((Below.refl _ _).alloc (Nat.le_refl _) _).trans (b1.mono (by simp))
  go_wp2
  go_ret
  exact ⟨rfl, B1⟩

set_option maxHeartbeats 2000000 in
set_option maxRecDepth 100000 in
theorem law4_nul (k : Int) (V : Array Value) (m : M) (hM : IsM V m) (w : World)
    (hb : m.s0.size + m.s3.size + m.s6.size + m.s10.size + m.s11.size + m.nS + m.nO ≤ 1048576)
    (u : ¬ (nul m.s0 = false ∧ nul m.s3 = false ∧ nul m.s6 = false ∧ nul m.s10 = false ∧ nul m.s11 = false)) :
    Calls Try.prog 4 #[.agg V, .int .i64 k] w fun e w' => e = .returned (.bool true) ∧ Below w.heap.size w w' := by
  have HI : Hid ((Try.prog.info? 24).map (·.size) = some V.size) := by show _ = _; rw [Try.size24, hM.size]
  go_enter Try.func4, Try.ntmps4
  go_wp2_with (first | (refine wpList_load_row rfl 24 (.tmp 2) rfl _ rfl 24 V (0, 0) _ (heap_alloc_new w _) Try.underlying24 rfl HI.out ?_) | fail)
  refine (bytes20V hM _ _ hb).mono ?_
  rintro e w1 ⟨rfl, b1⟩
  have B1 : Below w.heap.size w w1 := ((Below.refl _ _).alloc (Nat.le_refl _) _).trans (b1.mono (by simp))
  have s1 : w.heap.size < w1.heap.size := by have := b1.size; simp at this; omega
  have A1 : Hid (w1.heap[w.heap.size]? = some (.cells V 24 (0, 0))) := below_at b1 (by simp) (heap_alloc_new w _)
  clear b1
  go_wp2_with (first | (refine wpList_load_row rfl 24 (.tmp 2) rfl _ rfl 24 V (0, 0) _ A1.out Try.underlying24 rfl HI.out ?_) | fail)
  refine (tooBig7V hM _ _ _ _ (by omega)).mono ?_
  rintro e w2 ⟨rfl, b2⟩
  have B2 : Below w.heap.size w w2 := B1.trans (b2.mono (by omega))
  have s2 : w.heap.size < w2.heap.size := Nat.lt_of_lt_of_le s1 b2.size
  have A2 : Hid (w2.heap[w.heap.size]? = some (.cells V 24 (0, 0))) := below_at b2 s1 A1.out
  clear b2 A1 B1 s1
  go_wp2_with (first | (refine wpList_load_row rfl 24 (.tmp 2) rfl _ rfl 24 V (0, 0) _ A2.out Try.underlying24 rfl HI.out ?_) | fail)
  refine (nulFree8_noV hM _ (by unfold maxLen; omega) (by unfold maxLen; omega) (by unfold maxLen; omega) (by unfold maxLen; omega) (by unfold maxLen; omega) u).mono ?_
  rintro e w3 ⟨rfl, b3⟩
  have B3 : Below w.heap.size w w3 := B2.trans (b3.mono (by omega))
  go_wp2
  go_ret
  exact ⟨rfl, B3⟩

set_option maxHeartbeats 2000000 in
set_option maxRecDepth 100000 in
theorem law4_out (k : Int) (V : Array Value) (m : M) (hM : IsM V m) (w : World)
    (hb : m.s0.size + m.s3.size + m.s6.size + m.s10.size + m.s11.size + m.nS + m.nO ≤ 1048576)
    (u0 : nul m.s0 = false) (u3 : nul m.s3 = false) (u6 : nul m.s6 = false) (u10 : nul m.s10 = false) (u11 : nul m.s11 = false)
    (hc : k < 0 ∨ ((17 + m.s0.size + m.s3.size + m.s6.size + m.s10.size + m.s11.size : Nat) : Int) ≤ k) :
    Calls Try.prog 4 #[.agg V, .int .i64 k] w fun e w' => e = .returned (.bool true) ∧ Below w.heap.size w w' := by
  have HI : Hid ((Try.prog.info? 24).map (·.size) = some V.size) := by show _ = _; rw [Try.size24, hM.size]
  go_enter Try.func4, Try.ntmps4
  go_wp2_with (first | (refine wpList_load_row rfl 24 (.tmp 2) rfl _ rfl 24 V (0, 0) _ (heap_alloc_new w _) Try.underlying24 rfl HI.out ?_) | fail)
  refine (bytes20V hM _ _ hb).mono ?_
  rintro e w1 ⟨rfl, b1⟩
  have B1 : Below w.heap.size w w1 := ((Below.refl _ _).alloc (Nat.le_refl _) _).trans (b1.mono (by simp))
  have s1 : w.heap.size < w1.heap.size := by have := b1.size; simp at this; omega
  have A1 : Hid (w1.heap[w.heap.size]? = some (.cells V 24 (0, 0))) := below_at b1 (by simp) (heap_alloc_new w _)
  clear b1
  go_wp2_with (first | (refine wpList_load_row rfl 24 (.tmp 2) rfl _ rfl 24 V (0, 0) _ A1.out Try.underlying24 rfl HI.out ?_) | fail)
  refine (tooBig7V hM _ _ _ _ (by omega)).mono ?_
  rintro e w2 ⟨rfl, b2⟩
  have B2 : Below w.heap.size w w2 := B1.trans (b2.mono (by omega))
  have s2 : w.heap.size < w2.heap.size := Nat.lt_of_lt_of_le s1 b2.size
  have A2 : Hid (w2.heap[w.heap.size]? = some (.cells V 24 (0, 0))) := below_at b2 s1 A1.out
  clear b2 A1 B1 s1
  go_wp2_with (first | (refine wpList_load_row rfl 24 (.tmp 2) rfl _ rfl 24 V (0, 0) _ A2.out Try.underlying24 rfl HI.out ?_) | fail)
  refine (nulFree8V hM _ (by unfold maxLen; omega) (by unfold maxLen; omega) (by unfold maxLen; omega) (by unfold maxLen; omega) (by unfold maxLen; omega) u0 u3 u6 u10 u11).mono ?_
  rintro e w3 ⟨rfl, b3⟩
  have B3 : Below w.heap.size w w3 := B2.trans (b3.mono (by omega))
  have s3 : w.heap.size < w3.heap.size := Nat.lt_of_lt_of_le s2 b3.size
  have A3 : Hid (w3.heap[w.heap.size]? = some (.cells V 24 (0, 0))) := below_at b3 s2 A2.out
  clear b3 A2 B2 s2
  go_wp2_with (first | (refine wpList_load_row rfl 24 (.tmp 2) rfl _ rfl 24 V (0, 0) _ A3.out Try.underlying24 rfl HI.out ?_) | fail)
  refine (header21V hM _ hb).mono ?_
  rintro e w4 ⟨rfl, b4⟩
  have B4 : Below w.heap.size w w4 := B3.trans (b4.mono (by omega))
  generalize (17 + m.s0.size + m.s3.size + m.s6.size + m.s10.size + m.s11.size) = hd at *
  rcases hc with hc | hc
  · go_wp2
    go_ret
    exact ⟨rfl, B4⟩
  · by_cases hc0 : k < 0
    · go_wp2
      go_ret
      exact ⟨rfl, B4⟩
    · go_wp2
      go_ret
      exact ⟨rfl, B4⟩

end Go.Proofs.Qxb6602209a
