import Derived.Test.Qxb6602209aHelp
namespace Go.Proofs.Qxb6602209a
open Go.ChangeShapes Go.WideShapes Go.ChangeAt Go.RowKit
set_option linter.unusedVariables false

theorem In.len {w : World} {a : Option Addr} {len cap : Nat} {zs : List Int} (h : In w a len cap zs) : len ≤ maxLen := by
  rcases h with ⟨_, h, _⟩ | ⟨x, _, h1, h2, _⟩
  · omega
  · omega

theorem bytes6_noV {V : Array Value} {m : M} (hM : IsM V m) (a : Option Addr) (n c : Nat) (w : World) (h : 1048576 < n + m.s0.size + m.s3.size + m.s6.size + m.s10.size + m.s11.size + m.nS + m.nO)
    (h0 : n ≤ maxLen) (h1 : m.s0.size ≤ maxLen) (h2 : m.s3.size ≤ maxLen) (h3 : m.s6.size ≤ maxLen) (h4 : m.s10.size ≤ maxLen) (h5 : m.s11.size ≤ maxLen) (h6 : m.nS ≤ maxLen) (h7 : m.nO ≤ maxLen) :
    Calls Try.prog 6 #[.slice a n c, .agg V] w fun e w' => e = .returned (.bool false) ∧ Below w.heap.size w w' := by
  rw [hM.eq]
  refine (bytes6_no a n c m w h h0 h1 h2 h3 h4 h5 h6 h7).mono ?_
  rintro e w' ⟨rfl, rfl⟩
  exact ⟨rfl, (Below.refl _ _).alloc (Nat.le_refl _) _⟩
theorem nulFree8_noV {V : Array Value} {m : M} (hM : IsM V m) (w : World) (h0 : m.s0.size ≤ maxLen) (h3 : m.s3.size ≤ maxLen) (h6 : m.s6.size ≤ maxLen) (h10 : m.s10.size ≤ maxLen) (h11 : m.s11.size ≤ maxLen)
    (h : ¬ (nul m.s0 = false ∧ nul m.s3 = false ∧ nul m.s6 = false ∧ nul m.s10 = false ∧ nul m.s11 = false)) :
    Calls Try.prog 8 #[.agg V] w fun e w' => e = .returned (.bool false) ∧ Below w.heap.size w w' := by
  rw [hM.eq]
  refine (nulFree8_no m w h0 h3 h6 h10 h11 h).mono ?_
  rintro e w' ⟨rfl, rfl⟩
  exact ⟨rfl, (Below.refl _ _).alloc (Nat.le_refl _) _⟩

set_option maxHeartbeats 2000000 in
theorem law3_big (a0 : Option Addr) (n0 c0 : Nat) (V : Array Value) (m : M) (hM : IsM V m) (w : World)
    (h : 1048576 < n0 + m.s0.size + m.s3.size + m.s6.size + m.s10.size + m.s11.size + m.nS + m.nO)
    (h0 : n0 ≤ maxLen) (h1 : m.s0.size ≤ maxLen) (h2 : m.s3.size ≤ maxLen) (h3 : m.s6.size ≤ maxLen) (h4 : m.s10.size ≤ maxLen) (h5 : m.s11.size ≤ maxLen) (h6 : m.nS ≤ maxLen) (h7 : m.nO ≤ maxLen) :
    Calls Try.prog 3 #[.slice a0 n0 c0, .agg V] w fun e w' => e = .returned (.bool true) ∧ Below w.heap.size w w' := by
  have HI : Hid ((Try.prog.info? 24).map (·.size) = some V.size) := by show _ = _; rw [Try.size24, hM.size]
  go_enter Try.func3, Try.ntmps3
  go_wp2_with (first | (refine wpList_load_row rfl 24 (.tmp 3) rfl _ rfl 24 V (0, 0) _ (heap_alloc_new w _) Try.underlying24 rfl HI.out ?_) | fail)
  refine (bytes6_noV hM _ _ _ _ h h0 h1 h2 h3 h4 h5 h6 h7).mono ?_
  rintro e w1 ⟨rfl, b1⟩
  have B1 : Below w.heap.size w w1 := ((Below.refl _ _).alloc (Nat.le_refl _) _).trans (b1.mono (by simp))
  go_wp2
  go_ret
  exact ⟨rfl, B1⟩

set_option maxHeartbeats 2000000 in
theorem law3_nul (a0 : Option Addr) (n0 c0 : Nat) (V : Array Value) (m : M) (hM : IsM V m) (w : World)
    (hb : n0 + m.s0.size + m.s3.size + m.s6.size + m.s10.size + m.s11.size + m.nS + m.nO ≤ 1048576)
    (u : ¬ (nul m.s0 = false ∧ nul m.s3 = false ∧ nul m.s6 = false ∧ nul m.s10 = false ∧ nul m.s11 = false)) :
    Calls Try.prog 3 #[.slice a0 n0 c0, .agg V] w fun e w' => e = .returned (.bool true) ∧ Below w.heap.size w w' := by
  have HI : Hid ((Try.prog.info? 24).map (·.size) = some V.size) := by show _ = _; rw [Try.size24, hM.size]
  go_enter Try.func3, Try.ntmps3
  go_wp2_with (first | (refine wpList_load_row rfl 24 (.tmp 3) rfl _ rfl 24 V (0, 0) _ (heap_alloc_new w _) Try.underlying24 rfl HI.out ?_) | fail)
  refine (bytes6V hM _ _ _ _ hb).mono ?_
  rintro e w1 ⟨rfl, b1⟩
  have B1 : Below w.heap.size w w1 := ((Below.refl _ _).alloc (Nat.le_refl _) _).trans (b1.mono (by simp))
  have s1 : w.heap.size < w1.heap.size := by have := b1.size; simp at this; omega
  have A1 : Hid (w1.heap[w.heap.size]? = some (.cells V 24 (0, 0))) := below_at b1 (by simp) (heap_alloc_new w _)
  clear b1
  go_wp2_with (first | (refine wpList_load_row rfl 24 (.tmp 3) rfl _ rfl 24 V (0, 0) _ A1.out Try.underlying24 rfl HI.out ?_) | fail)
  refine (tooBig7V hM _ _ _ _ hb).mono ?_
  rintro e w2 ⟨rfl, b2⟩
  have B2 : Below w.heap.size w w2 := B1.trans (b2.mono (by omega))
  have s2 : w.heap.size < w2.heap.size := Nat.lt_of_lt_of_le s1 b2.size
  have A2 : Hid (w2.heap[w.heap.size]? = some (.cells V 24 (0, 0))) := below_at b2 s1 A1.out
  clear b2 A1 B1 s1
  go_wp2_with (first | (refine wpList_load_row rfl 24 (.tmp 3) rfl _ rfl 24 V (0, 0) _ A2.out Try.underlying24 rfl HI.out ?_) | fail)
  refine (nulFree8_noV hM _ (by unfold maxLen; omega) (by unfold maxLen; omega) (by unfold maxLen; omega) (by unfold maxLen; omega) (by unfold maxLen; omega) u).mono ?_
  rintro e w3 ⟨rfl, b3⟩
  have B3 : Below w.heap.size w w3 := B2.trans (b3.mono (by omega))
  go_wp2
  go_ret
  exact ⟨rfl, B3⟩

set_option maxHeartbeats 2000000 in
theorem law3_long (a0 : Option Addr) (n0 c0 : Nat) (V : Array Value) (m : M) (hM : IsM V m) (w : World)
    (hb : n0 + m.s0.size + m.s3.size + m.s6.size + m.s10.size + m.s11.size + m.nS + m.nO ≤ 1048576)
    (u0 : nul m.s0 = false) (u3 : nul m.s3 = false) (u6 : nul m.s6 = false) (u10 : nul m.s10 = false) (u11 : nul m.s11 = false) (h255 : 255 < m.nS) :
    Calls Try.prog 3 #[.slice a0 n0 c0, .agg V] w fun e w' => e = .returned (.bool true) ∧ Below w.heap.size w w' := by
  have HI : Hid ((Try.prog.info? 24).map (·.size) = some V.size) := by show _ = _; rw [Try.size24, hM.size]
  go_enter Try.func3, Try.ntmps3
  go_wp2_with (first | (refine wpList_load_row rfl 24 (.tmp 3) rfl _ rfl 24 V (0, 0) _ (heap_alloc_new w _) Try.underlying24 rfl HI.out ?_) | fail)
  refine (bytes6V hM _ _ _ _ hb).mono ?_
  rintro e w1 ⟨rfl, b1⟩
  have B1 : Below w.heap.size w w1 := ((Below.refl _ _).alloc (Nat.le_refl _) _).trans (b1.mono (by simp))
  have s1 : w.heap.size < w1.heap.size := by have := b1.size; simp at this; omega
  have A1 : Hid (w1.heap[w.heap.size]? = some (.cells V 24 (0, 0))) := below_at b1 (by simp) (heap_alloc_new w _)
  clear b1
  go_wp2_with (first | (refine wpList_load_row rfl 24 (.tmp 3) rfl _ rfl 24 V (0, 0) _ A1.out Try.underlying24 rfl HI.out ?_) | fail)
  refine (tooBig7V hM _ _ _ _ hb).mono ?_
  rintro e w2 ⟨rfl, b2⟩
  have B2 : Below w.heap.size w w2 := B1.trans (b2.mono (by omega))
  have s2 : w.heap.size < w2.heap.size := Nat.lt_of_lt_of_le s1 b2.size
  have A2 : Hid (w2.heap[w.heap.size]? = some (.cells V 24 (0, 0))) := below_at b2 s1 A1.out
  clear b2 A1 B1 s1
  go_wp2_with (first | (refine wpList_load_row rfl 24 (.tmp 3) rfl _ rfl 24 V (0, 0) _ A2.out Try.underlying24 rfl HI.out ?_) | fail)
  refine (nulFree8V hM _ (by unfold maxLen; omega) (by unfold maxLen; omega) (by unfold maxLen; omega) (by unfold maxLen; omega) (by unfold maxLen; omega) u0 u3 u6 u10 u11).mono ?_
  rintro e w3 ⟨rfl, b3⟩
  have B3 : Below w.heap.size w w3 := B2.trans (b3.mono (by omega))
  have s3 : w.heap.size < w3.heap.size := Nat.lt_of_lt_of_le s2 b3.size
  have A3 : w3.heap[w.heap.size]? = some (.cells V 24 (0, 0)) := below_at b3 s2 A2.out
  have x16 : w3.cell? ⟨w.heap.size, 16, none⟩ = some (.slice m.aS m.nS m.cS) := cellOf A3 hM.f16
  clear b3 A2 B2 s2 A3
  go_wp2
  go_ret
  exact ⟨rfl, B3⟩

end Go.Proofs.Qxb6602209a
