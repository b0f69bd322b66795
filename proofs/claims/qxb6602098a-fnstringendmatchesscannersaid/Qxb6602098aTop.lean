import Derived.Test.Qxb6602098aEnd
import Derived.WalkLawsBesides
import Derived.WalkSpells
import Derived.Laws.CopyOwn
import Derived.Deep.WholeRow
import Derived.Laws.Rows

namespace Go.Proofs.Qxb6602098a
open Go.ChangeShapes Go.WideShapes Go.ChangeAt Go.RowKit
set_option linter.unusedVariables false

theorem Try.info5 : (Try.prog.info? 5).map (fun i => (i.zero, i.size, i.bytes)) = some (some (.int .u8 0), 1, 1) := by kernel_rfl
theorem Try.size5 : (Try.prog.info? 5).map (·.size) = some 1 := by kernel_rfl

/-- 'make([]byte, n)'. -/
theorem make_bytes (n : Nat) (hn : n ≤ 1048576) : ∃ Z : List Value, Z.length = n ∧ ∀ w : World, (Instr.makeSlice 22 (.int .i64 n) (.int .i64 n)).run Try.prog w = .ok (.slice (some ⟨w.heap.size, 0, none⟩) n n) (w.alloc (.cells Z.toArray 5)) := by
  obtain ⟨i0, hi, hz0, hz1, hz2⟩ := info_parts Try.info5
  refine ⟨(madeCells (Value.int .u8 0).cells n).toList, by simp [size_madeCells], fun w => ?_⟩
  have hr := run_make (P := Try.prog) w 22 5 i0 _ Try.underlying22 hi hz0 .i64 .i64 n n (by omega) (Int.le_refl _) (by rw [hz2]; omega) (by omega)
  simpa [hz1] using hr

/-- The exported name. -/
theorem zse_any (l : Nat → Int) (b n s : Nat) (w : World) (hn : n ≤ 1048576) (hs : s < n) (hc : ∀ i, i < n → w.cell? ⟨b, i, none⟩ = some (.int .u8 (l i))) (hby : ∀ i, i < n → 0 ≤ l i ∧ l i < 256) :
    Calls Try.prog 9 #[.slice (some ⟨b, 0, none⟩) n n, .int .i64 s] w fun e w' => Post l s n e ∧ w' = w := by
  have h := se_any l b n s w hn hs hc hby
  clear hc hby
  go_enter Try.func9, Try.ntmps9
  go_wp2_with fail
  refine h.mono ?_
  rintro e w1 ⟨⟨r, x, rfl, hE⟩, rfl⟩
  go_wp2
  go_ret2
  exact ⟨⟨r, x, rfl, hE⟩, rfl⟩

theorem byte_wf {x : Int} (h : (Lit.int .u8 x).wf = true) : 0 ≤ x ∧ x < 256 := by
  have h1 : IntKind.u8.min = 0 := rfl
  have h2 : IntKind.u8.max = 255 := rfl
  simp only [Lit.wf, Bool.and_eq_true, decide_eq_true_eq] at h
  omega

theorem nil_eql (w : World) (a : Option Addr) (n c n' c' : Nat) : (binOp .eql 22 (.slice a n c) (.slice none n' c')).run Try.prog w = .ok (.bool a.isNone) w :=
  Lib.run_eql_slice_nil w _ _ a n c n' c' Try.underlying22

/-- 'copy' into the row just made: the new block holds the bytes. -/
theorem copy_new (w : World) (x : Addr) (n c : Nat) (Z C : List Value) (hZ : Z.length = n) (hC : C.length = n) (h1 : ∀ v ∈ C, v.oneCell' = true)
    (hsrc : ∀ j v, C[j]? = some v → w.cell? (x.add j) = some v) :
    (Builtin.copy_ #[22, 22] 3 #[.slice (some ⟨w.heap.size, 0, none⟩) n n, .slice (some x) n c]).run Try.prog (w.alloc (.cells Z.toArray 5)) = .ok (.int .i64 n) (w.alloc (.cells C.toArray 5)) := by
  have hr := run_copy_row (P := Try.prog) (w.alloc (.cells Z.toArray 5)) 22 22 3 5 w.heap.size 0 n n x n c Z.toArray 5 C Try.underlying22 Try.size5 (heap_alloc_new w _) (by simp [hC])
    (fun j v hj => by
      have h2 := hsrc j v hj
      have hlt : (x.add j).block < w.heap.size := block_lt_of_cell h2
      rw [World.cell?_alloc_lt _ _ _ hlt]; exact h2) (by simp [hC, hZ]) h1
  rw [hr, World.setRow_alloc_new]
  have : Z.toArray.toList.take 0 ++ C ++ Z.toArray.toList.drop (0 + C.length) = C := by simp [hC, hZ]
  rw [this, hC]
  rfl

/-- cloneBytes of a slice that is not nil. -/
theorem clone_any (x : Addr) (n c : Nat) (f : Nat → Int) (w : World) (hn : n ≤ 1048576) (hcell : ∀ i, i < n → w.cell? (x.add i) = some (.int .u8 (f i))) :
    Calls Try.prog 8 #[.slice (some x) n c] w fun e w' => e = .returned (.slice (some ⟨w.heap.size, 0, none⟩) n n) ∧ w' = w.alloc (.cells ((List.range n).map fun i => Value.int .u8 (f i)).toArray 5) := by
  obtain ⟨Z, hZ, hmk⟩ := make_bytes n hn
  have hq := nil_eql
  have hcp := copy_new w x n c Z ((List.range n).map fun i => Value.int .u8 (f i)) hZ (by simp) (fun v hv => by simp at hv; obtain ⟨z, _, rfl⟩ := hv; rfl)
    (fun j v hj => by
      have hjn : j < n := by have := (List.getElem?_eq_some_iff.1 hj).1; simpa using this
      simp [hjn] at hj
      rw [hcell j (by omega), ← hj])
  obtain ⟨W, hW⟩ : ∃ W, W = w.alloc (.cells ((List.range n).map fun i => Value.int .u8 (f i)).toArray 5) := ⟨_, rfl⟩
  rw [← hW] at hcp ⊢
  clear hcell hW
  go_enter Try.func8, Try.ntmps8
  go_wp2
  go_ret
  exact ⟨rfl, rfl⟩

/-- THE ROAD ON WHICH ALL IS ASKED. -/
theorem top_road (x : Addr) (n c s : Nat) (zs : List Int) (w : World) (hn : n ≤ 1048576) (hs : s < n) (hnc : n ≤ zs.length) (hcell : ∀ i, i < zs.length → w.cell? (x.add i) = some (.int .u8 (zs.getD i 0))) (hwz : ∀ z ∈ zs, (Lit.int .u8 z).wf = true) :
    Calls Try.prog 3 #[.slice (some x) n c, .int .i64 s] w fun e w' => e = .returned (.bool true) ∧ Below w.heap.size w w' := by
  have h1 : ¬ (1048576 < (n : Int)) := by omega
  have h2 : ¬ ((n : Int) ≤ (s : Int)) := by omega
  have c8 := clone_any x n c (fun i => zs.getD i 0) w hn (fun i hi => hcell i (by omega))
  obtain ⟨W, hW⟩ : ∃ W, W = w.alloc (.cells ((List.range n).map fun i => Value.int .u8 (zs.getD i 0)).toArray 5) := ⟨_, rfl⟩
  rw [← hW] at c8
  have hc : ∀ i, i < n → W.cell? ⟨w.heap.size, i, none⟩ = some (.int .u8 (zs.getD i 0)) := by
    intro i hi
    rw [hW, World.cell?_alloc_new]
    simp [hi]
  have hbel : Below w.heap.size w W := by rw [hW]; exact (Below.refl _ _).alloc (Nat.le_refl _) _
  have hby : ∀ i, i < n → 0 ≤ zs.getD i 0 ∧ zs.getD i 0 < 256 := by
    intro i hi
    refine byte_wf (hwz _ ?_)
    have : i < zs.length := by omega
    simp [this]
  have c9 := zse_any (fun i => zs.getD i 0) w.heap.size n s W hn hs hc hby
  have c10 := scan_any (fun i => zs.getD i 0) w.heap.size n n s W hn hs hc
  clear hcell hW hc hwz
  go_enter Try.func3, Try.ntmps3
  go_wp2_with (go_at_call 7; go_in)
  refine c8.mono ?_
  rintro e w1 ⟨rfl, rfl⟩
  go_wp2_with fail
  refine c9.mono ?_
  rintro e w1 ⟨⟨r, y, rfl, hE⟩, rfl⟩
  go_wp2_with fail
  refine c10.mono ?_
  rintro e w1 ⟨⟨r', y', rfl, hF⟩, rfl⟩
  obtain ⟨rfl, rfl⟩ := hE.unique hF
  go_wp2
  go_ret
  exact ⟨by simp, hbel⟩
end Go.Proofs.Qxb6602098a
