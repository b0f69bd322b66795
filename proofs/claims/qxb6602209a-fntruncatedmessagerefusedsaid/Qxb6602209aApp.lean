import Derived.Test.Qxb6602209aToMsg
import Derived.Deep.AppendSrc
import Derived.Deep.Upon
import Derived.Lib.AppendStr
import Derived.Laws.AppendOwn
namespace Go.Proofs.Qxb6602209a
open Go.ChangeShapes Go.WideShapes Go.ChangeAt Go.RowKit
set_option linter.unusedVariables false

/-- The block in which a slice lies. -/
def blk (ao : Option Addr) : Option Nat := ao.map (·.block)

/-- A slice of the call's own: nil, or at the head of a row of bytes that is not frozen; its first n cells are xs. -/
def Ow (w : World) (ao : Option Addr) (n c : Nat) (xs : List Value) : Prop :=
  xs.length = n ∧ ((ao = none ∧ n = 0 ∧ c = 0) ∨ ∃ g cur, ao = some ⟨g, 0, none⟩ ∧ w.heap[g]? = some (.cells cur 5 (0, 0)) ∧ n ≤ c ∧ c ≤ maxLen ∧ cur.size = c ∧ cur.toList.take n = xs)

/-- Behind an append: all old blocks but the slice's own are as they were; the new slice lies in the same block or in a new one. -/
structure Gr (w w' : World) (ao ao' : Option Addr) : Prop where
  os : w'.os = w.os
  tape : w'.tape = w.tape
  output : w'.output = w.output
  size : w.heap.size ≤ w'.heap.size
  keep : ∀ k, k < w.heap.size → some k ≠ blk ao → w'.heap[k]? = w.heap[k]?
  own : blk ao' = blk ao ∨ ∃ g, blk ao' = some g ∧ w.heap.size ≤ g

theorem Gr.refl (w : World) (ao : Option Addr) : Gr w w ao ao := ⟨rfl, rfl, rfl, Nat.le_refl _, fun _ _ _ => rfl, .inl rfl⟩
theorem Gr.trans {w w1 w2 : World} {a a1 a2 : Option Addr} (h : Gr w w1 a a1) (k : Gr w1 w2 a1 a2) : Gr w w2 a a2 := by
  refine ⟨k.os.trans h.os, k.tape.trans h.tape, k.output.trans h.output, Nat.le_trans h.size k.size, fun i hi hne => ?_, ?_⟩
  · rw [k.keep i (Nat.lt_of_lt_of_le hi h.size) (fun e => ?_), h.keep i hi hne]
    rcases h.own with h1 | ⟨g, h1, h2⟩
    · rw [h1] at e; exact hne e
    · rw [h1] at e; injection e with e; omega
  · rcases k.own with k1 | ⟨g, k1, k2⟩
    · rw [k1]
      rcases h.own with h1 | ⟨g, h1, h2⟩
      · exact .inl h1
      · exact .inr ⟨g, h1, h2⟩
    · exact .inr ⟨g, k1, Nat.le_trans h.size k2⟩
/-- A new block in between. -/
theorem Gr.alloc {w w1 : World} {a a1 : Option Addr} (h : Gr w w1 a a1) (o : Obj) : Gr w (w1.alloc o) a a1 :=
  ⟨h.os, h.tape, h.output, by have := h.size; simp; omega, fun k hk hne => (Below.heap_alloc _ _ _ (Nat.lt_of_lt_of_le hk h.size)).trans (h.keep k hk hne), h.own⟩
theorem Gr.drew {w w1 : World} {a a1 : Option Addr} (h : Gr w w1 a a1) : Gr w w1.drew a a1 := ⟨h.os, h.tape, h.output, h.size, h.keep, h.own⟩
theorem Gr.below {w w1 : World} {a a1 : Option Addr} {B : Nat} (h : Gr w w1 a a1) (hB : B ≤ w.heap.size) (ha : ∀ g, blk a = some g → B ≤ g) : Below B w w1 :=
  ⟨h.os, h.tape, h.output, h.size, fun k hk => h.keep k (by omega) (fun e => by have := ha k e.symm; omega)⟩

theorem Ow.alloc {w : World} {ao : Option Addr} {n c : Nat} {xs : List Value} (h : Ow w ao n c xs) (o : Obj) : Ow (w.alloc o) ao n c xs := by
  refine ⟨h.1, ?_⟩
  rcases h.2 with h2 | ⟨g, cur, h2, h3, h4⟩
  · exact .inl h2
  · exact .inr ⟨g, cur, h2, (Below.heap_alloc _ _ _ ((Array.getElem?_eq_some_iff.1 h3).1)).trans h3, h4⟩
theorem Ow.drew {w : World} {ao : Option Addr} {n c : Nat} {xs : List Value} (h : Ow w ao n c xs) : Ow w.drew ao n c xs := h

/-- THE LAW ON append, FROM WHATEVER SOURCE. -/
theorem run_app (w : World) {ao : Option Addr} {n c : Nat} {xs : List Value} (h : Ow w ao n c xs) {tx : TypeId} {x : Value} {m : Nat} {news : List Value} (hs : Src Try.prog 1 tx x m news w) (hb : n + m ≤ 1073741824) (ty : TypeId)
    (hroom : ∀ g cur, w.heap[g]? = some (.cells cur 5 (0, 0)) → n + m ≤ c → n + m ≤ cur.size →
      (Builtin.append_ #[22, tx] ty #[.slice (some ⟨g, 0, none⟩) n c, x]).run Try.prog w = .ok (.slice (some ⟨g, 0, none⟩) (n + m) c) (w.setRow g (cur.toList.take n ++ news ++ cur.toList.drop (n + m)).toArray)) :
    ∃ ao' c' w', (Builtin.append_ #[22, tx] ty #[.slice ao n c, x]).run Try.prog w = .ok (.slice ao' (n + m) c') w' ∧ Ow w' ao' (n + m) c' (xs ++ news) ∧ Gr w w' ao ao' := by
  obtain ⟨i0, hi, hz0, hz1, hz2⟩ := info_parts Try.info5
  have hl : news.length = m := by simpa using hs.newsLen
  have hxl := h.1
  have hs' : Src Try.prog i0.size tx x m news w := by rw [hz1]; exact hs
  by_cases hm : m = 0
  · subst hm
    have hn : news = [] := List.eq_nil_of_length_eq_zero hl
    subst hn
    have hle : n ≤ c := by
      rcases h.2 with ⟨_, h1, h2⟩ | ⟨g, cur, _, _, h4, _⟩
      · omega
      · exact h4
    exact ⟨ao, c, w, run_append_nothing (P := Try.prog) w 22 tx ty 5 i0 Try.underlying22 hi ao n c hle x hs', by simpa using h, Gr.refl _ _⟩
  · have grown : ∀ (old : Nat) (base : Option Addr), old < n + m → (Builtin.firstCells i0.size n (.slice base n old)).run Try.prog w.drew = .ok xs.toArray w.drew →
        ∃ ao' c' w', (Builtin.append_ #[22, tx] ty #[.slice base n old, x]).run Try.prog w = .ok (.slice ao' (n + m) c') w' ∧ Ow w' ao' (n + m) c' (xs ++ news) ∧ Gr w w' base ao' := by
      intro old base ho hold
      have hr := run_append_grow_src (P := Try.prog) w 22 tx ty 5 i0 (.int .u8 0) Try.underlying22 hi hz0 base n old xs hold x m news hs' ho (by omega) (growslice_fits ho (by rw [hz2]; omega))
      have hge := grownCap_ge w (n + m) old 5
      have hcm : grownCap w (n + m) old 5 ≤ maxLen := grownCap_le_maxLen w (n + m) old 5 (by unfold maxLen; omega)
      refine ⟨_, _, _, hr, ⟨by simp [hxl, hl], .inr ⟨w.heap.size, _, rfl, heap_alloc_new w.drew _, hge, hcm, ?_, ?_⟩⟩, ⟨rfl, rfl, rfl, by simp, fun k hk _ => Below.heap_alloc w.drew _ k hk, .inr ⟨w.heap.size, rfl, Nat.le_refl _⟩⟩⟩
      · have hz1' : (Value.int IntKind.u8 0).cells.size = 1 := rfl
        simp only [Array.size_append, List.size_toArray, size_zeroCells, hz1', List.length_append, hxl, hl]
        omega
      · rw [Array.toList_append]
        have : n + m = (xs ++ news).length := by simp [hxl, hl]
        rw [this]
        exact List.take_left
    rcases h.2 with ⟨rfl, rfl, rfl⟩ | ⟨g, cur, rfl, hg, hnc, hcm, hcs, htake⟩
    · have hx : xs = [] := List.eq_nil_of_length_eq_zero hxl
      subst hx
      exact grown 0 none (by omega) (run_firstCells_none w.drew i0.size 0 0 0)
    · by_cases hfit : n + m ≤ c
      · refine ⟨_, _, _, hroom g cur hg hfit (by omega), ⟨by simp [hxl, hl], .inr ⟨g, _, rfl, setRow_heap w g cur _ 5 _ hg, hfit, hcm, ?_, ?_⟩⟩, ⟨rfl, rfl, rfl, by simp, fun k _ hk => setRow_other w g k _ (fun e => hk (by simp [blk, e])), .inl rfl⟩⟩
        · simp only [List.size_toArray, List.length_append, List.length_take, List.length_drop, Array.length_toList, hl]
          omega
        · rw [htake]
          have : n + m = (xs ++ news).length := by simp [hxl, hl]
          rw [this]
          exact List.take_left
      · refine grown c (some ⟨g, 0, none⟩) (by omega) (run_firstCells_some w.drew i0.size n ⟨g, 0, none⟩ n c xs (by rw [hz1, hxl, Nat.mul_one]) (fun j u hu => ?_))
        have hadd : (⟨g, 0, none⟩ : Addr).add j = ⟨g, j, none⟩ := by unfold Addr.add; split <;> simp_all
        show w.cell? _ = _
        rw [hadd, cell_of_row w g j cur 5 (0, 0) hg]
        rw [← htake] at hu
        have hj : j < n := by
          have := (List.getElem?_eq_some_iff.1 hu).1
          simp at this; omega
        rw [List.getElem?_take_of_lt hj] at hu
        simpa using hu

/-- append(v, s...), s a string. -/
theorem run_app_string (w : World) {ao : Option Addr} {n c : Nat} {xs : List Value} (h : Ow w ao n c xs) (s : ByteArray) (hb : n + s.size ≤ 1073741824) (ty : TypeId) :
    ∃ ao' c' w', (Builtin.append_ #[22, 9] ty #[.slice ao n c, .string s]).run Try.prog w = .ok (.slice ao' (n + s.size) c') w' ∧ Ow w' ao' (n + s.size) c' (xs ++ Lib.strCells s) ∧ Gr w w' ao ao' := by
  obtain ⟨i0, hi, hz0, hz1, hz2⟩ := info_parts Try.info5
  exact run_app w h (Src.ofString w Try.underlying9 s) hb ty (fun g cur hg h1 h2 => Lib.run_append_room_string (P := Try.prog) w 22 9 ty 5 i0 Try.underlying22 Try.underlying9 hi hz1 g n c cur hg s h1 h2)

/-- append(v, x...), x a slice that lies somewhere. -/
theorem run_app_slice (w : World) {ao : Option Addr} {n c : Nat} {xs : List Value} (h : Ow w ao n c xs) (a : Addr) (m k : Nat) (news : List Value) (hl : news.length = m) (hnews : ∀ j u, news[j]? = some u → w.cell? (a.add j) = some u) (h1 : ∀ u ∈ news, u.oneCell' = true) (hb : n + m ≤ 1073741824) (ty : TypeId) :
    ∃ ao' c' w', (Builtin.append_ #[22, 22] ty #[.slice ao n c, .slice (some a) m k]).run Try.prog w = .ok (.slice ao' (n + m) c') w' ∧ Ow w' ao' (n + m) c' (xs ++ news) ∧ Gr w w' ao ao' := by
  obtain ⟨i0, hi, hz0, hz1, hz2⟩ := info_parts Try.info5
  refine run_app w h (Src.ofSlice w Try.underlying22 a m k news (by simpa using hl) hnews h1) hb ty (fun g cur hg h2 h3 => ?_)
  have := run_append_room (P := Try.prog) w 22 ty 5 i0 Try.underlying22 hi g n c cur hg a m k news (by rw [hz1, hl, Nat.mul_one]) hnews h1 h2 (by rw [hz1, hl]; omega)
  rw [hz1, Nat.mul_one, hl] at this
  exact this

/-- append(v, nil...). -/
theorem run_app_nil (w : World) {ao : Option Addr} {n c : Nat} {xs : List Value} (h : Ow w ao n c xs) (ty : TypeId) :
    (Builtin.append_ #[22, 22] ty #[.slice ao n c, .slice none 0 0]).run Try.prog w = .ok (.slice ao n c) w := by
  obtain ⟨i0, hi, hz0, hz1, hz2⟩ := info_parts Try.info5
  have hle : n ≤ c := by
    rcases h.2 with ⟨_, h1, h2⟩ | ⟨g, cur, _, _, h4, _⟩
    · omega
    · exact h4
  exact run_append_nothing (P := Try.prog) w 22 22 ty 5 i0 Try.underlying22 hi ao n c hle _ (Src.ofNil w Try.underlying22 0)
end Go.Proofs.Qxb6602209a
