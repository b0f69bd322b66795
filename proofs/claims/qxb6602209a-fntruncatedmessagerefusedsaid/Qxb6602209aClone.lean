import Derived.Test.Qxb6602209aRows
import Derived.Test.Qxb6602209aMsg
import Derived.WalkKit
import Derived.ProofKit
import Derived.Below
import Derived.WalkLawsBesides
import Derived.WalkSpells
import Derived.Laws.Rows
import Derived.Deep.WholeRow
import Derived.Laws.CopyOwn
import Derived.Laws.Tables
namespace Go.Proofs.Qxb6602209a
open Go.ChangeShapes Go.WideShapes Go.ChangeAt Go.RowKit
set_option linter.unusedVariables false

theorem add_zero_block (b o i : Nat) : (⟨b, o, none⟩ : Addr).add i = ⟨b, o + i, none⟩ := by
  unfold Addr.add; split <;> simp_all

theorem Try.info5 : (Try.prog.info? 5).map (fun i => (i.zero, i.size, i.bytes)) = some (some (.int .u8 0), 1, 1) := by kernel_rfl

/-- A row of n bytes of which the first k are told by f, the rest 0. -/
def row (f : Nat → Int) (n k : Nat) : List Value := (List.range n).map fun i => Value.int .u8 (if i < k then f i else 0)
theorem row_length (f : Nat → Int) (n k : Nat) : (row f n k).length = n := by simp [row]
theorem row_get (f : Nat → Int) (n k i : Nat) (h : i < n) : (row f n k)[i]? = some (Value.int .u8 (if i < k then f i else 0)) := by simp [row, h]
theorem row_set (f : Nat → Int) (n k : Nat) (h : k < n) : (row f n k).set k (Value.int .u8 (f k)) = row f n (k + 1) := by
  apply List.ext_getElem?
  intro i
  rw [List.getElem?_set]
  by_cases hi : i < n
  · rw [row_get _ _ _ _ hi, row_get _ _ _ _ hi]
    by_cases e : k = i
    · subst e; simp [row_length, h]
    · rw [if_neg e]
      by_cases h1 : i < k
      · rw [if_pos h1, if_pos (by omega)]
      · rw [if_neg h1, if_neg (by omega)]
  · have e : ¬ k = i := by omega
    rw [if_neg e, List.getElem?_eq_none (by rw [row_length]; omega), List.getElem?_eq_none (by rw [row_length]; omega)]

/-- 'make([]byte, n)'. -/
theorem make_bytes (f : Nat → Int) (n : Nat) (hn : n ≤ 1048576) (w : World) : (Instr.makeSlice 22 (.int .i64 n) (.int .i64 n)).run Try.prog w = .ok (.slice (some ⟨w.heap.size, 0, none⟩) n n) (w.alloc (.cells (row f n 0).toArray 5)) := by
  obtain ⟨i0, hi, hz0, hz1, hz2⟩ := info_parts Try.info5
  have hr := run_make (P := Try.prog) w 22 5 i0 _ Try.underlying22 hi hz0 .i64 .i64 n n (by omega) (Int.le_refl _) (by rw [hz2]; omega) (by omega)
  have e : madeCells (Value.int .u8 0).cells n = (row f n 0).toArray := by
    apply Array.ext'
    apply List.ext_getElem?
    intro i
    by_cases h : i < n
    · rw [row_get _ _ _ _ h]; simp [madeCells, h, Value.cells, Nat.mod_one]
    · simp [madeCells, row, h]
  rw [← e]
  simpa [hz1] using hr

theorem nil_eql (w : World) (a : Option Addr) (n c n' c' : Nat) : (binOp .eql 22 (.slice a n c) (.slice none n' c')).run Try.prog w = .ok (.bool a.isNone) w :=
  Lib.run_eql_slice_nil w _ _ a n c n' c' Try.underlying22

theorem clone_any (x : Addr) (n c : Nat) (f : Nat → Int) (w : World) (hn : n ≤ 1048576) (hc : ∀ i, i < n → w.cell? (x.add i) = some (.int .u8 (f i))) :
    Calls Try.prog 9 #[.slice (some x) n c] w fun e w' => e = .returned (.slice (some ⟨w.heap.size, 0, none⟩) n n) ∧ w' = w.alloc (.cells (row f n n).toArray 5) := by
  have hmk := fun w => make_bytes f n hn w
  have hq := nil_eql
  go_enter Try.func9, Try.ntmps9
  go_wp2
  go_loopw [4] (fun i wr => ∃ k : Nat, k ≤ n ∧ i = .int .i64 (k : Int) ∧ wr = w.alloc (.cells (row f n k).toArray 5)) (fun i _ => n - (intOf i).toNat)
  case atStart => exact ⟨0, by omega, by go_num, rfl⟩
  case round =>
    obtain ⟨k, hk, rfl, rfl⟩ := hrel
    by_cases hlt : k < n
    · have hce := hc k hlt
      obtain ⟨b, o, spot⟩ := x
      have hspot : spot = none := by
        have h0 := hc 0 (by omega)
        simpa [Addr.add] using World.cell?_spot h0
      subst hspot
      rw [add_zero_block] at hce
      have hb : b < w.heap.size := block_lt_of_cell hce
      have hrow := row_get f n k k hlt
      have hlen := row_length f n k
      have hset := row_set f n k hlt
      clear hc
      go_wp2
      go_roundw
      case rel => exact ⟨k + 1, by omega, by go_num, rfl⟩
      case measure => simp [intOf]; omega
    · obtain rfl : k = n := by omega
      clear hc
      go_wp2
      go_ret
      exact ⟨rfl, rfl⟩

theorem clone_nil (w : World) : Calls Try.prog 9 #[.slice none 0 0] w fun e w' => e = .returned (.slice none 0 0) ∧ w' = w := by
  have hq := nil_eql
  go_enter Try.func9, Try.ntmps9
  go_wp2
  go_ret
  exact ⟨rfl, rfl⟩

theorem Try.size24 : (Try.prog.info? 24).map (·.size) = some 18 := by kernel_rfl
theorem Try.size32 : (Try.prog.info? 32).map (·.size) = some 18 := by kernel_rfl

/-- A whole struct (or array) of k cells into its block. -/
theorem stRow {w : World} {ops : Array Oper} {rest : List Oper} {o : Oper} {a : Act} {Q : Exit → Act → World → Prop} (k : Nat) (ty : TypeId) (hk : (Try.prog.info? ty).map (·.size) = some k)
    (hgd : o.guard = none) (x y : Operand) (ho : o.op = .store ty x y)
    (g : Nat) (hx : a.eval x = .pointer (some ⟨g, 0, none⟩)) (V Z : Array Value) (hy : a.eval y = .agg V) (t : TypeId) (hg : w.heap[g]? = some (.cells Z t (0, 0))) (hZ : Z.size = k) (hV : V.size = k) (h1 : V.all (·.oneCell') = true)
    (h : wpList Try.prog ops Q rest (a.put o.dst undef) (w.setRow g V)) : wpList Try.prog ops Q (o :: rest) a w := by
  refine wpList_plain hgd fun K hK => ?_
  unfold Oper.wp execOp
  simp only [ho, hx, hy, Instr.storeAt, Instr.sureAddr, Sem.run_bind, Sem.run_pure, Result.andThen_ok, run_storeVar_row (P := Try.prog) w g t ty Z V hg (by rw [hk, hV]) (by rw [hZ, hV]) h1]
  exact hK _ _ h

theorem heap3_last (w : World) (A B C : Obj) : (((w.alloc A).alloc B).alloc C).heap[w.heap.size + 1 + 1]? = some C := by
  have := heap_alloc_new ((w.alloc A).alloc B) C
  simpa using this

/-- The same into the third of three new blocks. -/
theorem stRow3 {w : World} {A B : Obj} {ops : Array Oper} {rest : List Oper} {o : Oper} {a : Act} {Q : Exit → Act → World → Prop} (k : Nat) (ty : TypeId) (hk : (Try.prog.info? ty).map (·.size) = some k)
    (hgd : o.guard = none) (x y : Operand) (ho : o.op = .store ty x y)
    (hx : a.eval x = .pointer (some ⟨w.heap.size + 1 + 1, 0, none⟩)) (V Z : Array Value) (hy : a.eval y = .agg V) (t : TypeId) (hZ : Z.size = k) (hV : V.size = k) (h1 : V.all (·.oneCell') = true)
    (h : wpList Try.prog ops Q rest (a.put o.dst undef) (((w.alloc A).alloc B).alloc (.cells V t))) : wpList Try.prog ops Q (o :: rest) a (((w.alloc A).alloc B).alloc (.cells Z t)) := by
  refine stRow k ty hk hgd x y ho _ hx V Z hy t (heap3_last w A B _) hZ hV h1 ?_
  have e := World.setRow_alloc_new ((w.alloc A).alloc B) Z V t
  have e2 : ((w.alloc A).alloc B).heap.size = w.heap.size + 1 + 1 := by simp
  rw [e2] at e
  rw [e]
  exact h

/-- A slice of n bytes, told by g: nil, or lying in memory in a block from B on. -/
def Sl (w : World) (B : Nat) (ao : Option Addr) (n c : Nat) (g : Nat → Int) : Prop :=
  (ao = none ∧ n = 0 ∧ c = 0) ∨ ∃ b o, ao = some ⟨b, o, none⟩ ∧ B ≤ b ∧ n ≤ c ∧ ∀ i, i < n → w.cell? ⟨b, o + i, none⟩ = some (.int .u8 (g i))

theorem Sl.below {B : Nat} {w w' : World} {ao : Option Addr} {n c : Nat} {g : Nat → Int} (h : Sl w B ao n c g) (hb : Below w.heap.size w w') : Sl w' B ao n c g := by
  rcases h with h | ⟨b, o, h1, h0, h2, h3⟩
  · exact .inl h
  · refine .inr ⟨b, o, h1, h0, h2, fun i hi => ?_⟩
    have h4 := h3 i hi
    exact (hb.cell (block_lt_of_cell h4)).trans h4

theorem Sl.other {B : Nat} {w w' : World} {ao : Option Addr} {n c g : Nat} {f : Nat → Int} (h : Sl w B ao n c f) (hg : g < B) (hk : ∀ k, k ≠ g → w'.heap[k]? = w.heap[k]?) : Sl w' B ao n c f := by
  rcases h with h | ⟨b, o, h1, h0, h2, h3⟩
  · exact .inl h
  · refine .inr ⟨b, o, h1, h0, h2, fun i hi => ?_⟩
    rw [← h3 i hi]
    exact World.cell?_of_block (w := w) (hk b (by omega))
theorem Sl.setCell {B : Nat} {w : World} {ao : Option Addr} {n c g i : Nat} {f : Nat → Int} (h : Sl w B ao n c f) (hg : g < B) (v : Value) : Sl (w.setCell ⟨g, i, none⟩ v) B ao n c f :=
  h.other hg (fun k hk => heap_setCell_other w ⟨g, i, none⟩ k v hk)
theorem Sl.setRow {B : Nat} {w : World} {ao : Option Addr} {n c g : Nat} {f : Nat → Int} (h : Sl w B ao n c f) (hg : g < B) (V : Array Value) : Sl (w.setRow g V) B ao n c f :=
  h.other hg (fun k hk => setRow_other w g k V (by omega))
theorem Sl.weak {B C : Nat} {w : World} {ao : Option Addr} {n c : Nat} {f : Nat → Int} (h : Sl w B ao n c f) (hg : C ≤ B) : Sl w C ao n c f := by
  rcases h with h | ⟨b, o, h1, h0, h2, h3⟩
  · exact .inl h
  · exact .inr ⟨b, o, h1, by omega, h2, h3⟩

/-- What comes in. -/
def In (w : World) (a : Option Addr) (len cap : Nat) (zs : List Int) : Prop :=
  (a = none ∧ len = 0 ∧ cap = 0 ∧ zs = []) ∨
  ∃ x, a = some x ∧ len ≤ cap ∧ cap ≤ maxLen ∧ zs.length = cap ∧ (∀ i, i < zs.length → w.cell? (x.add i) = some (.int .u8 (zs.getD i 0))) ∧ ∀ n ∈ zs, (Lit.int .u8 n).wf = true

theorem In.below {w w' : World} {a : Option Addr} {len cap : Nat} {zs : List Int} (h : In w a len cap zs) (hb : Below w.heap.size w w') : In w' a len cap zs := by
  rcases h with h | ⟨x, h1, h2, h3, h4, h5, h6⟩
  · exact .inl h
  · refine .inr ⟨x, h1, h2, h3, h4, fun i hi => ?_, h6⟩
    have h7 := h5 i hi
    exact (hb.cell (block_lt_of_cell h7)).trans h7

theorem byte_wf {x : Int} (h : (Lit.int .u8 x).wf = true) : 0 ≤ x ∧ x < 256 := by
  have h1 : IntKind.u8.min = 0 := rfl
  have h2 : IntKind.u8.max = 255 := rfl
  simp only [Lit.wf, Bool.and_eq_true, decide_eq_true_eq] at h
  omega

theorem In.bytes {w : World} {a : Option Addr} {len cap : Nat} {zs : List Int} (h : In w a len cap zs) : ∀ i, i < len → 0 ≤ zs.getD i 0 ∧ zs.getD i 0 < 256 := by
  rcases h with ⟨_, h, _⟩ | ⟨x, h1, h2, h3, h4, h5, h6⟩
  · intro i hi; omega
  · intro i hi
    refine byte_wf (h6 _ ?_)
    have : i < zs.length := by omega
    simp [this]

theorem clone_sl {w : World} {a : Option Addr} {len cap : Nat} {zs : List Int} (h : In w a len cap zs) (hn : len ≤ 1048576) :
    Calls Try.prog 9 #[.slice a len cap] w fun e w' => ∃ ao, e = .returned (.slice ao len len) ∧ Sl w' w.heap.size ao len len (fun i => zs.getD i 0) ∧ Below w.heap.size w w' := by
  rcases h with ⟨rfl, rfl, rfl, rfl⟩ | ⟨x, rfl, h2, h3, h4, h5, h6⟩
  · refine (clone_nil w).mono ?_
    rintro e w' ⟨rfl, rfl⟩
    exact ⟨none, rfl, .inl ⟨rfl, rfl, rfl⟩, Below.refl _ _⟩
  · refine (clone_any x len cap (fun i => zs.getD i 0) w hn (fun i hi => h5 i (by omega))).mono ?_
    rintro e w' ⟨rfl, rfl⟩
    refine ⟨_, rfl, .inr ⟨_, 0, rfl, Nat.le_refl _, Nat.le_refl _, fun i hi => ?_⟩, (Below.refl _ _).alloc (Nat.le_refl _) _⟩
    rw [Nat.zero_add, World.cell?_alloc_new]
    have := row_get (fun i => zs.getD i 0) len len i hi
    rw [if_pos hi] at this
    simpa using this

theorem cellOf {w : World} {g j : Nat} {V : Array Value} {t : TypeId} {v : Value} (hg : w.heap[g]? = some (.cells V t (0, 0))) (hv : V[j]? = some v) : w.cell? ⟨g, j, none⟩ = some v := by
  rw [cell_of_row w g j V t (0, 0) hg, hv]

theorem three (w : World) (A B C : Obj) : (((w.alloc A).alloc B).alloc C).heap[w.heap.size]? = some A ∧ (((w.alloc A).alloc B).alloc C).heap[w.heap.size + 1]? = some B ∧ (((w.alloc A).alloc B).alloc C).heap[w.heap.size + 1 + 1]? = some C ∧
    w.heap.size + 1 + 1 < (((w.alloc A).alloc B).alloc C).heap.size ∧ Below w.heap.size w (((w.alloc A).alloc B).alloc C) := by
  refine ⟨?_, ?_, heap3_last w A B C, by simp, (((Below.refl _ _).alloc (Nat.le_refl _) _).alloc (by simp) _).alloc (by simp; omega) _⟩
  · exact (Below.heap_alloc _ _ _ (by simp; omega)).trans ((Below.heap_alloc _ _ _ (by simp)).trans (heap_alloc_new w A))
  · exact (Below.heap_alloc _ _ _ (by simp)).trans (heap_alloc2_new w A B)

theorem all_set {V : Array Value} {i : Nat} {v : Value} (h : V.all (·.oneCell') = true) (hv : v.oneCell' = true) : (V.setIfInBounds i v).all (·.oneCell') = true := by
  rw [Array.all_eq_true_iff_forall_mem] at h ⊢
  intro x hx
  rcases Array.mem_or_eq_of_mem_setIfInBounds hx with h1 | h1
  · exact h x h1
  · rw [h1]; exact hv

set_option maxHeartbeats 4000000 in
set_option maxRecDepth 100000 in
theorem cloneMsg10 (V : Array Value) (hV : V.size = 18) (h1 : V.all (·.oneCell') = true) (w : World) (aS aO : Option Addr) (nS cS nO cO : Nat) (zS zO : List Int) (f16 : V[16]? = some (.slice aS nS cS)) (f17 : V[17]? = some (.slice aO nO cO))
    (iS : In w aS nS cS zS) (iO : In w aO nO cO zO) (hnS : nS ≤ 1048576) (hnO : nO ≤ 1048576) :
    Calls Try.prog 10 #[.agg V] w fun e w' => ∃ aS' aO', e = .returned (.agg ((V.setIfInBounds 16 (.slice aS' nS nS)).setIfInBounds 17 (.slice aO' nO nO))) ∧ Sl w' (w.heap.size + 1) aS' nS nS (fun i => zS.getD i 0) ∧ Sl w' (w.heap.size + 1) aO' nO nO (fun i => zO.getD i 0) ∧ Below w.heap.size w w' := by
  have HV : Hid (V.size = 18) := hV
  have HI : Hid ((Try.prog.info? 24).map (·.size) = some V.size) := by show _ = _; rw [Try.size24, hV]
  have H1 : Hid (V.all (·.oneCell') = true) := h1
  have F16 : Hid (V[16]? = some (.slice aS nS cS)) := f16
  clear hV h1
  go_enter Try.func10, Try.ntmps10
  go_wp2_with (first | (refine wpList_load_row rfl 24 (.tmp 1) rfl _ rfl 24 V (0, 0) _ (heap_alloc2_old w _ _) Try.underlying24 rfl HI.out ?_) | (refine stRow3 18 24 Try.size24 rfl (.tmp 3) (.tmp 4) rfl rfl V _ rfl 24 rfl HV.out H1.out ?_) | fail)
  generalize hZ : #[Value.string { data := #[] }, Value.int IntKind.u8 0, Value.int IntKind.u8 0, Value.string { data := #[] }, Value.int IntKind.u8 0, Value.int IntKind.u8 0, Value.string { data := #[] }, Value.int IntKind.u8 0, Value.int IntKind.u8 0, Value.int IntKind.u8 0, Value.string { data := #[] }, Value.string { data := #[] }, Value.int IntKind.u8 0, Value.int IntKind.u8 0, Value.int IntKind.u8 0, Value.int IntKind.u8 0, Value.slice none 0 0, Value.slice none 0 0] = Z
  have HZ : Hid (Z.size = 18) := by show _ = _; rw [← hZ]; rfl
  clear hZ
  obtain ⟨gA, gB, gC, hs, hb⟩ := three w (.cells V 24) (.cells Z 24) (.cells V 24)
  generalize ((w.alloc (Obj.cells V 24)).alloc (Obj.cells Z 24)).alloc (Obj.cells V 24) = W at *
  have F17 : Hid (V[17]? = some (.slice aO nO cO)) := f17
  clear f16 f17
  refine (clone_sl (iS.below hb) hnS).mono ?_
  rintro e w1 ⟨aS', rfl, sS, b1⟩
  have gA1 := (b1.block _ (by omega)).trans gA
  have gB1 := (b1.block _ (by omega)).trans gB
  have gC1 := (b1.block _ (by omega)).trans gC
  have cA : w1.cell? ⟨w.heap.size, 17, none⟩ = some (.slice aO nO cO) := cellOf gA1 F17.out
  have cC : w1.cell? ⟨w.heap.size + 1 + 1, 16, none⟩ = some (.slice aS nS cS) := cellOf gC1 F16.out
  have fC : w1.frozen? ⟨w.heap.size + 1 + 1, 16, none⟩ = false := frozen_of_row _ _ _ _ _ gC1
  have hs1 : w.heap.size + 1 + 1 < w1.heap.size := Nat.lt_of_lt_of_le hs b1.size
  have hb1 : Below w.heap.size w w1 := hb.trans (b1.mono (by omega))
  have GA1 : Hid (w1.heap[w.heap.size]? = some (.cells V 24 (0, 0))) := gA1
  have GB1 : Hid (w1.heap[w.heap.size + 1]? = some (.cells Z 24 (0, 0))) := gB1
  have GC1 : Hid (w1.heap[w.heap.size + 1 + 1]? = some (.cells V 24 (0, 0))) := gC1
  clear gA gB gC gA1 gB1 gC1 hb b1
  go_wp2_with fail
  have gA2 := (heap_setCell_other w1 ⟨w.heap.size + 1 + 1, 16, none⟩ w.heap.size (.slice aS' nS nS) (by simp; omega)).trans GA1.out
  have gB2 := (heap_setCell_other w1 ⟨w.heap.size + 1 + 1, 16, none⟩ (w.heap.size + 1) (.slice aS' nS nS) (by simp)).trans GB1.out
  have gC2 := heap_setCell_same w1 (w.heap.size + 1 + 1) 16 V 24 (.slice aS' nS nS) GC1.out
  have hb2 : Below w.heap.size w (w1.setCell ⟨w.heap.size + 1 + 1, 16, none⟩ (.slice aS' nS nS)) := hb1.setCell (by simp; omega) _
  have hs2 : w.heap.size + 1 + 1 < (w1.setCell ⟨w.heap.size + 1 + 1, 16, none⟩ (.slice aS' nS nS)).heap.size := by simpa [World.setCell] using hs1
  have sS2 : Sl (w1.setCell ⟨w.heap.size + 1 + 1, 16, none⟩ (.slice aS' nS nS)) W.heap.size aS' nS nS (fun i => zS.getD i 0) := sS.setCell hs _
  generalize w1.setCell ⟨w.heap.size + 1 + 1, 16, none⟩ (.slice aS' nS nS) = W2 at *
  clear cA cC fC GA1 GB1 GC1 hs1 hb1 sS
  refine (clone_sl (iO.below hb2) hnO).mono ?_
  rintro e w3 ⟨aO', rfl, sO, b3⟩
  have gA3 := (b3.block _ (by omega)).trans gA2
  have gB3 := (b3.block _ (by omega)).trans gB2
  have gC3 := (b3.block _ (by omega)).trans gC2
  have cC : w3.cell? ⟨w.heap.size + 1 + 1, 17, none⟩ = some (.slice aO nO cO) := cellOf gC3 (by rw [Array.getElem?_setIfInBounds_ne (by omega)]; exact F17.out)
  have fC : w3.frozen? ⟨w.heap.size + 1 + 1, 17, none⟩ = false := frozen_of_row _ _ _ _ _ gC3
  have hs3 : w.heap.size + 1 + 1 < w3.heap.size := Nat.lt_of_lt_of_le hs2 b3.size
  have hb3 : Below w.heap.size w w3 := hb2.trans (b3.mono (by omega))
  have sS3 := sS2.below b3
  have gB4 := (heap_setCell_other w3 ⟨w.heap.size + 1 + 1, 17, none⟩ (w.heap.size + 1) (.slice aO' nO nO) (by simp)).trans gB3
  have gC4 := heap_setCell_same w3 (w.heap.size + 1 + 1) 17 _ 24 (.slice aO' nO nO) gC3
  have hb4 : Below w.heap.size w (w3.setCell ⟨w.heap.size + 1 + 1, 17, none⟩ (.slice aO' nO nO)) := hb3.setCell (by simp; omega) _
  have sS4 := sS3.setCell (i := 17) hs (.slice aO' nO nO)
  have sO4 := sO.setCell (i := 17) hs2 (.slice aO' nO nO)
  have GB4 : Hid ((w3.setCell ⟨w.heap.size + 1 + 1, 17, none⟩ (.slice aO' nO nO)).heap[w.heap.size + 1]? = some (.cells Z 24 (0, 0))) := gB4
  have GC4 : Hid ((w3.setCell ⟨w.heap.size + 1 + 1, 17, none⟩ (.slice aO' nO nO)).heap[w.heap.size + 1 + 1]? = some (.cells ((V.setIfInBounds 16 (.slice aS' nS nS)).setIfInBounds 17 (.slice aO' nO nO)) 24 (0, 0))) := gC4
  generalize hV' : (V.setIfInBounds 16 (.slice aS' nS nS)).setIfInBounds 17 (.slice aO' nO nO) = V' at *
  have HV' : Hid (V'.size = 18) := by show _ = _; rw [← hV']; simp [HV.out]
  have HI' : Hid ((Try.prog.info? 24).map (·.size) = some V'.size) := by show _ = _; rw [Try.size24, HV'.out]
  have H1' : Hid (V'.all (·.oneCell') = true) := by
    show _ = _
    rw [← hV']
    exact all_set (all_set H1.out rfl) rfl
  have HVe : Hid ((V.setIfInBounds 16 (.slice aS' nS nS)).setIfInBounds 17 (.slice aO' nO nO) = V') := hV'
  clear gA2 gB2 gC2 gA3 gB3 gC3 gB4 gC4 hV' sS2 sS3 sO hb2 hb3 b3 iS iO
  go_wp2_with (first | (refine wpList_load_row rfl 24 (.tmp 3) rfl _ rfl 24 V' (0, 0) _ GC4.out Try.underlying24 rfl HI'.out ?_) | (refine stRow 18 24 Try.size24 rfl (.tmp 2) (.tmp 13) rfl _ rfl V' Z rfl 24 GB4.out HZ.out HV'.out H1'.out ?_) | fail)
  refine bodyPost_ret (v := .agg V') (results_cell_row rfl _ _ _ 24 V' (0, 0) _ rfl (setRow_heap _ _ _ _ _ _ GB4.out) Try.underlying24 rfl HI'.out) rfl ⟨aS', aO', by rw [HVe.out], (sS4.setRow (by omega) _).weak (by omega), (sO4.setRow (by omega) _).weak (by omega), below_setRow hb4 (by omega) _⟩
end Go.Proofs.Qxb6602209a
