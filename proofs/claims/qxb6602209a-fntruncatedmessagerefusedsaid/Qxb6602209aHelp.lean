import Derived.Test.Qxb6602209aBody
import Derived.Test.Qxb6602209aSame
import Derived.Outline
namespace Go.Proofs.Qxb6602209a
open Go.ChangeShapes Go.WideShapes Go.ChangeAt Go.RowKit
set_option linter.unusedVariables false

theorem bytes6V {V : Array Value} {m : M} (hM : IsM V m) (a : Option Addr) (n c : Nat) (w : World) (h : n + m.s0.size + m.s3.size + m.s6.size + m.s10.size + m.s11.size + m.nS + m.nO ≤ 1048576) :
    Calls Try.prog 6 #[.slice a n c, .agg V] w fun e w' => e = .returned (.bool true) ∧ Below w.heap.size w w' := by
  rw [hM.eq]
  refine (bytes6 a n c m w h).mono ?_
  rintro e w' ⟨rfl, rfl⟩
  exact ⟨rfl, (Below.refl _ _).alloc (Nat.le_refl _) _⟩
theorem tooBig7V {V : Array Value} {m : M} (hM : IsM V m) (a : Option Addr) (n c : Nat) (w : World) (h : n + m.s0.size + m.s3.size + m.s6.size + m.s10.size + m.s11.size + m.nS + m.nO ≤ 1048576) :
    Calls Try.prog 7 #[.slice a n c, .agg V] w fun e w' => e = .returned (.bool false) ∧ Below w.heap.size w w' := by
  rw [hM.eq]
  refine (tooBig7 a n c m w h).mono ?_
  rintro e w' ⟨rfl, rfl⟩
  exact ⟨rfl, (Below.refl _ _).alloc (Nat.le_refl _) _⟩
theorem nulFree8V {V : Array Value} {m : M} (hM : IsM V m) (w : World) (h0 : m.s0.size ≤ maxLen) (h3 : m.s3.size ≤ maxLen) (h6 : m.s6.size ≤ maxLen) (h10 : m.s10.size ≤ maxLen) (h11 : m.s11.size ≤ maxLen)
    (n0 : nul m.s0 = false) (n3 : nul m.s3 = false) (n6 : nul m.s6 = false) (n10 : nul m.s10 = false) (n11 : nul m.s11 = false) :
    Calls Try.prog 8 #[.agg V] w fun e w' => e = .returned (.bool true) ∧ Below w.heap.size w w' := by
  rw [hM.eq]
  refine (nulFree8 m w h0 h3 h6 h10 h11 n0 n3 n6 n10 n11).mono ?_
  rintro e w' ⟨rfl, rfl⟩
  exact ⟨rfl, (Below.refl _ _).alloc (Nat.le_refl _) _⟩

theorem below_at {B g : Nat} {w w' : World} {o : Obj} (h : Below B w w') (hg : g < B) (e : w.heap[g]? = some o) : w'.heap[g]? = some o := (h.block g hg).trans e

/-- zzClone, told by what the copy owns. -/
theorem clone_ow {w : World} {a : Option Addr} {len cap : Nat} {zs : List Int} (h : In w a len cap zs) (hn : len ≤ 1048576) :
    Calls Try.prog 9 #[.slice a len cap] w fun e w' => ∃ ao, e = .returned (.slice ao len len) ∧ Ow w' ao len len ((List.range len).map fun i => Value.int .u8 (zs.getD i 0)) ∧ (∀ g, blk ao = some g → w.heap.size ≤ g ∧ g < w'.heap.size) ∧ Below w.heap.size w w' := by
  rcases h with ⟨rfl, rfl, rfl, rfl⟩ | ⟨x, rfl, h2, h3, h4, h5, h6⟩
  · refine (clone_nil w).mono ?_
    rintro e w' ⟨rfl, rfl⟩
    exact ⟨none, rfl, ⟨rfl, .inl ⟨rfl, rfl, rfl⟩⟩, fun g hg => by simp [blk] at hg, Below.refl _ _⟩
  · refine (clone_any x len cap (fun i => zs.getD i 0) w hn (fun i hi => h5 i (by omega))).mono ?_
    rintro e w' ⟨rfl, rfl⟩
    refine ⟨_, rfl, ⟨by simp, .inr ⟨w.heap.size, _, rfl, heap_alloc_new w _, Nat.le_refl _, by unfold maxLen; omega, by simp [row_length], ?_⟩⟩, fun g hg => ?_, (Below.refl _ _).alloc (Nat.le_refl _) _⟩
    · have e1 : row (fun i => zs.getD i 0) len len = (List.range len).map fun i => Value.int .u8 (zs.getD i 0) := by
        unfold row
        apply List.map_congr_left
        intro i hi
        rw [if_pos (by simpa using hi)]
      rw [← e1]
      show List.take len (row (fun i => zs.getD i 0) len len) = _
      exact List.take_of_length_le (by simp [row_length])
    · simp [blk] at hg
      subst hg
      exact ⟨Nat.le_refl _, by simp⟩

theorem Ow.below {w w' : World} {ao : Option Addr} {n c : Nat} {xs : List Value} (h : Ow w ao n c xs) (hb : Below w.heap.size w w') : Ow w' ao n c xs := by
  refine ⟨h.1, ?_⟩
  rcases h.2 with h2 | ⟨g, cur, h2, h3, h4⟩
  · exact .inl h2
  · exact .inr ⟨g, cur, h2, below_at hb (Array.getElem?_eq_some_iff.1 h3).1 h3, h4⟩

theorem isM_set {V : Array Value} {m : M} (h : IsM V m) (aS aO : Option Addr) :
    IsM ((V.setIfInBounds 16 (.slice aS m.nS m.nS)).setIfInBounds 17 (.slice aO m.nO m.nO)) { m with aS := aS, cS := m.nS, aO := aO, cO := m.nO } := by
  have e := h.eq
  have : (V.setIfInBounds 16 (.slice aS m.nS m.nS)).setIfInBounds 17 (.slice aO m.nO m.nO) = #[.string m.s0, .int .u8 m.b1, .int .u8 m.b2, .string m.s3, .int .u8 m.b4, .int .u8 m.b5, .string m.s6, .int .u8 m.b7, .int .u8 m.b8, .int .u8 m.b9, .string m.s10, .string m.s11, .int .u8 m.b12, .int .u8 m.b13, .int .u8 m.b14, .int .u8 m.b15, .slice aS m.nS m.nS, .slice aO m.nO m.nO] := by
    rw [e]; rfl
  rw [this]
  exact IsM.lit { m with aS := aS, cS := m.nS, aO := aO, cO := m.nO }

theorem Ow.other {w w' : World} {ao : Option Addr} {n c g : Nat} {xs : List Value} (h : Ow w ao n c xs) (hg : blk ao ≠ some g) (hk : ∀ k, k ≠ g → w'.heap[k]? = w.heap[k]?) : Ow w' ao n c xs := by
  refine ⟨h.1, ?_⟩
  rcases h.2 with h2 | ⟨b, cur, h2, h3, h4⟩
  · exact .inl h2
  · refine .inr ⟨b, cur, h2, (hk b ?_).trans h3, h4⟩
    rintro rfl
    exact hg (by rw [h2]; rfl)

/-- Two new tables, filled by two whole-row stores. -/
theorem twoRows (w : World) (Z1 Z2 A B : Array Value) (t1 t2 : TypeId) : ∃ w', (((w.alloc (.cells Z1 t1)).alloc (.cells Z2 t2)).setRow w.heap.size A).setRow (w.heap.size + 1) B = w' ∧ w'.heap[w.heap.size]? = some (.cells A t1 (0, 0)) ∧ w'.heap[w.heap.size + 1]? = some (.cells B t2 (0, 0)) ∧ Below w.heap.size w w' ∧ w.heap.size + 1 < w'.heap.size := by
  have hs : (w.alloc (.cells Z1 t1)).heap.size = w.heap.size + 1 := by simp
  have e1 : ((w.alloc (.cells Z1 t1)).alloc (.cells Z2 t2)).heap[w.heap.size]? = some (.cells Z1 t1 (0, 0)) := heap_alloc2_old w _ _
  have e2 : ((w.alloc (.cells Z1 t1)).alloc (.cells Z2 t2)).heap[w.heap.size + 1]? = some (.cells Z2 t2 (0, 0)) := by rw [← hs]; exact heap_alloc_new _ _
  have e3 := setRow_heap _ _ _ A _ _ e1
  have e4 := (setRow_other _ w.heap.size (w.heap.size + 1) A (by omega)).trans e2
  refine ⟨_, rfl, (setRow_other _ _ _ _ (by omega)).trans e3, setRow_heap _ _ _ B _ _ e4, ?_, ?_⟩
  · exact below_setRow (below_setRow (((Below.refl _ _).alloc (Nat.le_refl _) _).alloc (by simp) _) (Nat.le_refl _) _) (by omega) _
  · simp [World.setRow]

theorem twoA (w : World) (Z1 Z2 : Array Value) (t1 t2 : TypeId) : ((w.alloc (.cells Z1 t1)).alloc (.cells Z2 t2)).heap[w.heap.size]? = some (.cells Z1 t1 (0, 0)) := heap_alloc2_old w _ _
theorem twoB (w : World) (Z1 Z2 A : Array Value) (t1 t2 : TypeId) : (((w.alloc (.cells Z1 t1)).alloc (.cells Z2 t2)).setRow w.heap.size A).heap[w.heap.size + 1]? = some (.cells Z2 t2 (0, 0)) := by
  refine (setRow_other _ w.heap.size (w.heap.size + 1) A (by omega)).trans ?_
  have hs : (w.alloc (.cells Z1 t1)).heap.size = w.heap.size + 1 := by simp
  rw [← hs]; exact heap_alloc_new _ _
/-- The second of two whole-row stores into two new tables: what stands then. -/
theorem stRowTwo {w : World} {ops : Array Oper} {rest : List Oper} {o : Oper} {a : Act} {Q : Exit → Act → World → Prop} (k : Nat) (t1 t2 : TypeId) (hk : (Try.prog.info? t2).map (·.size) = some k)
    (hgd : o.guard = none) (x y : Operand) (ho : o.op = .store t2 x y) (Z1 Z2 A B : Array Value)
    (hx : a.eval x = .pointer (some ⟨(w.alloc (.cells Z1 t1)).heap.size, 0, none⟩)) (hy : a.eval y = .agg B) (hZ : Hid (Z2.size = k)) (hV : Hid (B.size = k)) (h1 : Hid (B.all (·.oneCell') = true))
    (h : ∀ w' : World, Hid (w'.heap[w.heap.size]? = some (.cells A t1 (0, 0))) → Hid (w'.heap[w.heap.size + 1]? = some (.cells B t2 (0, 0))) → Below w.heap.size w w' → w.heap.size + 1 < w'.heap.size → wpList Try.prog ops Q rest (a.put o.dst undef) w') :
    wpList Try.prog ops Q (o :: rest) a (((w.alloc (.cells Z1 t1)).alloc (.cells Z2 t2)).setRow w.heap.size A) := by
  have hs : (w.alloc (.cells Z1 t1)).heap.size = w.heap.size + 1 := by simp
  rw [hs] at hx
  refine stRow k t2 hk hgd x y ho _ hx B Z2 hy t2 (twoB w Z1 Z2 A t1 t2) hZ.out hV.out h1.out ?_
  obtain ⟨w', e, h2, h3, h4, h5⟩ := twoRows w Z1 Z2 A B t1 t2
  rw [e]
  exact h w' h2 h3 h4 h5
theorem By.below {w w' : World} {ao : Option Addr} {n : Nat} {f : Nat → Int} (h : By w ao n f) (hb : Below w.heap.size w w') : By w' ao n f := by
  intro hn
  obtain ⟨b, o, e, hc⟩ := h hn
  refine ⟨b, o, e, fun i hi => (hb.cell ?_).trans (hc i hi)⟩
  exact block_lt_of_cell (hc i hi)

theorem Bd.below {w w' : World} {U B : Nat} {ao : Option Addr} {n c : Nat} {f : Nat → Int} (h : Bd w U ao n c f) (hb : Below B w w') (hU : U ≤ B) : Bd w' U ao n c f := by
  rcases h with h | ⟨b, o, h1, h2, h3, h4⟩
  · exact .inl h
  · exact .inr ⟨b, o, h1, h2, h3, fun i hi => (hb.cell (by show b < B; omega)).trans (h4 i hi)⟩

theorem enc_len (m : M) (q : Int) (S O : List Int) : (enc m q S O).length = 17 + m.s0.size + m.s3.size + m.s6.size + m.s10.size + m.s11.size + S.length + O.length := by
  rw [enc_eq, List.length_append, upTo_length, pos17, List.length_append]; omega

/-- What AppendMessage has written, cell by cell. -/
theorem Ow.tail {w : World} {ao : Option Addr} {n c n0 : Nat} {xs : List Value} {E : List Int} (h : Ow w ao n c (xs ++ E.map (Value.int .u8))) (hx : xs.length = n0) (hE : 0 < E.length) :
    ∃ g, ao = some ⟨g, 0, none⟩ ∧ g < w.heap.size ∧ n = n0 + E.length ∧ n ≤ c ∧ c ≤ maxLen ∧ ∀ k, k < E.length → w.cell? ⟨g, n0 + k, none⟩ = some (.int .u8 (E.getD k 0)) := by
  obtain ⟨h1, h2⟩ := h
  rw [List.length_append, List.length_map, hx] at h1
  rcases h2 with ⟨_, h2, _⟩ | ⟨g, cur, h2, h3, h4, h5, h6, h7⟩
  · omega
  · refine ⟨g, h2, (Array.getElem?_eq_some_iff.1 h3).1, h1.symm, h4, h5, fun k hk => ?_⟩
    refine cellOf h3 ?_
    have e : (List.take n cur.toList)[n0 + k]? = some (.int .u8 (E.getD k 0)) := by
      rw [h7, List.getElem?_append_right (by omega), hx, Nat.add_sub_cancel_left, List.getElem?_map, List.getElem?_eq_getElem hk]
      simp [List.getD_eq_getElem?_getD, List.getElem?_eq_getElem hk]
    rw [List.getElem?_take_of_lt (by omega)] at e
    simpa using e

theorem wrap8 (n : Nat) : IntKind.u8.wrap (n : Int) = (n : Int) % 256 := rfl

theorem bytesI_bytes (s : ByteArray) : ∀ z ∈ bytesI s, 0 ≤ z ∧ z < 256 := by
  intro z hz
  simp [bytesI] at hz
  obtain ⟨b, _, rfl⟩ := hz
  have := b.toNat_lt
  omega

theorem enc_bytes (m : M) (q : Int) (S O : List Int) (hby : ∀ z ∈ [m.b1, m.b2, m.b4, m.b5, m.b7, m.b8, m.b9, m.b12, m.b13, m.b14, m.b15], 0 ≤ z ∧ z < 256) (hq : 0 ≤ q ∧ q < 256) (hS : ∀ z ∈ S, 0 ≤ z ∧ z < 256) (hO : ∀ z ∈ O, 0 ≤ z ∧ z < 256) :
    ∀ z ∈ enc m q S O, 0 ≤ z ∧ z < 256 := by
  have z0 : (0 : Int) ≤ 0 ∧ (0 : Int) < 256 := by omega
  have c0 := bytesI_bytes m.s0
  have c3 := bytesI_bytes m.s3
  have c6 := bytesI_bytes m.s6
  have c10 := bytesI_bytes m.s10
  have c11 := bytesI_bytes m.s11
  have k1 := hby m.b1 (by simp)
  have k2 := hby m.b2 (by simp)
  have k4 := hby m.b4 (by simp)
  have k5 := hby m.b5 (by simp)
  have k7 := hby m.b7 (by simp)
  have k8 := hby m.b8 (by simp)
  have k9 := hby m.b9 (by simp)
  have k12 := hby m.b12 (by simp)
  have k13 := hby m.b13 (by simp)
  have k14 := hby m.b14 (by simp)
  have k15 := hby m.b15 (by simp)
  intro z hz
  simp only [enc, List.mem_append, List.mem_cons, List.not_mem_nil, or_false] at hz
  rcases hz with (((((((((((h | h) | h) | h) | h) | h) | h) | h) | h) | h) | h) | h)
  · exact c0 z h
  · rcases h with rfl | rfl | rfl <;> assumption
  · exact c3 z h
  · rcases h with rfl | rfl | rfl <;> assumption
  · exact c6 z h
  · rcases h with rfl | rfl | rfl | rfl <;> assumption
  · exact c10 z h
  · subst h; exact z0
  · exact c11 z h
  · rcases h with rfl | rfl | rfl | rfl | rfl | rfl <;> assumption
  · exact hS z h
  · exact hO z h

theorem tabS (fs : Nat → ByteArray) (f : Nat) : ∃ sl, (SL fs f 17).toArray = sl ∧ sl.size = 17 ∧ sl.all (·.oneCell') = true ∧ ∀ i, i < 17 → sl[i]? = some (.string (if i < f then fs i else { data := #[] })) := by
  refine ⟨_, rfl, by simp [SL_len], all_oneCell_toArray (by intro v hv; simp [SL] at hv; obtain ⟨_, _, rfl⟩ := hv; rfl), fun i hi => ?_⟩
  have := SL_get fs f 17 i hi
  simpa [hi] using this
theorem tabO (fo : Nat → Int) (f : Nat) : ∃ ol, (OL fo f 17).toArray = ol ∧ ol.size = 17 ∧ ol.all (·.oneCell') = true ∧ ∀ i, i < 17 → ol[i]? = some (.int .u8 (if i < f then fo i else 0)) := by
  refine ⟨_, rfl, by simp [OL_len], all_oneCell_toArray (by intro v hv; simp [OL] at hv; obtain ⟨_, _, rfl⟩ := hv; rfl), fun i hi => ?_⟩
  have := OL_get fo f 17 i hi
  simpa [hi] using this

theorem map_bytes {zs : List Int} {n : Nat} (h : ∀ i, i < n → 0 ≤ zs.getD i 0 ∧ zs.getD i 0 < 256) : ∀ z ∈ (List.range n).map (fun i => zs.getD i 0), 0 ≤ z ∧ z < 256 := by
  intro z hz
  obtain ⟨i, hi, rfl⟩ := List.mem_map.1 hz
  exact h i (by simpa using hi)

/-- The encoding of a message without NULs, as the reader meets it. -/
theorem enc_lay (m : M) (q : Int) (S O : List Int) (n : Nat) (hn : n ≤ (enc m q S O).length) (u0 : nul m.s0 = false) (u3 : nul m.s3 = false) (u6 : nul m.s6 = false) (u10 : nul m.s10 = false) (u11 : nul m.s11 = false) (hb : ∀ z ∈ enc m q S O, 0 ≤ z ∧ z < 256) :
    Lay (fun k => (enc m q S O).getD k 0) n (pos m q) (fsM m) (foM m q) := by
  rw [enc_eq] at *
  exact lay_of m q (S ++ O) n hn u0 u3 u6 u10 u11 hb

theorem enc_S (m : M) (q : Int) (S O : List Int) (j : Nat) (hj : j < S.length) : (enc m q S O).getD (pos m q 17 + j) 0 = S.getD j 0 := by
  rw [enc_eq, ← upTo_length]
  simp only [List.getD_eq_getElem?_getD]
  rw [List.getElem?_append_right (by omega), Nat.add_sub_cancel_left, List.getElem?_append_left hj]
theorem enc_O (m : M) (q : Int) (S O : List Int) (j : Nat) (hj : j < O.length) : (enc m q S O).getD (pos m q 17 + S.length + j) 0 = O.getD j 0 := by
  rw [enc_eq, ← upTo_length]
  simp only [List.getD_eq_getElem?_getD]
  rw [List.getElem?_append_right (by omega), List.getElem?_append_right (by omega)]
  congr 2
  omega

theorem Try.zero38 : ∃ z : Value, (Try.prog.info? 38).map (fun i => (i.zero, i.size)) = some (some z, 17) ∧ z.cells.size = 17 := ⟨.agg #[.string { data := #[] }, .string { data := #[] }, .string { data := #[] }, .string { data := #[] }, .string { data := #[] }, .string { data := #[] }, .string { data := #[] }, .string { data := #[] }, .string { data := #[] }, .string { data := #[] }, .string { data := #[] }, .string { data := #[] }, .string { data := #[] }, .string { data := #[] }, .string { data := #[] }, .string { data := #[] }, .string { data := #[] }], by kernel_rfl, rfl⟩
theorem Try.zero39 : ∃ z : Value, (Try.prog.info? 39).map (fun i => (i.zero, i.size)) = some (some z, 17) ∧ z.cells.size = 17 := ⟨.agg #[.int .u8 0, .int .u8 0, .int .u8 0, .int .u8 0, .int .u8 0, .int .u8 0, .int .u8 0, .int .u8 0, .int .u8 0, .int .u8 0, .int .u8 0, .int .u8 0, .int .u8 0, .int .u8 0, .int .u8 0, .int .u8 0, .int .u8 0], by kernel_rfl, rfl⟩

theorem make_cap (f : Nat → Int) (n : Nat) (hn : n ≤ 1048576) (w : World) : (Instr.makeSlice 22 (.int .i64 0) (.int .i64 n)).run Try.prog w = .ok (.slice (some ⟨w.heap.size, 0, none⟩) 0 n) (w.alloc (.cells (row f n 0).toArray 5)) := by
  obtain ⟨i0, hi, hz0, hz1, hz2⟩ := info_parts Try.info5
  have hr := run_make (P := Try.prog) w 22 5 i0 _ Try.underlying22 hi hz0 .i64 .i64 0 n (by omega) (by omega) (by rw [hz2]; omega) (by omega)
  have e : madeCells (Value.int .u8 0).cells n = (row f n 0).toArray := by
    apply Array.ext'
    apply List.ext_getElem?
    intro i
    by_cases h : i < n
    · rw [row_get _ _ _ _ h]; simp [madeCells, h, Value.cells, Nat.mod_one]
    · simp [madeCells, row, h]
  rw [← e]
  simpa [hz1] using hr

theorem Ow.by' {w : World} {ao : Option Addr} {n c : Nat} {F : Nat → Int} (h : Ow w ao n c ((List.range n).map fun i => Value.int .u8 (F i))) : By w ao n F := by
  intro hn
  rcases h.2 with ⟨_, h2, _⟩ | ⟨b, cur, h2, h3, h4, h5, h6, h7⟩
  · omega
  · refine ⟨b, 0, h2, fun i hi => ?_⟩
    rw [Nat.zero_add]
    refine cellOf h3 ?_
    have e : (List.take n cur.toList)[i]? = some (.int .u8 (F i)) := by rw [h7]; simp [hi]
    rw [List.getElem?_take_of_lt hi] at e
    simpa using e
theorem By.congr {w : World} {ao : Option Addr} {n : Nat} {F G : Nat → Int} (h : By w ao n F) (e : ∀ i, i < n → F i = G i) : By w ao n G := by
  intro hn
  obtain ⟨b, o, h1, h2⟩ := h hn
  exact ⟨b, o, h1, fun i hi => by rw [← e i hi]; exact h2 i hi⟩
theorem Rd.drewN {w : World} {r : Nat} {ao : Option Addr} {n c : Nat} {eo : Option Addr} (h : Rd w r ao n c eo) (q : Nat) : Rd (w.drewN q) r ao n c eo := h
theorem By.drewN {w : World} {ao : Option Addr} {n : Nat} {F : Nat → Int} (h : By w ao n F) (q : Nat) : By (w.drewN q) ao n F := h
theorem below_drewN {B : Nat} {a w : World} (h : Below B a w) (q : Nat) : Below B a (w.drewN q) := h.trans ⟨rfl, rfl, rfl, Nat.le_refl _, fun _ _ => rfl⟩

/-- The loop that reads the short message octet by octet. -/
structure Lp (wq wr : World) (r : Nat) (F : Nat → Int) (n : Nat) (ao : Option Addr) (k c : Nat) : Prop where
  ow : Ow wr ao k c ((List.range k).map fun i => Value.int .u8 (F i))
  own : ∀ g, blk ao = some g → wq.heap.size ≤ g
  rd : ∃ ao2 c2, Rd wr r ao2 (n - k) c2 none ∧ Bd wr r ao2 (n - k) c2 (fun j => F (k + j))
  kb : Kb r wq wr

theorem Lp.start {wq : World} {r : Nat} {F : Nat → Int} {n N c2 : Nat} {ao2 : Option Addr} (hr : r < wq.heap.size) (rd : Rd wq r ao2 n c2 none) (bd : Bd wq r ao2 n c2 F) (hN : N ≤ 1048576) (f : Nat → Int) :
    Lp wq (wq.alloc (.cells (row f N 0).toArray 5)) r F n (some ⟨wq.heap.size, 0, none⟩) 0 N := by
  have al : Below wq.heap.size wq (wq.alloc (.cells (row f N 0).toArray 5)) := (Below.refl _ _).alloc (Nat.le_refl _) _
  refine ⟨⟨rfl, .inr ⟨wq.heap.size, _, rfl, heap_alloc_new _ _, Nat.zero_le _, by unfold maxLen; omega, by simp [row_length], by simp⟩⟩, fun g h => ?_, ⟨ao2, c2, below_at al hr rd, ?_⟩, ?_⟩
  · simp [blk] at h; omega
  · have e : (fun j => F (0 + j)) = F := by funext j; rw [Nat.zero_add]
    rw [e]
    exact bd.below al (Nat.le_of_lt hr)
  · exact (Kb.refl r wq).alloc _

theorem Lp.step {wq wr : World} {r : Nat} {F : Nat → Int} {n : Nat} {ao : Option Addr} {k c : Nat} (h : Lp wq wr r F n ao k c) (hr : r < wq.heap.size) (hk : k < n) (hn : n ≤ 2097152) (name : ByteArray) :
    Calls Try.prog 16 #[.pointer (some ⟨r, 0, none⟩), .string name] wr fun e w' => ∃ z, e = .returned (.int .u8 z) ∧ ∃ ao' c' w3, (Builtin.append_ #[22, 22] 22 #[.slice ao k c, .slice (some ⟨w'.heap.size, 0, none⟩) 1 1]).run Try.prog (w'.alloc (.cells #[.int .u8 z] 5)) = .ok (.slice ao' (k + 1) c') w3 ∧ Lp wq w3 r F n ao' (k + 1) c' := by
  obtain ⟨ow, own, ⟨ao2, c2, rd, bd⟩, kb⟩ := h
  refine zoctet ?_
  refine (octet_ok r r ao2 (n - k) c2 _ name wr rd bd (Nat.le_refl _) (by omega) (by omega)).mono ?_
  rintro e w1 ⟨rfl, ⟨ao3, c3, rd1, bd1⟩, kb1⟩
  refine ⟨_, rfl, ?_⟩
  have hk0 : F (k + 0) = F k := rfl
  have ow1 : Ow w1 ao k c ((List.range k).map fun i => Value.int .u8 (F i)) := by
    refine ⟨ow.1, ?_⟩
    rcases ow.2 with h2 | ⟨b, cur, h2, h3, h4⟩
    · exact .inl h2
    · refine .inr ⟨b, cur, h2, (kb1.keep b (Array.getElem?_eq_some_iff.1 h3).1 ?_).trans h3, h4⟩
      have := own b (by rw [h2]; rfl)
      omega
  obtain ⟨a2, c4, w2, r2, o2, g2⟩ := run_app_slice (w1.alloc (.cells #[.int .u8 (F (k + 0))] 5)) (ow1.alloc _) ⟨w1.heap.size, 0, none⟩ 1 1 [.int .u8 (F (k + 0))] rfl (cell_one_new w1 _ 5) (by simp [Value.oneCell']) (by omega) 22
  have al : Below w1.heap.size w1 (w1.alloc (.cells #[.int .u8 (F (k + 0))] 5)) := (Below.refl _ _).alloc (Nat.le_refl _) _
  have hr1 : r < w1.heap.size := Nat.lt_of_lt_of_le hr (Nat.le_trans kb.size kb1.size)
  have hra : some r ≠ blk ao := fun h => by have := own r h.symm; omega
  have rd2 : Rd w2 r ao3 (n - k - 1) c3 none := (g2.keep r (Nat.lt_of_lt_of_le hr1 al.size) hra).trans (below_at al hr1 rd1)
  have G2 : Below r (w1.alloc (.cells #[.int .u8 (F (k + 0))] 5)) w2 := g2.below (Nat.le_of_lt (Nat.lt_of_lt_of_le hr1 al.size)) (fun g hg => by have := own g hg; omega)
  have bd2 := (bd1.below al (Nat.le_of_lt hr1)).below G2 (Nat.le_refl _)
  refine ⟨a2, c4, w2, r2, ?_, ?_, ⟨ao3, c3, ?_, ?_⟩, ?_⟩
  · rw [List.range_succ, List.map_append]; exact o2
  · intro g hg
    rcases g2.own with h | ⟨g', h, h'⟩
    · exact own g (by rw [← h]; exact hg)
    · rw [h] at hg
      injection hg with hg
      have := kb.size
      have := kb1.size
      have := al.size
      omega
  · rw [show n - (k + 1) = n - k - 1 by omega]; exact rd2
  · rw [show n - (k + 1) = n - k - 1 by omega]
    have e : (fun j => F (k + 1 + j)) = (fun i => F (k + (1 + i))) := by funext j; rw [Nat.add_assoc]
    rw [e]
    exact bd2
  · have k1 := kb.trans kb1
    refine ⟨g2.os.trans k1.os, g2.tape.trans k1.tape, g2.output.trans k1.output, Nat.le_trans k1.size (Nat.le_trans al.size g2.size), fun b hb hbr => ?_⟩
    have hb1 : b < w1.heap.size := Nat.lt_of_lt_of_le hb k1.size
    have hx : some b ≠ blk ao := fun h => by have := own b h.symm; omega
    exact (g2.keep b (Nat.lt_of_lt_of_le hb1 al.size) hx).trans ((al.block b hb1).trans (k1.keep b hb hbr))
end Go.Proofs.Qxb6602209a
