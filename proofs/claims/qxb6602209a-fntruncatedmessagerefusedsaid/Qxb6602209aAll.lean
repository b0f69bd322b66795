import Derived.Test.Qxb6602209aLay
import Derived.Deep.RegionHeld3
import Derived.Deep.RegionLaw
import Derived.Deep.MidRow
namespace Go.Proofs.Qxb6602209a
open Go.ChangeShapes Go.WideShapes Go.ChangeAt Go.RowKit
set_option linter.unusedVariables false

/-- The two tables behind i fields, of which those below f were read. -/
def SL (fs : Nat → ByteArray) (f i : Nat) : List Value := (List.range 17).map fun j => Value.string (if j < i ∧ j < f then fs j else { data := #[] })
def OL (fo : Nat → Int) (f i : Nat) : List Value := (List.range 17).map fun j => Value.int .u8 (if j < i ∧ j < f then fo j else 0)

theorem SL_get (fs : Nat → ByteArray) (f i j : Nat) (hj : j < 17) : (SL fs f i)[j]? = some (.string (if j < i ∧ j < f then fs j else { data := #[] })) := by simp [SL, hj]
theorem OL_get (fo : Nat → Int) (f i j : Nat) (hj : j < 17) : (OL fo f i)[j]? = some (.int .u8 (if j < i ∧ j < f then fo j else 0)) := by simp [OL, hj]
theorem SL_len (fs : Nat → ByteArray) (f i : Nat) : (SL fs f i).length = 17 := by simp [SL]
theorem OL_len (fo : Nat → Int) (f i : Nat) : (OL fo f i).length = 17 := by simp [OL]
theorem SL_set (fs : Nat → ByteArray) (f i : Nat) (hi : i < 17) : (SL fs f i).toArray.setIfInBounds i (.string (if i < f then fs i else { data := #[] })) = (SL fs f (i + 1)).toArray := by
  rw [List.setIfInBounds_toArray]
  congr 1
  apply List.ext_getElem?
  intro j
  rw [List.getElem?_set]
  by_cases hj : j < 17
  · rw [SL_get _ _ _ _ hj, SL_get _ _ _ _ hj]
    by_cases e : i = j
    · subst e; simp [SL_len, hi]
    · rw [if_neg e]
      have : (j < i + 1 ∧ j < f) ↔ (j < i ∧ j < f) := by omega
      simp only [this]
  · have e : ¬ i = j := by omega
    rw [if_neg e, List.getElem?_eq_none (by rw [SL_len]; omega), List.getElem?_eq_none (by rw [SL_len]; omega)]
theorem OL_set (fo : Nat → Int) (f i : Nat) (hi : i < 17) : (OL fo f i).toArray.setIfInBounds i (.int .u8 (if i < f then fo i else 0)) = (OL fo f (i + 1)).toArray := by
  rw [List.setIfInBounds_toArray]
  congr 1
  apply List.ext_getElem?
  intro j
  rw [List.getElem?_set]
  by_cases hj : j < 17
  · rw [OL_get _ _ _ _ hj, OL_get _ _ _ _ hj]
    by_cases e : i = j
    · subst e; simp [OL_len, hi]
    · rw [if_neg e]
      have : (j < i + 1 ∧ j < f) ↔ (j < i ∧ j < f) := by omega
      simp only [this]
  · have e : ¬ i = j := by omega
    rw [if_neg e, List.getElem?_eq_none (by rw [OL_len]; omega), List.getElem?_eq_none (by rw [OL_len]; omega)]
theorem SL_same (fs : Nat → ByteArray) (f i : Nat) (h : fs i = { data := #[] }) : SL fs f (i + 1) = SL fs f i := by
  unfold SL
  apply List.map_congr_left
  intro j hj
  congr 1
  by_cases e : j = i
  · subst e
    rw [h]
    split <;> split <;> rfl
  · have : (j < i + 1 ∧ j < f) ↔ (j < i ∧ j < f) := by omega
    simp only [this]
theorem OL_same (fo : Nat → Int) (f i : Nat) (h : fo i = 0) : OL fo f (i + 1) = OL fo f i := by
  unfold OL
  apply List.map_congr_left
  intro j hj
  congr 1
  by_cases e : j = i
  · subst e
    rw [h]
    split <;> split <;> rfl
  · have : (j < i + 1 ∧ j < f) ↔ (j < i ∧ j < f) := by omega
    simp only [this]

/-- What holds ahead of field i. -/
structure RA (w wr : World) (U r : Nat) (g : Nat → Int) (n : Nat) (P : Nat → Nat) (fs : Nat → ByteArray) (fo : Nat → Int) (f i : Nat) : Prop where
  rs : RS wr U (w.heap.size + 1 + 1 + 1 + 1) r g n P f i
  kb : Kb r w wr
  sz : w.heap.size + 1 + 1 + 1 + 1 ≤ wr.heap.size
  b0 : ∃ Z : Array Value, Z.size = 17 ∧ wr.heap[w.heap.size]? = some (.cells Z 38 (0, 0))
  b1 : ∃ Z : Array Value, Z.size = 17 ∧ wr.heap[w.heap.size + 1]? = some (.cells Z 39 (0, 0))
  b2 : wr.heap[w.heap.size + 1 + 1]? = some (.cells (SL fs f i).toArray 38 (0, 0))
  b3 : wr.heap[w.heap.size + 1 + 1 + 1]? = some (.cells (OL fo f i).toArray 39 (0, 0))

theorem Kb.heap {r k : Nat} {w w' : World} {o : Obj} (h : Kb r w w') (hk : k ≠ r) (e : w.heap[k]? = some o) : w'.heap[k]? = some o :=
  (h.keep k (Array.getElem?_eq_some_iff.1 e).1 hk).trans e

theorem Kb.heap' {r : Nat} {w w' : World} {ao : Option Addr} {n c : Nat} {eo : Option Addr} (h : Kb r w w') (hn : ∀ k, k < w.heap.size → w'.heap[k]? = w.heap[k]?) (e : Rd w r ao n c eo) : Rd w' r ao n c eo :=
  (hn r (Array.getElem?_eq_some_iff.1 e).1).trans e

theorem RA.read {w wr w' : World} {U r : Nat} {g : Nat → Int} {n : Nat} {P : Nat → Nat} {fs : Nat → ByteArray} {fo : Nat → Int} {f i : Nat} (h : RA w wr U r g n P fs fo f i) (hr : r < w.heap.size) (hrs : RS w' U (w.heap.size + 1 + 1 + 1 + 1) r g n P f (i + 1)) (hk : Kb r wr w') :
    RS w' U (w.heap.size + 1 + 1 + 1 + 1) r g n P f (i + 1) ∧ Kb r w w' ∧ w.heap.size + 1 + 1 + 1 + 1 ≤ w'.heap.size ∧ (∃ Z : Array Value, Z.size = 17 ∧ w'.heap[w.heap.size]? = some (.cells Z 38 (0, 0))) ∧ (∃ Z : Array Value, Z.size = 17 ∧ w'.heap[w.heap.size + 1]? = some (.cells Z 39 (0, 0))) ∧
      w'.heap[w.heap.size + 1 + 1]? = some (.cells (SL fs f i).toArray 38 (0, 0)) ∧ w'.heap[w.heap.size + 1 + 1 + 1]? = some (.cells (OL fo f i).toArray 39 (0, 0)) := by
  obtain ⟨Z0, z0, e0⟩ := h.b0
  obtain ⟨Z1, z1, e1⟩ := h.b1
  exact ⟨hrs, h.kb.trans hk, Nat.le_trans h.sz hk.size, ⟨Z0, z0, hk.heap (by omega) e0⟩, ⟨Z1, z1, hk.heap (by omega) e1⟩, hk.heap (by omega) h.b2, hk.heap (by omega) h.b3⟩

theorem kb_new {r z : Nat} {w w' : World} {j : Nat} {v : Value} (h : Kb r w w') (hz : w.heap.size ≤ z) : Kb r w (w'.setCell ⟨z, j, none⟩ v) :=
  ⟨h.os, h.tape, h.output, by simpa [World.setCell] using h.size, fun k hk hne => (heap_setCell_other w' ⟨z, j, none⟩ k v (by show k ≠ z; omega)).trans (h.keep k hk hne)⟩

theorem other_block {w : World} {z k j : Nat} {v : Value} (h : k ≠ z) : (w.setCell ⟨z, j, none⟩ v).heap[k]? = w.heap[k]? := heap_setCell_other w ⟨z, j, none⟩ k v h

/-- Behind the store into the first table. -/
theorem RA.storeS {w wr w' : World} {U r : Nat} {g : Nat → Int} {n : Nat} {P : Nat → Nat} {fs : Nat → ByteArray} {fo : Nat → Int} {f i : Nat} (h : RA w wr U r g n P fs fo f i) (hr : r < w.heap.size) (hU : U ≤ r) (hi : i < 17) (ho : fo i = 0) (hrs : RS w' U (w.heap.size + 1 + 1 + 1 + 1) r g n P f (i + 1)) (hk : Kb r wr w') :
    RA w (w'.setCell ⟨w.heap.size + 1 + 1, i, none⟩ (.string (if i < f then fs i else { data := #[] }))) U r g n P fs fo f (i + 1) := by
  obtain ⟨k0, k1, k2, ⟨Z0, z0, e0⟩, ⟨Z1, z1, e1⟩, k5, k6⟩ := h.read hr hrs hk
  refine ⟨k0.other (w.heap.size + 1 + 1) (fun k hk => heap_setCell_other w' _ k _ hk) (by omega) (by omega) (by omega), kb_new k1 (by omega), by simpa [World.setCell] using k2, ⟨Z0, z0, ?_⟩, ⟨Z1, z1, ?_⟩, ?_, ?_⟩
  · exact (other_block (by omega)).trans e0
  · exact (other_block (by omega)).trans e1
  · rw [heap_setCell_same w' (w.heap.size + 1 + 1) i _ 38 _ k5, SL_set fs f i hi]
  · rw [OL_same fo f i ho]; exact (other_block (by omega)).trans k6

theorem RA.storeO {w wr w' : World} {U r : Nat} {g : Nat → Int} {n : Nat} {P : Nat → Nat} {fs : Nat → ByteArray} {fo : Nat → Int} {f i : Nat} (h : RA w wr U r g n P fs fo f i) (hr : r < w.heap.size) (hU : U ≤ r) (hi : i < 17) (hs : fs i = { data := #[] }) (hrs : RS w' U (w.heap.size + 1 + 1 + 1 + 1) r g n P f (i + 1)) (hk : Kb r wr w') :
    RA w (w'.setCell ⟨w.heap.size + 1 + 1 + 1, i, none⟩ (.int .u8 (if i < f then fo i else 0))) U r g n P fs fo f (i + 1) := by
  obtain ⟨k0, k1, k2, ⟨Z0, z0, e0⟩, ⟨Z1, z1, e1⟩, k5, k6⟩ := h.read hr hrs hk
  refine ⟨k0.other (w.heap.size + 1 + 1 + 1) (fun k hk => heap_setCell_other w' _ k _ hk) (by omega) (by omega) (by omega), kb_new k1 (by omega), by simpa [World.setCell] using k2, ⟨Z0, z0, ?_⟩, ⟨Z1, z1, ?_⟩, ?_, ?_⟩
  · exact (other_block (by omega)).trans e0
  · exact (other_block (by omega)).trans e1
  · rw [SL_same fs f i hs]; exact (other_block (by omega)).trans k5
  · rw [heap_setCell_same w' (w.heap.size + 1 + 1 + 1) i _ 39 _ k6, OL_set fo f i hi]

theorem four (w : World) (A B C D : Obj) : ((((w.alloc A).alloc B).alloc C).alloc D).heap[w.heap.size]? = some A ∧ ((((w.alloc A).alloc B).alloc C).alloc D).heap[w.heap.size + 1]? = some B ∧ ((((w.alloc A).alloc B).alloc C).alloc D).heap[w.heap.size + 1 + 1]? = some C ∧ ((((w.alloc A).alloc B).alloc C).alloc D).heap[w.heap.size + 1 + 1 + 1]? = some D ∧
    ((((w.alloc A).alloc B).alloc C).alloc D).heap.size = w.heap.size + 1 + 1 + 1 + 1 ∧ (∀ r, Kb r w ((((w.alloc A).alloc B).alloc C).alloc D)) := by
  obtain ⟨h1, h2, h3, h4, h5⟩ := three w A B C
  have h6 := heap_alloc_new (((w.alloc A).alloc B).alloc C) D
  have h7 : (((w.alloc A).alloc B).alloc C).heap.size = w.heap.size + 1 + 1 + 1 := by simp
  rw [h7] at h6
  exact ⟨(Below.heap_alloc _ _ _ (by omega)).trans h1, (Below.heap_alloc _ _ _ (by omega)).trans h2, (Below.heap_alloc _ _ _ (by omega)).trans h3, h6, by simp, fun r => ((((Kb.refl r w).alloc A).alloc B).alloc C).alloc D⟩

/-- A row or a struct? -/
def d_isRow : TypeDesc → Bool
  | .struct _ | .array _ _ => true
  | _ => false

/-- A whole row read, at a step of a region that draws its order. -/
theorem ldStep {w : World} {ops : Array Oper} {o : Oper} {a : Act} {K : Act → World → Prop} {Q : Exit → Act → World → Prop} {E : Prop} (hgd : o.guard = none) (ty : TypeId) (x : Operand) (ho : o.op = .load ty x)
    (g : Nat) (hx : a.eval x = .pointer (some ⟨g, 0, none⟩)) (t : TypeId) (V : Array Value) (fr : Nat × Nat) (d : TypeDesc) (hg : w.heap[g]? = some (.cells V t fr))
    (hu : Try.prog.underlying ty = some d) (hd : d.isRow = true) (hi : (Try.prog.info? ty).map (·.size) = some V.size) (h : K (a.put o.dst (.agg V)) w) :
    if Region.wanted o (yielded ops a.tmps) = true then Oper.wp Try.prog o a w K Q else E := by
  have hw : Region.wanted o (yielded ops a.tmps) = true := by simp [Region.wanted, hgd]
  rw [if_pos hw]
  exact wp_load_row ty x ho g hx t V fr d hg hu (by cases d <;> simp_all) hi h
/-- A whole row written, likewise. -/
theorem stStep {w : World} {ops : Array Oper} {o : Oper} {a : Act} {K : Act → World → Prop} {Q : Exit → Act → World → Prop} {E : Prop} (hgd : o.guard = none) (k : Nat) (ty : TypeId) (hk : (Try.prog.info? ty).map (·.size) = some k)
    (x y : Operand) (ho : o.op = .store ty x y) (g : Nat) (hx : a.eval x = .pointer (some ⟨g, 0, none⟩)) (V Z : Array Value) (hy : a.eval y = .agg V) (t : TypeId) (hg : w.heap[g]? = some (.cells Z t (0, 0))) (hZ : Z.size = k) (hV : V.size = k) (h1 : V.all (·.oneCell') = true)
    (h : K (a.put o.dst undef) (w.setRow g V)) :
    if Region.wanted o (yielded ops a.tmps) = true then Oper.wp Try.prog o a w K Q else E := by
  have hw : Region.wanted o (yielded ops a.tmps) = true := by simp [Region.wanted, hgd]
  rw [if_pos hw]
  unfold Oper.wp execOp
  simp only [ho, hx, hy, Instr.storeAt, Instr.sureAddr, Sem.run_bind, Sem.run_pure, Result.andThen_ok, run_storeVar_row (P := Try.prog) w g t ty Z V hg (by rw [hk, hV]) (by rw [hZ, hV]) h1]
  exact h

/-- What is left behind the two last stores. -/
theorem fin14 {w wr : World} {U r : Nat} {g : Nat → Int} {n : Nat} {P : Nat → Nat} {fs : Nat → ByteArray} {fo : Nat → Int} {f i : Nat} (h : RA w wr U r g n P fs fo f i) (hr : r < w.heap.size) (hU : U ≤ r) :
    ∀ w', (∀ k, k ≠ w.heap.size → k ≠ w.heap.size + 1 → w'.heap[k]? = wr.heap[k]?) → w'.os = wr.os → w'.tape = wr.tape → w'.output = wr.output → wr.heap.size ≤ w'.heap.size → RS w' U w.heap.size r g n P f i ∧ Kb r w w' := by
  intro w' hk h1 h2 h3 h4
  refine ⟨?_, h1.trans h.kb.os, h2.trans h.kb.tape, h3.trans h.kb.output, Nat.le_trans h.kb.size h4, fun k hk1 hk2 => (hk k (by omega) (by omega)).trans (h.kb.keep k hk1 hk2)⟩
  have hB : ∀ {ao : Option Addr} {n c : Nat} {f : Nat → Int}, Bd wr U ao n c f → Bd w' U ao n c f := by
    intro ao n c f hb
    rcases hb with hb | ⟨b, o, e1, e0, e2, e3⟩
    · exact .inl hb
    · exact .inr ⟨b, o, e1, e0, e2, fun i hi => by rw [← e3 i hi]; exact World.cell?_of_block (w := wr) (hk b (by omega) (by omega))⟩
  rcases h.rs with ⟨hi, ao, c, hrd, hb⟩ | ⟨hi, ao, c, ⟨fe, hrd, hD, hfe⟩, hb⟩
  · exact .inl ⟨hi, ao, c, (hk r (by omega) (by omega)).trans hrd, hB hb⟩
  · exact .inr ⟨hi, ao, c, ⟨fe, (hk r (by omega) (by omega)).trans hrd, by omega, (hk fe (by omega) (by omega)).trans hfe⟩, hB hb⟩

theorem results_two {fn : Func} {p q : Tmp} {ta tb : TypeId} (h : fn.results = #[.cell p ta, .cell q tb]) (tmps : Array Value) (w : World) (ga gb : Nat) (A B : Array Value) (da db : TypeDesc)
    (hp : tmps.getD p undef = .pointer (some ⟨ga, 0, none⟩)) (hq : tmps.getD q undef = .pointer (some ⟨gb, 0, none⟩)) (hga : w.heap[ga]? = some (.cells A ta (0, 0))) (hgb : w.heap[gb]? = some (.cells B tb (0, 0)))
    (hua : Try.prog.underlying ta = some da) (hda : d_isRow da = true) (hia : (Try.prog.info? ta).map (·.size) = some A.size) (hub : Try.prog.underlying tb = some db) (hdb : d_isRow db = true) (hib : (Try.prog.info? tb).map (·.size) = some B.size) :
    (results fn tmps).run Try.prog w = .ok (.tuple #[.agg A, .agg B]) w := by
  have hp' : tmps[p]?.getD undef = .pointer (some ⟨ga, 0, none⟩) := by simpa using hp
  have hq' : tmps[q]?.getD undef = .pointer (some ⟨gb, 0, none⟩) := by simpa using hq
  have l1 := run_loadVar_row (P := Try.prog) w ga ta ta A (0, 0) da hga hua (by cases da <;> simp_all [d_isRow]) hia
  have l2 := run_loadVar_row (P := Try.prog) w gb tb tb B (0, 0) db hgb hub (by cases db <;> simp_all [d_isRow]) hib
  simp [results, h, hp', hq', asAddr, l1, l2]

set_option maxHeartbeats 4000000 in
set_option maxRecDepth 100000 in
theorem all14 {g : Nat → Int} {n : Nat} {P : Nat → Nat} {fs : Nat → ByteArray} {fo : Nat → Int} {f : Nat} (L : Lay g n P fs fo) (C : Cut P n f) (w : World) (r U : Nat) (ao : Option Addr) (c : Nat) (h : Rd w r ao n c none) (hb : Bd w U ao n c g) (hU : U ≤ r) (hn : n ≤ 2097152) :
    Calls Try.prog 14 #[.pointer (some ⟨r, 0, none⟩)] w fun e w' => e = .returned (.tuple #[.agg (SL fs f 17).toArray, .agg (OL fo f 17).toArray]) ∧ RS w' U w.heap.size r g n P f 17 ∧ Kb r w w' := by
  have hr : r < w.heap.size := (Array.getElem?_eq_some_iff.1 h).1
  go_enter Try.func14, Try.ntmps14
  go_wp2
  go_loopw [6] (fun t wr => ∃ i : Nat, i ≤ 17 ∧ t = .int .i64 (i : Int) ∧ RA w wr U r g n P fs fo f i) (fun t _ => 17 - (intOf t).toNat)
  case atStart =>
    obtain ⟨h1, h2, h3, h4, h5, h6⟩ := four w (.cells (SL fs f 0).toArray 38) (.cells (OL fo f 0).toArray 39) (.cells (SL fs f 0).toArray 38) (.cells (OL fo f 0).toArray 39)
    have hrs : RS w U w.heap.size r g n P f 0 := .inl ⟨by omega, ao, c, by rw [L.p0]; exact h, by
      rw [L.p0]
      have : (fun j => g (0 + j)) = g := by funext j; rw [Nat.zero_add]
      rw [this]; exact hb⟩
    have hrs2 : ∀ w', (∀ r, Kb r w w') → RS w' U (w.heap.size + 1 + 1 + 1 + 1) r g n P f 0 := by
      intro w' hk
      rcases hrs with ⟨_, ao, c, h7, h8⟩ | ⟨h7, _⟩
      · exact .inl ⟨by omega, ao, c, (hk r).heap' (fun k hk' => (hk w.heap.size).keep k hk' (Nat.ne_of_lt hk')) h7, h8.kb (hk r) hU⟩
      · omega
    exact ⟨0, by omega, rfl, hrs2 _ h6, h6 r, Nat.le_of_eq h5.symm, ⟨_, rfl, h1⟩, ⟨_, rfl, h2⟩, h3, h4⟩
  case round =>
    obtain ⟨i, hi, rfl, hra⟩ := hrel
    by_cases hlt : i < 17
    · have hL : (i : Int) < 17 := by omega
      have c22 := isC22 i hlt
      have c23 := name23 i hlt
      cases hc : isC i
      · rw [hc] at c22
        go_wp2_with (first | (go_at_call 22; refine (c22 _).mono ?_; rintro e wz ⟨rfl, hz⟩; have hz' := hz.symm; subst hz'; clear hz) | (go_at_call 23; refine (c23 _).mono ?_; rintro e wz ⟨rfl, hz⟩; have hz' := hz.symm; subst hz'; clear hz) | fail)
        refine (readO L C hra.rs hlt hc hU hn hra.sz (by omega)).mono ?_
        rintro e w1 ⟨rfl, hrs, hk⟩
        have A := hra.storeO hr hU hlt (L.sE i hlt hc) hrs hk
        obtain ⟨_, _, _, _, _, _, k6⟩ := hra.read hr hrs hk
        have cX := cellOf k6 (by simpa using OL_get fo f i i hlt)
        have fX : w1.frozen? ⟨w.heap.size + 1 + 1 + 1, i, none⟩ = false := frozen_of_row _ _ _ _ _ k6
        generalize (if i < f then fo i else 0) = z at *
        clear k6 hrs hk hra c22 c23 hc
        go_wp2
        go_roundw
        case rel => exact ⟨i + 1, by omega, by go_num, A⟩
        case measure => simp [intOf]; omega
      · rw [hc] at c22
        go_wp2_with (first | (go_at_call 22; refine (c22 _).mono ?_; rintro e wz ⟨rfl, hz⟩; have hz' := hz.symm; subst hz'; clear hz) | (go_at_call 23; refine (c23 _).mono ?_; rintro e wz ⟨rfl, hz⟩; have hz' := hz.symm; subst hz'; clear hz) | fail)
        refine (readC L C hra.rs hlt hc hU hn hra.sz (by omega)).mono ?_
        rintro e w1 ⟨rfl, hrs, hk⟩
        have A := hra.storeS hr hU hlt (L.oE i hlt hc) hrs hk
        obtain ⟨_, _, _, _, _, k5, _⟩ := hra.read hr hrs hk
        have cX := cellOf k5 (by simpa using SL_get fs f i i hlt)
        have fX : w1.frozen? ⟨w.heap.size + 1 + 1, i, none⟩ = false := frozen_of_row _ _ _ _ _ k5
        generalize (if i < f then fs i else { data := #[] }) = z at *
        clear k5 hrs hk hra c22 c23 hc
        go_wp2
        go_roundw
        case rel => exact ⟨i + 1, by omega, by go_num, A⟩
        case measure => simp [intOf]; omega
    · obtain rfl : i = 17 := by omega
      obtain ⟨Z0, z0, e0⟩ := hra.b0
      obtain ⟨Z1, z1, e1⟩ := hra.b1
      have b2 := hra.b2
      have b3 := hra.b3
      have hz := hra.sz
      have hi38 : (Try.prog.info? 38).map (·.size) = some (SL fs f 17).toArray.size := by rw [List.size_toArray, SL_len]; kernel_rfl
      have hi39 : (Try.prog.info? 39).map (·.size) = some (OL fo f 17).toArray.size := by rw [List.size_toArray, OL_len]; kernel_rfl
      have hls : (SL fs f 17).toArray.size = 17 := by simp [SL_len]
      have hlo : (OL fo f 17).toArray.size = 17 := by simp [OL_len]
      have h1s : (SL fs f 17).toArray.all (·.oneCell') = true := all_oneCell_toArray (by
        intro v hv; simp [SL] at hv; obtain ⟨_, _, rfl⟩ := hv; rfl)
      have h1o : (OL fo f 17).toArray.all (·.oneCell') = true := all_oneCell_toArray (by
        intro v hv; simp [OL] at hv; obtain ⟨_, _, rfl⟩ := hv; rfl)
      have hfin := fin14 hra hr hU
      generalize hsl : (SL fs f 17).toArray = sl at *
      generalize hol : (OL fo f 17).toArray = ol at *
      have HSL : Hid ((SL fs f 17).toArray = sl) := hsl
      have HOL : Hid ((OL fo f 17).toArray = ol) := hol
      have I38 : Hid _ := hi38
      have I39 : Hid _ := hi39
      have LS : Hid _ := hls
      have LO : Hid _ := hlo
      have OS : Hid _ := h1s
      have OO : Hid _ := h1o
      have Y0 : Hid _ := e0
      have Y1 : Hid _ := e1
      have B2 : Hid _ := b2
      have B3 : Hid _ := b3
      have Z0' : Hid _ := z0
      have Z1' : Hid _ := z1
      have FIN : Hid _ := hfin
      have S38 : Hid ((Try.prog.info? 38).map (·.size) = some 17) := by show _ = _; kernel_rfl
      have S39 : Hid ((Try.prog.info? 39).map (·.size) = some 17) := by show _ = _; kernel_rfl
      clear hra e0 e1 h hb hi38 hi39 hls hlo h1s h1o b2 b3 z0 z1 hfin hsl hol
      go_wp2
      refine wp_region_any (by kernel_rfl) ?_
      refine wpAny_ready (rs := [0, 1]) (by kernel_rfl) (by simp) ?_
      refine AllReady.cons rfl (fun K hK => ?_) (AllReady.cons rfl (fun K hK => ?_) AllReady.nil)
      · refine ldStep rfl 38 (.tmp 4) rfl (w.heap.size + 1 + 1) rfl 38 sl (0, 0) _ B2.out Try.underlying38 rfl I38.out (hK _ _ ?_)
        clear hK K
        refine wpAny_ready (rs := [1, 2]) (by kernel_rfl) (by simp) ?_
        refine AllReady.cons rfl (fun K hK => ?_) (AllReady.cons rfl (fun K hK => ?_) AllReady.nil)
        · refine ldStep rfl 39 (.tmp 5) rfl (w.heap.size + 1 + 1 + 1) rfl 39 ol (0, 0) _ B3.out Try.underlying39 rfl I39.out (hK _ _ ?_)
          clear hK K
          refine wpAny_ready (rs := [2]) (by kernel_rfl) (by simp) ?_
          refine AllReady.cons rfl (fun K hK => ?_) AllReady.nil
          refine stStep rfl 17 38 S38.out (.tmp 2) (.tmp 25) rfl w.heap.size rfl sl Z0 rfl 38 Y0.out Z0'.out LS.out OS.out (hK _ _ ?_)
          clear hK K
          refine wpAny_ready (rs := [3]) (by kernel_rfl) (by simp) ?_
          refine AllReady.cons rfl (fun K hK => ?_) AllReady.nil
          refine stStep rfl 17 39 S39.out (.tmp 3) (.tmp 26) rfl (w.heap.size + 1) rfl ol Z1 rfl 39 ((setRow_other _ _ _ _ (by omega)).trans Y1.out) Z1'.out LO.out OO.out (hK _ _ ?_)
          clear hK K
          refine wpAny_done (by kernel_rfl) ?_ _
          go_wp2
          exact bodyPost_ret (v := .tuple #[.agg sl, .agg ol]) (results_two rfl _ _ w.heap.size (w.heap.size + 1) sl ol _ _ rfl rfl ((setRow_other _ _ _ _ (by omega)).trans (setRow_heap _ _ _ _ _ _ Y0.out)) (setRow_heap _ _ _ _ _ _ ((setRow_other _ _ _ _ (by omega)).trans Y1.out)) Try.underlying38 rfl I38.out Try.underlying39 rfl I39.out) rfl ⟨by rw [HSL.out, HOL.out], FIN.out _ (fun k h1 h2 => (setRow_other _ _ _ _ h2).trans (setRow_other _ _ _ _ h1)) rfl rfl rfl (by simp [World.setRow])⟩
        · refine stStep rfl 17 38 S38.out (.tmp 2) (.tmp 25) rfl w.heap.size rfl sl Z0 rfl 38 Y0.out Z0'.out LS.out OS.out (hK _ _ ?_)
          clear hK K
          refine wpAny_ready (rs := [1]) (by kernel_rfl) (by simp) ?_
          refine AllReady.cons rfl (fun K hK => ?_) AllReady.nil
          refine ldStep rfl 39 (.tmp 5) rfl (w.heap.size + 1 + 1 + 1) rfl 39 ol (0, 0) _ ((setRow_other _ _ _ _ (by omega)).trans B3.out) Try.underlying39 rfl I39.out (hK _ _ ?_)
          clear hK K
          refine wpAny_ready (rs := [3]) (by kernel_rfl) (by simp) ?_
          refine AllReady.cons rfl (fun K hK => ?_) AllReady.nil
          refine stStep rfl 17 39 S39.out (.tmp 3) (.tmp 26) rfl (w.heap.size + 1) rfl ol Z1 rfl 39 ((setRow_other _ _ _ _ (by omega)).trans Y1.out) Z1'.out LO.out OO.out (hK _ _ ?_)
          clear hK K
          refine wpAny_done (by kernel_rfl) ?_ _
          go_wp2
          exact bodyPost_ret (v := .tuple #[.agg sl, .agg ol]) (results_two rfl _ _ w.heap.size (w.heap.size + 1) sl ol _ _ rfl rfl ((setRow_other _ _ _ _ (by omega)).trans (setRow_heap _ _ _ _ _ _ Y0.out)) (setRow_heap _ _ _ _ _ _ ((setRow_other _ _ _ _ (by omega)).trans Y1.out)) Try.underlying38 rfl I38.out Try.underlying39 rfl I39.out) rfl ⟨by rw [HSL.out, HOL.out], FIN.out _ (fun k h1 h2 => (setRow_other _ _ _ _ h2).trans (setRow_other _ _ _ _ h1)) rfl rfl rfl (by simp [World.setRow])⟩
      · refine ldStep rfl 39 (.tmp 5) rfl (w.heap.size + 1 + 1 + 1) rfl 39 ol (0, 0) _ B3.out Try.underlying39 rfl I39.out (hK _ _ ?_)
        clear hK K
        refine wpAny_ready (rs := [0]) (by kernel_rfl) (by simp) ?_
        refine AllReady.cons rfl (fun K hK => ?_) AllReady.nil
        refine ldStep rfl 38 (.tmp 4) rfl (w.heap.size + 1 + 1) rfl 38 sl (0, 0) _ B2.out Try.underlying38 rfl I38.out (hK _ _ ?_)
        clear hK K
        refine wpAny_ready (rs := [2]) (by kernel_rfl) (by simp) ?_
        refine AllReady.cons rfl (fun K hK => ?_) AllReady.nil
        refine stStep rfl 17 38 S38.out (.tmp 2) (.tmp 25) rfl w.heap.size rfl sl Z0 rfl 38 Y0.out Z0'.out LS.out OS.out (hK _ _ ?_)
        clear hK K
        refine wpAny_ready (rs := [3]) (by kernel_rfl) (by simp) ?_
        refine AllReady.cons rfl (fun K hK => ?_) AllReady.nil
        refine stStep rfl 17 39 S39.out (.tmp 3) (.tmp 26) rfl (w.heap.size + 1) rfl ol Z1 rfl 39 ((setRow_other _ _ _ _ (by omega)).trans Y1.out) Z1'.out LO.out OO.out (hK _ _ ?_)
        clear hK K
        refine wpAny_done (by kernel_rfl) ?_ _
        go_wp2
        exact bodyPost_ret (v := .tuple #[.agg sl, .agg ol]) (results_two rfl _ _ w.heap.size (w.heap.size + 1) sl ol _ _ rfl rfl ((setRow_other _ _ _ _ (by omega)).trans (setRow_heap _ _ _ _ _ _ Y0.out)) (setRow_heap _ _ _ _ _ _ ((setRow_other _ _ _ _ (by omega)).trans Y1.out)) Try.underlying38 rfl I38.out Try.underlying39 rfl I39.out) rfl ⟨by rw [HSL.out, HOL.out], FIN.out _ (fun k h1 h2 => (setRow_other _ _ _ _ h2).trans (setRow_other _ _ _ _ h1)) rfl rfl rfl (by simp [World.setRow])⟩
end Go.Proofs.Qxb6602209a
