import Derived.Test.Qxb6602209aHelp
namespace Go.Proofs.Qxb6602209a
open Go.ChangeShapes Go.WideShapes Go.ChangeAt Go.RowKit
set_option linter.unusedVariables false

set_option maxHeartbeats 8000000 in
set_option maxRecDepth 100000 in
theorem law3_road (a0 : Option Addr) (n0 c0 : Nat) (z0 : List Int) (V : Array Value) (m : M) (hM : IsM V m) (zS zO : List Int) (w : World) (w0 : In w a0 n0 c0 z0) (wS : In w m.aS m.nS m.cS zS) (wO : In w m.aO m.nO m.cO zO)
    (hb : n0 + m.s0.size + m.s3.size + m.s6.size + m.s10.size + m.s11.size + m.nS + m.nO ≤ 1048576)
    (u0 : nul m.s0 = false) (u3 : nul m.s3 = false) (u6 : nul m.s6 = false) (u10 : nul m.s10 = false) (u11 : nul m.s11 = false) (h255 : m.nS ≤ 255)
    (hby : ∀ z ∈ [m.b1, m.b2, m.b4, m.b5, m.b7, m.b8, m.b9, m.b12, m.b13, m.b14, m.b15], 0 ≤ z ∧ z < 256) :
    Calls Try.prog 3 #[.slice a0 n0 c0, .agg V] w fun e w' => e = .returned (.bool true) ∧ Below w.heap.size w w' := by
  have HI : Hid ((Try.prog.info? 24).map (·.size) = some V.size) := by show _ = _; rw [Try.size24, hM.size]
  go_enter Try.func3, Try.ntmps3
  go_wp2_with (first | (refine wpList_load_row rfl 24 (.tmp 3) rfl _ rfl 24 V (0, 0) _ (heap_alloc_new w _) Try.underlying24 rfl HI.out ?_) | fail)
  refine (bytes6V hM _ _ _ _ hb).mono ?_
  rintro e w1 ⟨rfl, b1⟩
  have B1 : Below w.heap.size w w1 := ((Below.refl _ _).alloc (Nat.le_refl _) _).trans (b1.mono (by simp))
  have s1 : w.heap.size < w1.heap.size := by have := b1.size; simp at this; omega
  have A1 : Hid (w1.heap[w.heap.size]? = some (.cells V 24 (0, 0))) := below_at b1 (by simp) (heap_alloc_new w _)
  clear b1
  go_wp2_with (first | (refine wpList_load_row rfl 24 (.tmp 3) rfl _ rfl 24 V (0, 0) _ A1.out Try.underlying24 rfl HI.out ?_) | fail)
  refine (tooBig7V hM _ _ _ _ hb).mono ?_
  rintro e w2 ⟨rfl, b2⟩
  have B2 : Below w.heap.size w w2 := B1.trans (b2.mono (by omega))
  have s2 : w.heap.size < w2.heap.size := Nat.lt_of_lt_of_le s1 b2.size
  have A2 : Hid (w2.heap[w.heap.size]? = some (.cells V 24 (0, 0))) := below_at b2 s1 A1.out
  clear b2 A1 B1 s1
  go_wp2_with (first | (refine wpList_load_row rfl 24 (.tmp 3) rfl _ rfl 24 V (0, 0) _ A2.out Try.underlying24 rfl HI.out ?_) | fail)
  refine (nulFree8V hM _ (by unfold maxLen; omega) (by unfold maxLen; omega) (by unfold maxLen; omega) (by unfold maxLen; omega) (by unfold maxLen; omega) u0 u3 u6 u10 u11).mono ?_
  rintro e w3 ⟨rfl, b3⟩
  have B3 : Below w.heap.size w w3 := B2.trans (b3.mono (by omega))
  have s3 : w.heap.size < w3.heap.size := Nat.lt_of_lt_of_le s2 b3.size
  have A3 : Hid (w3.heap[w.heap.size]? = some (.cells V 24 (0, 0))) := below_at b3 s2 A2.out
  have x16 : w3.cell? ⟨w.heap.size, 16, none⟩ = some (.slice m.aS m.nS m.cS) := cellOf A3.out hM.f16
  clear b3 A2 B2 s2
  go_wp2_with fail
  refine (clone_ow (w0.below B3) (by omega)).mono ?_
  rintro e w4 ⟨ao, rfl, o4, k4, b4⟩
  have B4 : Below w.heap.size w w4 := B3.trans (b4.mono (by omega))
  have s4 : w.heap.size < w4.heap.size := Nat.lt_of_lt_of_le s3 b4.size
  have A4 : Hid (w4.heap[w.heap.size]? = some (.cells V 24 (0, 0))) := below_at b4 s3 A3.out
  clear A3 x16
  go_wp2_with (first | (refine wpList_load_row rfl 24 (.tmp 3) rfl _ rfl 24 V (0, 0) _ A4.out Try.underlying24 rfl HI.out ?_) | fail)
  refine (cloneMsg10 V hM.size hM.one w4 m.aS m.aO m.nS m.cS m.nO m.cO zS zO hM.f16 hM.f17 (wS.below B4) (wO.below B4) (by omega) (by omega)).mono ?_
  rintro e w5 ⟨aS', aO', rfl, sS5, sO5, b5⟩
  have hM' := isM_set hM aS' aO'
  have hV' := hM'.size
  obtain ⟨m2, hm2⟩ : ∃ m2 : M, { m with aS := aS', cS := m.nS, aO := aO', cO := m.nO } = m2 := ⟨_, rfl⟩
  have e2 : m2.s0 = m.s0 ∧ m2.s3 = m.s3 ∧ m2.s6 = m.s6 ∧ m2.s10 = m.s10 ∧ m2.s11 = m.s11 ∧ m2.nS = m.nS ∧ m2.nO = m.nO ∧ m2.aS = aS' ∧ m2.aO = aO' ∧ m2.cS = m.nS ∧ m2.cO = m.nO := by rw [← hm2]; exact ⟨rfl, rfl, rfl, rfl, rfl, rfl, rfl, rfl, rfl, rfl, rfl⟩
  have hby2 : ∀ z ∈ [m2.b1, m2.b2, m2.b4, m2.b5, m2.b7, m2.b8, m2.b9, m2.b12, m2.b13, m2.b14, m2.b15], 0 ≤ z ∧ z < 256 := by rw [← hm2]; exact hby
  rw [hm2] at hM'
  clear hm2 hby
  generalize hVV : (V.setIfInBounds 16 (.slice aS' m.nS m.nS)).setIfInBounds 17 (.slice aO' m.nO m.nO) = V' at *
  clear hVV
  have B5 : Below w.heap.size w w5 := B4.trans (b5.mono (by omega))
  have s5 : w.heap.size < w5.heap.size := Nat.lt_of_lt_of_le s4 b5.size
  have A5 : Hid (w5.heap[w.heap.size]? = some (.cells V 24 (0, 0))) := below_at b5 s4 A4.out
  have hne : blk ao ≠ some w.heap.size := fun h => by have := k4 _ h; omega
  have B6 : Below w.heap.size w (w5.setRow w.heap.size V') := below_setRow B5 (Nat.le_refl _) _
  have A6 : Hid ((w5.setRow w.heap.size V').heap[w.heap.size]? = some (.cells V' 24 (0, 0))) := setRow_heap _ _ _ _ _ _ A5.out
  have o6 : Ow (w5.setRow w.heap.size V') ao n0 n0 _ := (o4.below b5).other hne (fun k hk => setRow_other _ _ _ _ hk)
  have sS6 := sS5.setRow (g := w.heap.size) (by omega) V'
  have sO6 := sO5.setRow (g := w.heap.size) (by omega) V'
  have s6 : w.heap.size < (w5.setRow w.heap.size V').heap.size := by simpa [World.setRow] using s5
  have s64 : w4.heap.size ≤ (w5.setRow w.heap.size V').heap.size := by simpa [World.setRow] using b5.size
  clear b4 b5 A4 sS5 sO5 o4 B4 B3
  have HI' : Hid ((Try.prog.info? 24).map (·.size) = some V'.size) := by show _ = _; rw [Try.size24, hV']
  have HV : Hid (V.size = 18) := hM.size
  have HV' : Hid (V'.size = 18) := hV'
  have H1' : Hid (V'.all (·.oneCell') = true) := hM'.one
  clear hV'
  go_wp2_with (first | (refine stRow 18 24 Try.size24 rfl (.tmp 3) (.tmp 35) rfl w.heap.size rfl V' V rfl 24 A5.out HV.out HV'.out H1'.out ?_) | (refine wpList_load_row rfl 24 (.tmp 3) rfl _ rfl 24 V' (0, 0) _ A6.out Try.underlying24 rfl HI'.out ?_) | fail)
  generalize w5.setRow w.heap.size V' = w6 at *
  clear A5 B5 s5 w5
  refine (toMsg11 V' _ hM' _).mono ?_
  rintro e w7 ⟨rfl, b7⟩
  have B7 : Below w.heap.size w w7 := B6.trans (b7.mono (by omega))
  have s7 : w.heap.size < w7.heap.size := Nat.lt_of_lt_of_le s6 b7.size
  have A7 := below_at b7 s6 A6.out
  have o7 := o6.below b7
  have sS7 := sS6.below b7
  have sO7 := sO6.below b7
  have s74 : w4.heap.size ≤ w7.heap.size := Nat.le_trans s64 b7.size
  clear b7 A6 o6 sS6 sO6 s64 s6 B6
  go_wp2_with (first | (refine alRow 18 32 _ Try.zero32 rfl rfl rfl (fun Z HZ => ?_)) | (refine stRow 18 32 Try.size32 rfl (.tmp 5) (.tmp 37) rfl w7.heap.size rfl V' _ rfl 32 (heap_alloc_new w7 _) (by assumption : Hid _).out HV'.out H1'.out ?_; rw [World.setRow_alloc_new]) | fail)
  have o8 := o7.alloc (.cells V' 32)
  have al8 : Below w7.heap.size w7 (w7.alloc (.cells V' 32)) := (Below.refl _ _).alloc (Nat.le_refl _) _
  have sS8 := sS7.below al8
  have sO8 := sO7.below al8
  have A8 := below_at al8 s7 A7
  have p8 : (w7.alloc (.cells V' 32)).heap[w7.heap.size]? = some (.cells V' 32 (0, 0)) := heap_alloc_new _ _
  have B8 : Below w.heap.size w (w7.alloc (.cells V' 32)) := B7.trans (al8.mono (by omega))
  have s8 : w.heap.size < (w7.alloc (.cells V' 32)).heap.size := Nat.lt_of_lt_of_le s7 al8.size
  have hp8 : some w7.heap.size ≠ blk ao := fun h => by have := k4 _ h.symm; omega
  have hB8 : ∀ g, blk ao = some g → g < w4.heap.size + 1 := fun g h => by have := k4 _ h; omega
  generalize w7.alloc (.cells V' 32) = w8 at *
  clear o7 sS7 sO7 A7 B7 al8
  rename_i hb255
  obtain ⟨q0, q3, q6, q10, q11, qS, qO, qaS, qaO, qcS, qcO⟩ := e2
  replace sS8 : Sl w8 (w4.heap.size + 1) m2.aS m2.nS m2.cS (fun i => zS.getD i 0) := by rw [qaS, qS, qcS]; exact sS8
  replace sO8 : Sl w8 (w4.heap.size + 1) m2.aO m2.nO m2.cO (fun i => zO.getD i 0) := by rw [qaO, qO, qcO]; exact sO8
  refine (app12 V' m2 hM' w8 o8 p8 hp8 _ _ sS8 sO8 hB8 (by rw [q0, q3, q6, q10, q11, qS, qO]; exact hb)).mono ?_
  rintro e w9 ⟨ao', N, c', rfl, o9, g9⟩
  have B9 : Below w.heap.size w w9 := B8.trans (g9.below (Nat.le_of_lt s8) (fun g h => by have := k4 _ h; omega))
  have s9 : w.heap.size < w9.heap.size := Nat.lt_of_lt_of_le s8 g9.size
  have A9 : w9.heap[w.heap.size]? = some (.cells V' 24 (0, 0)) := (g9.keep _ s8 (fun h => hne h.symm)).trans A8
  have sS9 := sS8.grew g9 hB8
  have sO9 := sO8.grew g9 hB8
  rw [wrap8] at o9
  have hlen := enc_len m2 ((m2.nS : Int) % 256) ((List.range m2.nS).map fun i => zS.getD i 0) ((List.range m2.nO).map fun i => zO.getD i 0)
  have hEb := enc_bytes m2 ((m2.nS : Int) % 256) ((List.range m2.nS).map fun i => zS.getD i 0) ((List.range m2.nO).map fun i => zO.getD i 0) hby2 (by omega) (map_bytes (by rw [qS]; exact wS.bytes)) (map_bytes (by rw [qO]; exact wO.bytes))
  have hLay := enc_lay m2 ((m2.nS : Int) % 256) ((List.range m2.nS).map fun i => zS.getD i 0) ((List.range m2.nO).map fun i => zO.getD i 0) _ (Nat.le_refl _) (by rw [q0]; exact u0) (by rw [q3]; exact u3) (by rw [q6]; exact u6) (by rw [q10]; exact u10) (by rw [q11]; exact u11) hEb
  have hES : ∀ j, j < m.nS → (enc m2 ((m2.nS : Int) % 256) ((List.range m2.nS).map fun i => zS.getD i 0) ((List.range m2.nO).map fun i => zO.getD i 0)).getD (pos m2 ((m2.nS : Int) % 256) 17 + j) 0 = zS.getD j 0 := by
    intro j hj
    rw [enc_S _ _ _ _ _ (by simp; omega)]
    simp [List.getD_eq_getElem?_getD, qS, hj]
  have hEO : ∀ j, j < m.nO → (enc m2 ((m2.nS : Int) % 256) ((List.range m2.nS).map fun i => zS.getD i 0) ((List.range m2.nO).map fun i => zO.getD i 0)).getD (pos m2 ((m2.nS : Int) % 256) 17 + m.nS + j) 0 = zO.getD j 0 := by
    intro j hj
    have e := enc_O m2 ((m2.nS : Int) % 256) ((List.range m2.nS).map fun i => zS.getD i 0) ((List.range m2.nO).map fun i => zO.getD i 0) j (by simp; omega)
    rw [List.length_map, List.length_range, qS] at e
    rw [qS, e]
    simp [List.getD_eq_getElem?_getD, qO, hj]
  have hP := pos17 m2 ((m2.nS : Int) % 256)
  have hfo : foM m2 ((m2.nS : Int) % 256) 16 = (m.nS : Int) := by show (m2.nS : Int) % 256 = _; omega
  replace hlen := hlen.trans (show _ = 17 + m.s0.size + m.s3.size + m.s6.size + m.s10.size + m.s11.size + m.nS + m.nO by rw [List.length_map, List.length_range, List.length_map, List.length_range, q0, q3, q6, q10, q11, qS, qO])
  rw [q0, q3, q6, q10, q11] at hP
  generalize hE : enc m2 ((m2.nS : Int) % 256) ((List.range m2.nS).map fun i => zS.getD i 0) ((List.range m2.nO).map fun i => zO.getD i 0) = E at *
  clear hE hEb o8 sS8 sO8 A8 p8 hp8 B8 s8 hby2 hne k4 hB8
  obtain ⟨g, rfl, hg9, rfl, hNc, hcm, hcell⟩ := o9.tail (n0 := n0) (by simp) (by omega)
  clear o9
  have hcut := cut_all m2 ((m2.nS : Int) % 256) E.length (by omega)
  have hE1 : E.length ≤ 2097152 := by omega
  have hE2 : pos m2 ((m2.nS : Int) % 256) 17 + m.nS + m.nO ≤ E.length ∧ E.length ≤ pos m2 ((m2.nS : Int) % 256) 17 + m.nS + m.nO := by omega
  have hE3 : 0 < E.length := by omega
  have tS := tabS (fsM m2) 17
  have tO := tabO (foM m2 ((m2.nS : Int) % 256)) 17
  obtain ⟨sl, esl, nsl, osl, hsl⟩ := tS
  obtain ⟨ol, eol, nol, ool, hol⟩ := tO
  have want := want15 V' m2 hM' (by omega)
  rw [esl, eol] at want
  have HWant : Hid _ := want
  have L1 : Hid _ := hES
  have L2 : Hid _ := hEO
  have L3 : Hid _ := hLay
  have L4 : Hid _ := hcell
  have L5 : Hid _ := hsl
  have L6 : Hid _ := hol
  have L7 : Hid _ := osl
  have L8 : Hid _ := ool
  have L9 : Hid _ := nsl
  have L10 : Hid _ := nol
  have A9' : Hid _ := A9
  clear hES hEO hLay hcell hsl hol osl ool nsl nol A9 want
  unfold maxLen at hcm
  clear hlen hP
  have HP : Hid _ := hE2
  clear hE2
  have z1 : (n0 : Int) ≤ ((n0 + E.length : Nat) : Int) := by omega
  have z2 : ((n0 + E.length : Nat) : Int) ≤ (c' : Int) := by omega
  have z3 : (n0 : Int) ≤ (c' : Int) := by omega
  have z4 : n0 ≤ n0 + E.length := by omega
  have z5 : n0 < c' := by omega
  go_wp2_with fail
  refine (new13 _ _ _ _).mono ?_
  rintro e w10 ⟨rfl, hw10⟩
  have K10 : Below w9.heap.size w9 w10 := by rw [hw10]; exact (Below.refl _ _).alloc (Nat.le_refl _) _
  have r10 : Rd w10 w9.heap.size (some ⟨g, n0, none⟩) E.length (c' - n0) none := by rw [hw10]; exact heap_alloc_new _ _
  have z10 : w10.heap.size = w9.heap.size + 1 := by rw [hw10]; simp
  have bd10 : Bd w10 w9.heap.size (some ⟨g, n0, none⟩) E.length (c' - n0) (fun k => E.getD k 0) := .inr ⟨g, n0, rfl, hg9, by omega, fun i hi => (K10.cell (by simpa using hg9)).trans (L4.out i hi)⟩
  clear hw10 z1 z2 z3 z4 z5 hNc hcm
  go_wp2_with fail
  refine (all14 L3.out hcut w10 w9.heap.size w9.heap.size _ _ r10 bd10 (Nat.le_refl _) hE1).mono ?_
  rintro e w11 ⟨rfl, rs, kb⟩
  rw [esl, eol]
  obtain ⟨_, ao3, c3, r11, bd11⟩ := rs.resolve_right (fun h => absurd h.1 (by omega))
  clear rs
  have z11 : w9.heap.size < w11.heap.size := by have := kb.size; omega
  have K11 : Below w9.heap.size w9 w11 := K10.trans (kb.below (Nat.le_refl _) (by omega))
  clear kb K10 r10 bd10 z10
  have S38 : Hid ((Try.prog.info? 38).map (·.size) = some 17) := by show _ = _; kernel_rfl
  have S39 : Hid ((Try.prog.info? 39).map (·.size) = some 17) := by show _ = _; kernel_rfl
  obtain ⟨zv38, hz38, hc38⟩ := Try.zero38
  obtain ⟨zv39, hz39, hc39⟩ := Try.zero39
  have Y38 : Hid _ := hz38
  have Y39 : Hid _ := hz39
  have X38 : Hid _ := hc38
  have X39 : Hid _ := hc39
  clear hz38 hz39 hc38 hc39
  have A11 : Hid (w11.heap[w.heap.size]? = some (.cells V' 24 (0, 0))) := below_at K11 s9 A9'.out
  go_wp2_with (first | (refine alRow 17 38 _ Y38.out X38.out rfl rfl (fun Z1 HZ1 => ?_)) | (refine alRow 17 39 _ Y39.out X39.out rfl rfl (fun Z2 HZ2 => ?_)) | (refine stRow 17 38 S38.out rfl (.tmp 8) (.tmp 53) rfl w11.heap.size rfl sl _ rfl 38 (twoA w11 _ _ _ _) HZ1.out L9.out L7.out ?_) | (refine stRowTwo 17 38 39 S39.out rfl (.tmp 9) (.tmp 54) rfl Z1 Z2 sl ol rfl rfl HZ2 L10 L8 (fun w12 T8 T9 k12 s12 => ?_); have A12 := below_at k12 (Nat.lt_trans s9 z11) A11.out) | (refine wpList_load_row rfl 24 (.tmp 3) rfl _ rfl 24 V' (0, 0) _ A12 Try.underlying24 rfl HI'.out ?_) | fail)
  have K12 : Below w9.heap.size w9 w12 := K11.trans (k12.mono (by omega))
  have r12 : Rd w12 w9.heap.size ao3 _ c3 none := below_at k12 z11 r11
  have bd12 := bd11.below k12 (by omega)
  clear r11 bd11 A11 K11
  refine (HWant.out w12).mono ?_
  rintro e w13 ⟨rfl, k13⟩
  have K13 : Below w9.heap.size w9 w13 := K12.trans (k13.mono (by omega))
  have T8' := below_at k13 (by omega) T8.out
  have T9' := below_at k13 (by omega) T9.out
  have r13 : Rd w13 w9.heap.size ao3 _ c3 none := below_at k13 (by omega) r12
  have bd13 := bd12.below k13 (by omega)
  have s13 : w11.heap.size + 1 < w13.heap.size := Nat.lt_of_lt_of_le s12 k13.size
  clear T8 T9 r12 bd12 k13 k12 K12 s12 A12
  go_wp2_with (first | (refine alRow 17 38 _ Y38.out X38.out rfl rfl (fun Z3 HZ3 => ?_)) | (refine alRow 17 39 _ Y39.out X39.out rfl rfl (fun Z4 HZ4 => ?_)) | (refine stRow 17 38 S38.out rfl (.tmp 10) (.tmp 58) rfl w13.heap.size rfl sl _ rfl 38 (twoA w13 _ _ _ _) HZ3.out L9.out L7.out ?_) | (refine stRowTwo 17 38 39 S39.out rfl (.tmp 11) (.tmp 59) rfl Z3 Z4 sl ol rfl rfl HZ4 L10 L8 (fun w14 T10 T11 k14 s14 => ?_); have T8 : Hid _ := below_at k14 (Nat.lt_of_succ_lt s13) T8'; have T9 : Hid _ := below_at k14 s13 T9'; clear T8' T9') | fail)
  have K14 : Below w9.heap.size w9 w14 := K13.trans (k14.mono (by omega))
  have r14 : Rd w14 w9.heap.size ao3 _ c3 none := below_at k14 (by omega) r13
  have bd14 := bd13.below k14 (by omega)
  clear r13 bd13 K13 k14
  go_loopw [12] (fun t wr => ∃ (i q : Nat), i ≤ 17 ∧ t = .int .i64 (i : Int) ∧ wr = w14.drewN q) (fun t _ => 17 - (intOf t).toNat)
  case atStart => exact ⟨0, 0, by omega, rfl, rfl⟩
  case round =>
    obtain ⟨i, q, hi, rfl, rfl⟩ := hrel
    by_cases hlt : i < 17
    · have hL : (i : Int) < 17 := by omega
      have y1 := L5.out i hlt
      have y2 := L6.out i hlt
      generalize (if i < 17 then fsM m2 i else { data := #[] }) = sv at y1
      generalize (if i < 17 then foM m2 ((m2.nS : Int) % 256) i else 0) = zv at y2
      have x8 := cellOf T8.out y1
      have x9 := cellOf T9.out y2
      have x10 := cellOf T10.out y1
      have x11 := cellOf T11.out y2
      clear y1 y2
      go_wp2
      go_quiet (fail)
      go_wp2
      go_roundw
      case rel => exact ⟨i + 1, q + nq, by omega, by go_num, rfl⟩
      case measure => simp [intOf]; omega
    · obtain rfl : i = 17 := by omega
      rw [show (((17 : Nat)) : Int) = 17 from rfl]
      have y16 := L6.out 16 (by omega)
      rw [if_pos (by omega), hfo] at y16
      have Kq : Below w9.heap.size w9 (w14.drewN q) := K14.trans ⟨rfl, rfl, rfl, Nat.le_refl _, fun _ _ => rfl⟩
      have x9 : (w14.drewN q).cell? ⟨w11.heap.size + 1, 16, none⟩ = some (.int .u8 (m.nS : Int)) := cellOf T9.out y16
      have xa : (w14.drewN q).cell? ⟨w.heap.size, 16, none⟩ = some (.slice m2.aS m.nS m2.cS) := by have := cellOf (below_at Kq s9 A9'.out) hM'.f16; rw [qS] at this; exact this
      have rq : Rd (w14.drewN q) w9.heap.size ao3 _ c3 none := r14
      have bdq : Bd (w14.drewN q) w9.heap.size ao3 _ c3 _ := bd14
      have sq : w9.heap.size < (w14.drewN q).heap.size := Nat.lt_of_lt_of_le (by omega) (Nat.le_of_lt s14)
      generalize w14.drewN q = wq at *
      have byS := sS9.by'
      have byO := sO9.by'
      have hmk := fun w => make_cap (fun i => zS.getD i 0) m.nS (by omega) w
      obtain ⟨F, hF⟩ : ∃ F : Nat → Int, (fun j => E.getD (pos m2 ((m2.nS : Int) % 256) 17 + j) 0) = F := ⟨_, rfl⟩
      have bdq' : Bd wq w9.heap.size ao3 (E.length - pos m2 ((m2.nS : Int) % 256) 17) c3 F := by rw [← hF]; exact bdq
      have hFS : Hid (∀ j, j < m.nS → F j = zS.getD j 0) := by intro j hj; rw [← hF]; exact L1.out j hj
      have hFO : Hid (∀ j, j < m.nO → F (m.nS + j) = zO.getD j 0) := by intro j hj; rw [← hF, ← L2.out j hj]; show E.getD _ 0 = _; rw [Nat.add_assoc]
      have hl := Lp.start sq rq bdq' (show m.nS ≤ 1048576 by omega) (fun i => zS.getD i 0)
      have hnn : E.length - pos m2 ((m2.nS : Int) % 256) 17 = m.nS + m.nO := by have := HP.out; omega
      rw [hnn] at hl
      clear T8 T9 T10 T11 K14 r14 bd14 rq bdq y16 hnn hF bdq' L1 L2 HP
      have KQ : Hid _ := Kq
      have BYS : Hid (By w9 m2.aS m2.nS (fun i => zS.getD i 0)) := byS
      have BYO : Hid (By w9 m2.aO m2.nO (fun i => zO.getD i 0)) := byO
      clear Kq byS byO
      go_wp2
      clear x9 xa hmk
      go_loopw [14, 15] (fun s t wr => ∃ (k : Nat) (ao : Option Addr) (c : Nat), k ≤ m.nS ∧ t = .int .i64 (k : Int) ∧ s = .slice ao k c ∧ Lp wq wr w9.heap.size F (m.nS + m.nO) ao k c) (fun _ t _ => m.nS - (intOf t).toNat)
      case atStart => exact ⟨0, _, _, by omega, rfl, rfl, hl⟩
      case round =>
        obtain ⟨k, ao4, c4, hk, rfl, rfl, lp⟩ := hrel
        clear hl
        by_cases hlt2 : k < m.nS
        · have hkL : (k : Int) < (m.nS : Int) := by omega
          go_wp2_with fail
          refine (lp.step sq (by omega) (by omega) _).mono ?_
          rintro e w1 ⟨z, rfl, ao5, c5, w3, hrun, lp'⟩
          have HR : Hid _ := hrun
          clear hrun lp
          go_wp2_with (first | (at_builtin; refine appArm rfl (.tmp 95) (.tmp 98) 22 22 22 rfl rfl _ _ rfl rfl _ _ HR.out ?_) | fail)
          go_roundw
          case rel => exact ⟨k + 1, ao5, c5, by omega, by go_num, by rfl, lp'⟩
          case measure => simp [intOf]; omega
        · obtain rfl : k = m.nS := by omega
          obtain ⟨ow, own, ⟨ao6, c6, rd6, bd6⟩, kb6⟩ := lp
          have K6 : Below w9.heap.size w9 wr := KQ.out.trans (kb6.below (Nat.le_refl _) (Nat.le_of_lt sq))
          have xa : wr.cell? ⟨w.heap.size, 16, none⟩ = some (.slice aS' m.nS m.nS) := by have := cellOf (below_at K6 s9 A9'.out) hM'.f16; rw [qaS, qS, qcS] at this; exact this
          have xo : wr.cell? ⟨w.heap.size, 17, none⟩ = some (.slice aO' m.nO m.nO) := by have := cellOf (below_at K6 s9 A9'.out) hM'.f17; rw [qaO, qO, qcO] at this; exact this
          have y1 : By wr ao4 m.nS (fun i => zS.getD i 0) := ow.by'.congr hFS.out
          have y2 : By wr aS' m.nS (fun i => zS.getD i 0) := by have := By.below BYS.out K6; rw [qaS, qS] at this; exact this
          have y3 : By wr aO' m.nO (fun i => zO.getD i 0) := by have := By.below BYO.out K6; rw [qaO, qO] at this; exact this
          rw [Nat.add_sub_cancel_left] at rd6 bd6
          have y4 : By wr ao6 m.nO (fun i => zO.getD i 0) := bd6.by'.congr hFO.out
          clear ow own bd6 kb6
          have XO : Hid _ := xo
          have Y1 : Hid (By wr ao4 m.nS (fun i => zS.getD i 0)) := y1
          have Y2 : Hid (By wr aS' m.nS (fun i => zS.getD i 0)) := y2
          have Y3 : Hid (By wr aO' m.nO (fun i => zO.getD i 0)) := y3
          have Y4 : Hid (By wr ao6 m.nO (fun i => zO.getD i 0)) := y4
          have R6 : Hid (Rd wr w9.heap.size ao6 m.nO c6 none) := rd6
          have KK : Hid _ := K6
          clear xo y1 y2 y3 y4 rd6 K6 hk
          go_wp2_with fail
          refine (same17 Y1.out Y2.out (Nat.le_trans h255 (by decide))).mono ?_
          rintro e w15 ⟨rfl, q15, hw15⟩
          have K15 : Below w9.heap.size w9 w15 := by rw [hw15]; exact below_drewN KK.out _
          have rd15 : Rd w15 w9.heap.size ao6 m.nO c6 none := by rw [hw15]; exact R6.out.drewN _
          have xo : w15.cell? ⟨w.heap.size, 17, none⟩ = some (.slice aO' m.nO m.nO) := by rw [hw15]; exact XO.out
          have y5 : By w15 aO' m.nO (fun i => zO.getD i 0) := by rw [hw15]; exact Y3.out.drewN _
          have y6 : By w15 ao6 m.nO (fun i => zO.getD i 0) := by rw [hw15]; exact Y4.out.drewN _
          have Y5 : Hid (By w15 aO' m.nO (fun i => zO.getD i 0)) := y5
          have Y6 : Hid (By w15 ao6 m.nO (fun i => zO.getD i 0)) := y6
          have R15 : Hid (Rd w15 w9.heap.size ao6 m.nO c6 none) := rd15
          have K15' : Hid _ := K15
          clear hw15 Y1 Y2 Y3 Y4 R6 KK XO xa y5 y6 rd15 K15
          go_wp2_with fail
          refine (err18 R15.out).mono ?_
          rintro e w16 ⟨rfl, rfl⟩
          go_wp2_with fail
          go_quiet (first | (go_at_call 19; refine Calls.quiet_of_same (body19 (R15.out.drewN _))) | (go_at_call 17; refine Calls.quiet_of (same17 (Y6.out.drewN _) (Y5.out.drewN _) (by omega))))
          go_wp2
          go_ret
          exact ⟨rfl, B9.trans (below_drewN (K15'.out.mono (by omega)) _)⟩
end Go.Proofs.Qxb6602209a
