import Derived.Test.Qxb6602209aMsg4
namespace Go.Proofs.Qxb6602209a
open Go.ChangeShapes Go.WideShapes Go.ChangeAt Go.RowKit
set_option linter.unusedVariables false

theorem Failed.below {w w' : World} {D r n c : Nat} {ao : Option Addr} {name : ByteArray} {u : Bool} (h : Failed w D r ao n c name u) (hr : r < w.heap.size) (hb : Below w.heap.size w w') : Failed w' D r ao n c name u := by
  obtain ⟨fe, h1, h2, h3⟩ := h
  exact ⟨fe, below_at hb hr h1, h2, below_at hb (Array.getElem?_eq_some_iff.1 h3).1 h3⟩

set_option maxHeartbeats 8000000 in
set_option maxRecDepth 100000 in
theorem law4_road (c : Nat) (V : Array Value) (m : M) (hM : IsM V m) (zS zO : List Int) (w : World) (wS : In w m.aS m.nS m.cS zS) (wO : In w m.aO m.nO m.cO zO)
    (hb : m.s0.size + m.s3.size + m.s6.size + m.s10.size + m.s11.size + m.nS + m.nO ≤ 1048576)
    (u0 : nul m.s0 = false) (u3 : nul m.s3 = false) (u6 : nul m.s6 = false) (u10 : nul m.s10 = false) (u11 : nul m.s11 = false) (hc : c < 17 + m.s0.size + m.s3.size + m.s6.size + m.s10.size + m.s11.size)
    (hby : ∀ z ∈ [m.b1, m.b2, m.b4, m.b5, m.b7, m.b8, m.b9, m.b12, m.b13, m.b14, m.b15], 0 ≤ z ∧ z < 256) :
    Calls Try.prog 4 #[.agg V, .int .i64 (c : Int)] w fun e w' => e = .returned (.bool true) ∧ Below w.heap.size w w' := by
  have HI : Hid ((Try.prog.info? 24).map (·.size) = some V.size) := by show _ = _; rw [Try.size24, hM.size]
  have hc0 : ¬ (c : Int) < 0 := by omega
  go_enter Try.func4, Try.ntmps4
  go_wp2_with (first | (refine wpList_load_row rfl 24 (.tmp 2) rfl _ rfl 24 V (0, 0) _ (heap_alloc_new w _) Try.underlying24 rfl HI.out ?_) | fail)
  refine (bytes20V hM _ _ hb).mono ?_
  rintro e w1 ⟨rfl, b1⟩
  have B1 : Below w.heap.size w w1 := ((Below.refl _ _).alloc (Nat.le_refl _) _).trans (b1.mono (by simp))
  have s1 : w.heap.size < w1.heap.size := by have := b1.size; simp at this; omega
  have A1 : Hid (w1.heap[w.heap.size]? = some (.cells V 24 (0, 0))) := below_at b1 (by simp) (heap_alloc_new w _)
  clear b1
  go_wp2_with (first | (refine wpList_load_row rfl 24 (.tmp 2) rfl _ rfl 24 V (0, 0) _ A1.out Try.underlying24 rfl HI.out ?_) | fail)
  refine (tooBig7V hM _ _ _ _ (by omega)).mono ?_
  rintro e w2 ⟨rfl, b2⟩
  have B2 : Below w.heap.size w w2 := B1.trans (b2.mono (by omega))
  have s2 : w.heap.size < w2.heap.size := Nat.lt_of_lt_of_le s1 b2.size
  have A2 : Hid (w2.heap[w.heap.size]? = some (.cells V 24 (0, 0))) := below_at b2 s1 A1.out
  clear b2 A1 B1 s1
  go_wp2_with (first | (refine wpList_load_row rfl 24 (.tmp 2) rfl _ rfl 24 V (0, 0) _ A2.out Try.underlying24 rfl HI.out ?_) | fail)
  refine (nulFree8V hM _ (by unfold maxLen; omega) (by unfold maxLen; omega) (by unfold maxLen; omega) (by unfold maxLen; omega) (by unfold maxLen; omega) u0 u3 u6 u10 u11).mono ?_
  rintro e w3 ⟨rfl, b3⟩
  have B3 : Below w.heap.size w w3 := B2.trans (b3.mono (by omega))
  have s3 : w.heap.size < w3.heap.size := Nat.lt_of_lt_of_le s2 b3.size
  have A3 : Hid (w3.heap[w.heap.size]? = some (.cells V 24 (0, 0))) := below_at b3 s2 A2.out
  clear b3 A2 B2 s2
  go_wp2_with (first | (refine wpList_load_row rfl 24 (.tmp 2) rfl _ rfl 24 V (0, 0) _ A3.out Try.underlying24 rfl HI.out ?_) | fail)
  refine (header21V hM _ hb).mono ?_
  rintro e w4 ⟨rfl, b4⟩
  have B4 : Below w.heap.size w w4 := B3.trans (b4.mono (by omega))
  have s4 : w.heap.size < w4.heap.size := Nat.lt_of_lt_of_le s3 b4.size
  have A4 : Hid (w4.heap[w.heap.size]? = some (.cells V 24 (0, 0))) := below_at b4 s3 A3.out
  obtain ⟨hd, ehd, hhd⟩ : ∃ hd : Nat, 17 + m.s0.size + m.s3.size + m.s6.size + m.s10.size + m.s11.size = hd ∧ c < hd := ⟨_, rfl, hc⟩
  rw [ehd]
  have HHD : Hid (17 + m.s0.size + m.s3.size + m.s6.size + m.s10.size + m.s11.size = hd) := ehd
  have hc1 : (c : Int) < (hd : Int) := by omega
  clear A3 ehd
  go_wp2_with (first | (refine wpList_load_row rfl 24 (.tmp 2) rfl _ rfl 24 V (0, 0) _ A4.out Try.underlying24 rfl HI.out ?_) | fail)
  refine (cloneMsg10 V hM.size hM.one w4 m.aS m.aO m.nS m.cS m.nO m.cO zS zO hM.f16 hM.f17 (wS.below B4) (wO.below B4) (by omega) (by omega)).mono ?_
  rintro e w5 ⟨aS', aO', rfl, sS5, sO5, b5⟩
  have hM' := isM_set hM aS' aO'
  have hV' := hM'.size
  obtain ⟨m2, hm2⟩ : ∃ m2 : M, { m with aS := aS', cS := m.nS, aO := aO', cO := m.nO } = m2 := ⟨_, rfl⟩
  have e2 : m2.s0 = m.s0 ∧ m2.s3 = m.s3 ∧ m2.s6 = m.s6 ∧ m2.s10 = m.s10 ∧ m2.s11 = m.s11 ∧ m2.nS = m.nS ∧ m2.nO = m.nO ∧ m2.aS = aS' ∧ m2.aO = aO' ∧ m2.cS = m.nS ∧ m2.cO = m.nO := by rw [← hm2]; exact ⟨rfl, rfl, rfl, rfl, rfl, rfl, rfl, rfl, rfl, rfl, rfl⟩
  have hby2 : ∀ z ∈ [m2.b1, m2.b2, m2.b4, m2.b5, m2.b7, m2.b8, m2.b9, m2.b12, m2.b13, m2.b14, m2.b15], 0 ≤ z ∧ z < 256 := by rw [← hm2]; exact hby
  rw [hm2] at hM'
  clear hm2 hby
  generalize hVV : (V.setIfInBounds 16 (.slice aS' m.nS m.nS)).setIfInBounds 17 (.slice aO' m.nO m.nO) = V' at *
  clear hVV
  have B5 : Below w.heap.size w w5 := B4.trans (b5.mono (by omega))
  have s5 : w.heap.size < w5.heap.size := Nat.lt_of_lt_of_le s4 b5.size
  have A5 : Hid (w5.heap[w.heap.size]? = some (.cells V 24 (0, 0))) := below_at b5 s4 A4.out
  have B6 : Below w.heap.size w (w5.setRow w.heap.size V') := below_setRow B5 (Nat.le_refl _) _
  have A6 : Hid ((w5.setRow w.heap.size V').heap[w.heap.size]? = some (.cells V' 24 (0, 0))) := setRow_heap _ _ _ _ _ _ A5.out
  have sS6 := sS5.setRow (g := w.heap.size) (by omega) V'
  have sO6 := sO5.setRow (g := w.heap.size) (by omega) V'
  have s6 : w.heap.size < (w5.setRow w.heap.size V').heap.size := by simpa [World.setRow] using s5
  clear b4 b5 A4 sS5 sO5 B4 B3
  have HI' : Hid ((Try.prog.info? 24).map (·.size) = some V'.size) := by show _ = _; rw [Try.size24, hV']
  have HV : Hid (V.size = 18) := hM.size
  have HV' : Hid (V'.size = 18) := hV'
  have H1' : Hid (V'.all (·.oneCell') = true) := hM'.one
  clear hV'
  go_wp2_with (first | (refine stRow 18 24 Try.size24 rfl (.tmp 2) (.tmp 39) rfl w.heap.size rfl V' V rfl 24 A5.out HV.out HV'.out H1'.out ?_) | (refine wpList_load_row rfl 24 (.tmp 2) rfl _ rfl 24 V' (0, 0) _ A6.out Try.underlying24 rfl HI'.out ?_) | fail)
  generalize w5.setRow w.heap.size V' = w6 at *
  clear A5 B5 s5 w5
  refine (toMsg11 V' _ hM' _).mono ?_
  rintro e w7 ⟨rfl, b7⟩
  have B7 : Below w.heap.size w w7 := B6.trans (b7.mono (by omega))
  have s7 : w.heap.size < w7.heap.size := Nat.lt_of_lt_of_le s6 b7.size
  have A7 := below_at b7 s6 A6.out
  have sS7 := sS6.below b7
  have sO7 := sO6.below b7
  clear b7 A6 sS6 sO6 s6 B6
  go_wp2_with (first | (refine alRow 18 32 _ Try.zero32 rfl rfl rfl (fun Z HZ => ?_)) | (refine stRow 18 32 Try.size32 rfl (.tmp 6) (.tmp 41) rfl w7.heap.size rfl V' _ rfl 32 (heap_alloc_new w7 _) HZ.out HV'.out H1'.out ?_; rw [World.setRow_alloc_new]) | fail)
  have o8 : Ow (w7.alloc (.cells V' 32)) none 0 0 [] := ⟨rfl, .inl ⟨rfl, rfl, rfl⟩⟩
  have al8 : Below w7.heap.size w7 (w7.alloc (.cells V' 32)) := (Below.refl _ _).alloc (Nat.le_refl _) _
  have sS8 := sS7.below al8
  have sO8 := sO7.below al8
  have A8 := below_at al8 s7 A7
  have p8 : (w7.alloc (.cells V' 32)).heap[w7.heap.size]? = some (.cells V' 32 (0, 0)) := heap_alloc_new _ _
  have B8 : Below w.heap.size w (w7.alloc (.cells V' 32)) := B7.trans (al8.mono (by omega))
  have s8 : w.heap.size < (w7.alloc (.cells V' 32)).heap.size := Nat.lt_of_lt_of_le s7 al8.size
  have hp8 : some w7.heap.size ≠ blk none := by simp [blk]
  have hB8 : ∀ g, blk none = some g → g < w4.heap.size + 1 := fun g h => by simp [blk] at h
  generalize w7.alloc (.cells V' 32) = w8 at *
  clear sS7 sO7 A7 B7 al8
  obtain ⟨q0, q3, q6, q10, q11, qS, qO, qaS, qaO, qcS, qcO⟩ := e2
  replace sS8 : Sl w8 (w4.heap.size + 1) m2.aS m2.nS m2.cS (fun i => zS.getD i 0) := by rw [qaS, qS, qcS]; exact sS8
  replace sO8 : Sl w8 (w4.heap.size + 1) m2.aO m2.nO m2.cO (fun i => zO.getD i 0) := by rw [qaO, qO, qcO]; exact sO8
  refine (app12 V' m2 hM' w8 o8 p8 hp8 _ _ sS8 sO8 hB8 (by rw [q0, q3, q6, q10, q11, qS, qO]; omega)).mono ?_
  rintro e w9 ⟨ao', N, c', rfl, o9, g9⟩
  have B9 : Below w.heap.size w w9 := B8.trans (g9.below (Nat.le_of_lt s8) (fun g h => by simp [blk] at h))
  have s9 : w.heap.size < w9.heap.size := Nat.lt_of_lt_of_le s8 g9.size
  have A9 : w9.heap[w.heap.size]? = some (.cells V' 24 (0, 0)) := (g9.keep _ s8 (by simp [blk])).trans A8
  rw [wrap8] at o9
  have hlen := enc_len m2 ((m2.nS : Int) % 256) ((List.range m2.nS).map fun i => zS.getD i 0) ((List.range m2.nO).map fun i => zO.getD i 0)
  have hEb := enc_bytes m2 ((m2.nS : Int) % 256) ((List.range m2.nS).map fun i => zS.getD i 0) ((List.range m2.nO).map fun i => zO.getD i 0) hby2 (by omega) (map_bytes (by rw [qS]; exact wS.bytes)) (map_bytes (by rw [qO]; exact wO.bytes))
  have hP := pos17 m2 ((m2.nS : Int) % 256)
  replace hlen := hlen.trans (show _ = 17 + m.s0.size + m.s3.size + m.s6.size + m.s10.size + m.s11.size + m.nS + m.nO by rw [List.length_map, List.length_range, List.length_map, List.length_range, q0, q3, q6, q10, q11, qS, qO])
  rw [q0, q3, q6, q10, q11] at hP
  have hLay := enc_lay m2 ((m2.nS : Int) % 256) ((List.range m2.nS).map fun i => zS.getD i 0) ((List.range m2.nO).map fun i => zO.getD i 0) c (by omega) (by rw [q0]; exact u0) (by rw [q3]; exact u3) (by rw [q6]; exact u6) (by rw [q10]; exact u10) (by rw [q11]; exact u11) hEb
  generalize hE : enc m2 ((m2.nS : Int) % 256) ((List.range m2.nS).map fun i => zS.getD i 0) ((List.range m2.nO).map fun i => zO.getD i 0) = E at *
  clear hE hEb o8 sS8 sO8 A8 p8 hp8 B8 s8 hby2 hB8
  obtain ⟨g, rfl, hg9, rfl, hNc, hcm, hcell⟩ := o9.tail (n0 := 0) (by simp) (by omega)
  clear o9
  have hcE : c < E.length := by omega
  have hE1 : c ≤ 2097152 := by omega
  have HB : Hid (∀ j, j ≤ 17 → pos m2 ((m2.nS : Int) % 256) j ≤ 2097152) := by
    intro j hj
    have := pos_mono m2 ((m2.nS : Int) % 256) j (17 - j)
    rw [show j + (17 - j) = 17 by omega] at this
    omega
  obtain ⟨f, hcut⟩ := cut_of m2 ((m2.nS : Int) % 256) c
  have hf : f < 17 := by
    rcases Nat.lt_or_ge f 17 with h | h
    · exact h
    · have := hcut.le
      obtain rfl : f = 17 := by omega
      have := hcut.start
      omega
  obtain ⟨sl, esl, nsl, osl, hsl⟩ := tabS (fsM m2) f
  obtain ⟨ol, eol, nol, ool, hol⟩ := tabO (foM m2 ((m2.nS : Int) % 256)) f
  obtain ⟨sm, esm, nsm, osm, hsm⟩ := tabS (fsM m2) 17
  obtain ⟨om, eom, nom, oom, hom⟩ := tabO (foM m2 ((m2.nS : Int) % 256)) 17
  have want := want15 V' m2 hM' (by omega)
  rw [esm, eom] at want
  have HWant : Hid _ := want
  have L3 : Hid (Lay (fun k => E.getD k 0) c (pos m2 ((m2.nS : Int) % 256)) (fsM m2) (foM m2 ((m2.nS : Int) % 256))) := hLay
  have L4 : Hid _ := hcell
  have L5 : Hid _ := hsl
  have L6 : Hid _ := hol
  have L7 : Hid _ := osl
  have L8 : Hid _ := ool
  have L9 : Hid _ := nsl
  have L10 : Hid _ := nol
  have M5 : Hid _ := hsm
  have M6 : Hid _ := hom
  have M7 : Hid _ := osm
  have M8 : Hid _ := oom
  have M9 : Hid _ := nsm
  have M10 : Hid _ := nom
  have A9' : Hid _ := A9
  have HC : Hid (Cut (pos m2 ((m2.nS : Int) % 256)) c f) := hcut
  clear hLay hcell hsl hol osl ool nsl nol hsm hom osm oom nsm nom A9 want hlen hP hcut
  unfold maxLen at hcm
  have z1 : (c : Int) ≤ ((0 + E.length : Nat) : Int) := by omega
  have z2 : (c : Int) ≤ (E.length : Int) := by omega
  have z3 : (c : Int) ≤ (c' : Int) := by omega
  have z4 : c ≤ c' := by omega
  have z5 : 0 < c' := by omega
  go_wp2_with fail
  refine (new13 _ _ _ _).mono ?_
  rintro e w10 ⟨rfl, hw10⟩
  have K10 : Below w9.heap.size w9 w10 := by rw [hw10]; exact (Below.refl _ _).alloc (Nat.le_refl _) _
  have r10 : Rd w10 w9.heap.size (some ⟨g, 0, none⟩) c c' none := by rw [hw10]; exact heap_alloc_new _ _
  have z10 : w10.heap.size = w9.heap.size + 1 := by rw [hw10]; simp
  have bd10 : Bd w10 w9.heap.size (some ⟨g, 0, none⟩) c c' (fun k => E.getD k 0) := .inr ⟨g, 0, rfl, hg9, by omega, fun i hi => (K10.cell (by simpa using hg9)).trans (L4.out i (by omega))⟩
  clear hw10 z1
  go_wp2_with fail
  refine (all14 L3.out HC.out w10 w9.heap.size w9.heap.size _ _ r10 bd10 (Nat.le_refl _) hE1).mono ?_
  rintro e w11 ⟨rfl, rs, kb⟩
  rw [esl, eol]
  obtain ⟨_, ao3, c3, fl11, bd11⟩ := rs.resolve_left (fun h => absurd h.1 (by omega))
  clear rs
  have z11 : w9.heap.size < w11.heap.size := by have := kb.size; omega
  have K11 : Below w9.heap.size w9 w11 := K10.trans (kb.below (Nat.le_refl _) (by omega))
  clear kb K10 r10 bd10 z10
  have S38 : Hid ((Try.prog.info? 38).map (·.size) = some 17) := by show _ = _; kernel_rfl
  have S39 : Hid ((Try.prog.info? 39).map (·.size) = some 17) := by show _ = _; kernel_rfl
  obtain ⟨zv38, hz38, hc38⟩ := Try.zero38
  obtain ⟨zv39, hz39, hc39⟩ := Try.zero39
  have Y38 : Hid _ := hz38
  have Y39 : Hid _ := hz39
  have X38 : Hid _ := hc38
  have X39 : Hid _ := hc39
  clear hz38 hz39 hc38 hc39
  have A11 : Hid (w11.heap[w.heap.size]? = some (.cells V' 24 (0, 0))) := below_at K11 s9 A9'.out
  have FL11 : Hid (Failed w11 w10.heap.size w9.heap.size ao3 (c - pos m2 ((m2.nS : Int) % 256) f) c3 (nm f) (isC f)) := fl11
  have BD11 : Hid (Bd w11 w9.heap.size ao3 (c - pos m2 ((m2.nS : Int) % 256) f) c3 (fun j => E.getD (pos m2 ((m2.nS : Int) % 256) f + j) 0)) := bd11
  clear fl11 bd11
  go_wp2_with (first | (refine alRow 17 38 _ Y38.out X38.out rfl rfl (fun Z1 HZ1 => ?_)) | (refine alRow 17 39 _ Y39.out X39.out rfl rfl (fun Z2 HZ2 => ?_)) | (refine stRow 17 38 S38.out rfl (.tmp 9) (.tmp 54) rfl w11.heap.size rfl sl _ rfl 38 (twoA w11 _ _ _ _) HZ1.out L9.out L7.out ?_) | (refine stRowTwo 17 38 39 S39.out rfl (.tmp 10) (.tmp 55) rfl Z1 Z2 sl ol rfl rfl HZ2 L10 L8 (fun w12 T8 T9 k12 s12 => ?_); have A12 := below_at k12 (Nat.lt_trans s9 z11) A11.out) | (refine wpList_load_row rfl 24 (.tmp 2) rfl _ rfl 24 V' (0, 0) _ A12 Try.underlying24 rfl HI'.out ?_) | fail)
  have K12 : Below w9.heap.size w9 w12 := K11.trans (k12.mono (by omega))
  have fl12 := Failed.below FL11.out z11 k12
  have bd12 := BD11.out.below k12 (by omega)
  clear FL11 BD11 A11 K11
  refine (HWant.out w12).mono ?_
  rintro e w13 ⟨rfl, k13⟩
  have K13 : Below w9.heap.size w9 w13 := K12.trans (k13.mono (by omega))
  have T8' := below_at k13 (by omega) T8.out
  have T9' := below_at k13 (by omega) T9.out
  have fl13 := fl12.below (by omega) k13
  have bd13 := bd12.below k13 (by omega)
  have s13 : w11.heap.size + 1 < w13.heap.size := Nat.lt_of_lt_of_le s12 k13.size
  have FL13 : Hid (Failed w13 w10.heap.size w9.heap.size ao3 (c - pos m2 ((m2.nS : Int) % 256) f) c3 (nm f) (isC f)) := fl13
  have BD13 : Hid (Bd w13 w9.heap.size ao3 (c - pos m2 ((m2.nS : Int) % 256) f) c3 (fun j => E.getD (pos m2 ((m2.nS : Int) % 256) f + j) 0)) := bd13
  clear T8 T9 fl12 bd12 k13 k12 K12 s12 A12 fl13 bd13
  go_wp2_with (first | (refine alRow 17 38 _ Y38.out X38.out rfl rfl (fun Z3 HZ3 => ?_)) | (refine alRow 17 39 _ Y39.out X39.out rfl rfl (fun Z4 HZ4 => ?_)) | (refine stRow 17 38 S38.out rfl (.tmp 11) (.tmp 59) rfl w13.heap.size rfl sm _ rfl 38 (twoA w13 _ _ _ _) HZ3.out M9.out M7.out ?_) | (refine stRowTwo 17 38 39 S39.out rfl (.tmp 12) (.tmp 60) rfl Z3 Z4 sm om rfl rfl HZ4 M10 M8 (fun w14 T10 T11 k14 s14 => ?_); have T8 : Hid _ := below_at k14 (Nat.lt_of_succ_lt s13) T8'; have T9 : Hid _ := below_at k14 s13 T9'; clear T8' T9') | fail)
  have K14 : Below w9.heap.size w9 w14 := K13.trans (k14.mono (by omega))
  have FL14 : Hid (Failed w14 w10.heap.size w9.heap.size ao3 (c - pos m2 ((m2.nS : Int) % 256) f) c3 (nm f) (isC f)) := Failed.below FL13.out (by omega) k14
  have BD14 : Hid (Bd w14 w9.heap.size ao3 (c - pos m2 ((m2.nS : Int) % 256) f) c3 (fun j => E.getD (pos m2 ((m2.nS : Int) % 256) f + j) 0)) := BD13.out.below k14 (by omega)
  have s914 : w9.heap.size < w14.heap.size := by omega
  clear FL13 BD13 K13 k14
  have LP : Hid (∀ i, i < 17 → pos m2 ((m2.nS : Int) % 256) (i + 1) = pos m2 ((m2.nS : Int) % 256) i + (if isC i = true then (fsM m2 i).size + 1 else 1)) := L3.out.step
  have LP0 : pos m2 ((m2.nS : Int) % 256) 0 = 0 := L3.out.p0
  obtain ⟨P, eP⟩ : ∃ P : Nat → Nat, pos m2 ((m2.nS : Int) % 256) = P := ⟨_, rfl⟩
  rw [eP] at L3 HC HB FL14 BD14 LP LP0
  clear eP L3
  go_loopw [13, 14, 15, 16, 17] (fun tf ts tp ti tz wr => ∃ i : Nat, i ≤ f ∧ tf = .int .i64 (-1) ∧ ts = .int .i64 0 ∧ tp = .int .i64 ((P i : Nat) : Int) ∧ ti = .int .i64 (i : Int) ∧ wr = w14) (fun _ _ _ ti _ _ => 17 - (intOf ti).toNat)
  case atStart => exact ⟨0, by omega, rfl, rfl, by rw [LP0]; rfl, rfl, rfl⟩
  case round =>
    obtain ⟨i, hi, rfl, rfl, rfl, rfl, hw14⟩ := hrel
    have hw15 := hw14.symm
    subst hw15
    clear hw14
    have hi17 : i < 17 := by omega
    have hL : (i : Int) < 17 := by omega
    have c22 := isC22 i hi17
    have st := LP.out i hi17
    have bP := HB.out (i + 1) (by omega)
    have y1 := M5.out i hi17
    rw [if_pos hi17] at y1
    have x11 := cellOf T10.out y1
    clear y1
    by_cases hif : i < f
    · have hle := HC.out.yes i hif
      generalize hp1 : P (i + 1) = P1 at *
      cases hcc : isC i
      all_goals rw [hcc] at c22 st
      all_goals simp at st
      all_goals generalize fsM m2 i = sv at *
      all_goals generalize P i = P0 at *
      · have hn1 : ¬ (c : Int) < (P0 : Int) + 1 := by omega
        go_wp2_with (first | (go_at_call 22; refine (c22 _).mono ?_; rintro e wz ⟨rfl, hz⟩; have hz' := hz.symm; subst hz'; clear hz) | fail)
        go_roundw
        case rel => exact ⟨i + 1, by omega, rfl, rfl, by have e : ((P (i + 1) : Nat) : Int) = (P0 : Int) + 1 := by omega
                                                         rw [e], by go_num, by first | rfl | trivial⟩
        case measure => simp [intOf]; omega
      · have hn1 : ¬ (c : Int) < (P0 : Int) + ((sv.size : Int) + 1) := by omega
        go_wp2_with (first | (go_at_call 22; refine (c22 _).mono ?_; rintro e wz ⟨rfl, hz⟩; have hz' := hz.symm; subst hz'; clear hz) | fail)
        go_roundw
        case rel => exact ⟨i + 1, by omega, rfl, rfl, by have e : ((P (i + 1) : Nat) : Int) = (P0 : Int) + ((sv.size : Int) + 1) := by omega
                                                         rw [e], by go_num, by first | rfl | trivial⟩
        case measure => simp [intOf]; omega
    · obtain rfl : i = f := by omega
      have hlt := HC.out.no hi17
      have hst := HC.out.start
      clear hif hi HC
      rw [st] at hlt
      have C22 : Hid (∀ w : World, Calls Try.prog 22 #[.int .i64 (i : Int)] w fun e w' => e = .returned (.bool (isC i)) ∧ w' = w) := c22
      have XW : Hid _ := x11
      cases hcc : isC i
      all_goals rw [hcc] at c22 hlt st
      all_goals simp at hlt st
      all_goals generalize fsM m2 i = sv at *
      all_goals generalize P i = P0 at *
      all_goals first | (have hn1 : (c : Int) < (P0 : Int) + 1 := by omega) | (have hn1 : (c : Int) < (P0 : Int) + ((sv.size : Int) + 1) := by omega)
      all_goals go_wp2_with (first | (go_at_call 22; refine (c22 _).mono ?_; rintro e wz ⟨rfl, hz⟩; have hz' := hz.symm; subst hz'; clear hz) | fail)
      all_goals clear hn1 c22 x11 XW st hlt bP LP0
      all_goals
        go_loopw [18] (fun t wr => ∃ (j q : Nat), j ≤ 17 ∧ t = .int .i64 (j : Int) ∧ wr = w14.drewN q) (fun t _ => 17 - (intOf t).toNat)
        case atStart => exact ⟨0, 0, by omega, rfl, rfl⟩
        case round =>
          obtain ⟨j, q, hj, rfl, rfl⟩ := hrel
          by_cases hlt2 : j < 17
          · have hjL : (j : Int) < 17 := by omega
            have y1 := L5.out j hlt2
            have y2 := L6.out j hlt2
            have y3 := M5.out j hlt2
            have y4 := M6.out j hlt2
            rw [if_pos hlt2] at y3 y4
            by_cases hjf : j < i
            · have hjf' : (j : Int) < (i : Int) := by omega
              rw [if_pos hjf] at y1 y2
              have x8 := cellOf T8.out y1
              have x9 := cellOf T9.out y2
              have x10 := cellOf T10.out y3
              have x11 := cellOf T11.out y4
              clear y1 y2 y3 y4
              generalize fsM m2 j = sv2 at x8 x10
              generalize foM m2 ((m2.nS : Int) % 256) j = zv2 at x9 x11
              go_wp2
              go_quiet (fail)
              go_wp2
              go_roundw
              case rel => exact ⟨j + 1, q + nq, by omega, by go_num, rfl⟩
              case measure => simp [intOf]; omega
            · have hjf' : ¬ (j : Int) < (i : Int) := by omega
              rw [if_neg hjf] at y1 y2
              have x8 := cellOf T8.out y1
              have x9 := cellOf T9.out y2
              clear y1 y2 y3 y4
              go_wp2
              go_roundw
              case rel => exact ⟨j + 1, q, by omega, by go_num, rfl⟩
              case measure => simp [intOf]; omega
          · obtain rfl : j = 17 := by omega
            rw [show (((17 : Nat)) : Int) = 17 from rfl]
            obtain ⟨fe, rq, hD, hfe⟩ := FL14.out
            have RQ : Hid (Rd (w14.drewN q) w9.heap.size ao3 (c - P0) c3 (some ⟨fe, 0, none⟩)) := rq
            have xe0 : (w14.drewN q).cell? ⟨fe, 0, none⟩ = some (.string (nm i)) := cellOf hfe rfl
            have xe1 : (w14.drewN q).cell? ⟨fe, 1, none⟩ = some (.bool (isC i)) := cellOf hfe rfl
            have xe2 : (w14.drewN q).cell? ⟨fe, 2, none⟩ = some (.int .i64 0) := cellOf hfe rfl
            have Y7 : Hid (By (w14.drewN q) ao3 (c - P0) (fun j => E.getD (P0 + j) 0)) := BD14.out.by'
            have Y8 : Hid (By (w14.drewN q) (some ⟨g, P0, none⟩) (c - P0) (fun j => E.getD (P0 + j) 0)) := fun _ => ⟨g, P0, rfl, fun j hj => (K14.cell (p := ⟨g, P0 + j, none⟩) hg9).trans (by have := L4.out (P0 + j) (by omega); rw [Nat.zero_add] at this; exact this)⟩
            have KQ : Hid (Below w9.heap.size w9 (w14.drewN q)) := below_drewN K14 q
            generalize w14.drewN q = wq at *
            have N23 : Hid (∀ w : World, Calls Try.prog 23 #[.int .i64 (i : Int)] w fun e w' => e = .returned (.string (nm i)) ∧ w' = w) := name23 i hi17
            rw [hcc] at xe1 C22
            generalize nm i = nv at *
            clear rq hfe hcc FL14 BD14
            go_wp2_with fail
            refine (err18 RQ.out).mono ?_
            rintro e w16 ⟨rfl, rfl⟩
            go_wp2_with fail
            go_quiet (first | (go_at_call 23; refine Calls.quiet_of_same (N23.out _)) | (go_at_call 22; refine Calls.quiet_of_same (C22.out _)))
            go_wp2
            have RV : Hid (Rd (w16.drewN nq) w9.heap.size ao3 (c - P0) c3 (some ⟨fe, 0, none⟩)) := RQ.out.drewN nq
            have Y9 : Hid (By (w16.drewN nq) ao3 (c - P0) (fun j => E.getD (P0 + j) 0)) := Y7.out.drewN nq
            have Y10 : Hid (By (w16.drewN nq) (some ⟨g, P0, none⟩) (c - P0) (fun j => E.getD (P0 + j) 0)) := Y8.out.drewN nq
            have KV : Hid (Below w9.heap.size w9 (w16.drewN nq)) := below_drewN KQ.out nq
            clear RQ Y7 Y8 KQ xe0 xe1 xe2
            generalize w16.drewN nq = wv at *
            have v1 : (P0 : Int) ≤ (c : Int) := by omega
            have v2 : 0 ≤ (P0 : Int) := by omega
            go_quiet (first | (go_at_call 19; refine Calls.quiet_of_same (body19 (RV.out.drewN _))) | (go_at_call 17; refine Calls.quiet_of (same17 (Y9.out.drewN _) (Y10.out.drewN _) (by omega))))
            go_wp2
            go_ret
            exact ⟨rfl, B9.trans (below_drewN (KV.out.mono (by omega)) _)⟩
end Go.Proofs.Qxb6602209a
