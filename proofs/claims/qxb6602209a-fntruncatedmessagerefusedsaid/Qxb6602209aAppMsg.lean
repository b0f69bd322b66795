import Derived.Test.Qxb6602209aCstr
import Derived.Deep.RegionHeld3
namespace Go.Proofs.Qxb6602209a
open Go.ChangeShapes Go.WideShapes Go.ChangeAt Go.RowKit
set_option linter.unusedVariables false

/-- The same at a step of a region that draws its order. -/
theorem appStep {w : World} {ops : Array Oper} {o : Oper} {a : Act} {K : Act → World → Prop} {Q : Exit → Act → World → Prop} {E : Prop} (hgd : o.guard = none) (s x : Operand) (t tx ty : TypeId)
    (ho : o.op = .call { callee := .builtin .append, args := #[s, x], argTypes := #[t, tx] }) (hty : o.type = ty) (v u : Value) (hs : a.eval s = v) (hx : a.eval x = u) (v' : Value) (w' : World)
    (hr : (Builtin.append_ #[t, tx] ty #[v, u]).run Try.prog w = .ok v' w') (h : K (a.put o.dst v') w') :
    if Region.wanted o (yielded ops a.tmps) = true then Oper.wp Try.prog o a w K Q else E := by
  have hw : Region.wanted o (yielded ops a.tmps) = true := by simp [Region.wanted, hgd]
  rw [if_pos hw]
  subst hty
  unfold Oper.wp execOp
  simp only [ho, resolve, invoke, builtin, Sem.run_bind, Sem.run_pure, Result.andThen_ok, List.map_toArray, List.map_cons, List.map_nil, hs, hx, hr]
  exact h

theorem news2 (w : World) (x0 x1 : Value) : ∀ j u, [x0, x1][j]? = some u → (w.alloc (.cells #[x0, x1] 5)).drew.cell? ((⟨w.heap.size, 0, none⟩ : Addr).add j) = some u := by
  intro j u hu
  rw [add_zero_block, Nat.zero_add]
  show (w.alloc _).cell? _ = _
  rw [World.cell?_alloc_new]
  simpa using hu

theorem news3 (w : World) (x0 x1 x2 : Value) : ∀ j u, [x0, x1, x2][j]? = some u → (w.alloc (.cells #[x0, x1, x2] 5)).drew.cell? ((⟨w.heap.size, 0, none⟩ : Addr).add j) = some u := by
  intro j u hu
  rw [add_zero_block, Nat.zero_add]
  show (w.alloc _).cell? _ = _
  rw [World.cell?_alloc_new]
  simpa using hu

theorem news5 (w : World) (x0 x1 x2 x3 x4 : Value) : ∀ j u, [x0, x1, x2, x3, x4][j]? = some u → (w.alloc (.cells #[x0, x1, x2, x3, x4] 5)).drew.cell? ((⟨w.heap.size, 0, none⟩ : Addr).add j) = some u := by
  intro j u hu
  rw [add_zero_block, Nat.zero_add]
  show (w.alloc _).cell? _ = _
  rw [World.cell?_alloc_new]
  simpa using hu

/-- append(v, x...), x a slice of bytes, nil or not. -/
theorem run_app_sl (w : World) {ao : Option Addr} {n c : Nat} {xs : List Value} (h : Ow w ao n c xs) {B : Nat} {a : Option Addr} {k q : Nat} {f : Nat → Int} (hs : Sl w B a k q f) (hb : n + k ≤ 1073741824) (ty : TypeId) :
    ∃ ao' c' w', (Builtin.append_ #[22, 22] ty #[.slice ao n c, .slice a k q]).run Try.prog w = .ok (.slice ao' (n + k) c') w' ∧ Ow w' ao' (n + k) c' (xs ++ (List.range k).map fun i => Value.int .u8 (f i)) ∧ Gr w w' ao ao' := by
  rcases hs with ⟨rfl, rfl, rfl⟩ | ⟨b, o, rfl, _, h2, h3⟩
  · exact ⟨ao, c, w, run_app_nil w h ty, by simpa using h, Gr.refl _ _⟩
  · refine run_app_slice w h ⟨b, o, none⟩ k q _ (by simp) (fun j u hu => ?_) (fun u hu => ?_) hb ty
    · have hj : j < k := by have := (List.getElem?_eq_some_iff.1 hu).1; simpa using this
      simp [hj] at hu
      rw [add_zero_block, h3 j hj, ← hu]
    · simp at hu
      obtain ⟨z, _, rfl⟩ := hu
      rfl

/-- A slice that lies in another block than the one that grew is as it was. -/
theorem Sl.grew {w w' : World} {B : Nat} {a ao ao' : Option Addr} {k q : Nat} {f : Nat → Int} (h : Sl w B a k q f) (hg : Gr w w' ao ao') (hne : ∀ g, blk ao = some g → g < B) : Sl w' B a k q f := by
  rcases h with h | ⟨b, o, h1, h0, h2, h3⟩
  · exact .inl h
  · refine .inr ⟨b, o, h1, h0, h2, fun i hi => ?_⟩
    have h4 := h3 i hi
    rw [← h4]
    exact World.cell?_of_block (w := w) (hg.keep b (block_lt_of_cell h4) (fun e => by have := hne b e.symm; omega))

/-- The bytes of a string as numbers. -/
def bytesI (s : ByteArray) : List Int := s.data.toList.map fun b => (b.toNat : Int)
theorem strCells_eq (s : ByteArray) : Lib.strCells s = (bytesI s).map (Value.int .u8) := by
  simp [Lib.strCells, bytesI]

/-- The body of a message. -/
def enc (m : M) (q : Int) (S O : List Int) : List Int :=
  bytesI m.s0 ++ [0, m.b1, m.b2] ++ bytesI m.s3 ++ [0, m.b4, m.b5] ++ bytesI m.s6 ++ [0, m.b7, m.b8, m.b9] ++ bytesI m.s10 ++ [0] ++ bytesI m.s11 ++ [0, m.b12, m.b13, m.b14, m.b15, q] ++ S ++ O

set_option maxHeartbeats 8000000 in
set_option maxRecDepth 100000 in
theorem app12 {ao : Option Addr} {n c p : Nat} {xs : List Value} (V : Array Value) (m : M) (hM : IsM V m) (w : World) (h : Ow w ao n c xs) (hp : w.heap[p]? = some (.cells V 32 (0, 0))) (hpa : some p ≠ blk ao)
    {B : Nat} (fS fO : Nat → Int) (sS : Sl w B m.aS m.nS m.cS fS) (sO : Sl w B m.aO m.nO m.cO fO) (hB : ∀ g, blk ao = some g → g < B)
    (hb : n + m.s0.size + m.s3.size + m.s6.size + m.s10.size + m.s11.size + m.nS + m.nO ≤ 1048576) :
    Calls Try.prog 12 #[.slice ao n c, .pointer (some ⟨p, 0, none⟩)] w fun e w' => ∃ ao' N c', e = .returned (.slice ao' N c') ∧ Ow w' ao' N c' (xs ++ (enc m (IntKind.u8.wrap (m.nS : Int)) ((List.range m.nS).map fS) ((List.range m.nO).map fO)).map (Value.int .u8)) ∧ Gr w w' ao ao' := by
  have hplt : p < w.heap.size := (Array.getElem?_eq_some_iff.1 hp).1
  have G0 : Gr w w ao ao := Gr.refl _ _
  have o0 := h
  have p0 : w.heap[p]? = some (.cells V 32 (0, 0)) := hp
  have y1 : w.cell? ⟨p, 0, none⟩ = some (.string m.s0) := cellOf p0 hM.f0
  go_enter Try.func12, Try.ntmps12
  go_wp2_with fail
  refine (cstr30 m.s0 _ o0 (by omega)).mono ?_
  rintro e w1 ⟨a1, c1, rfl, o1, g1⟩
  have G1 := G0.trans g1
  have p1 := (G1.keep p hplt hpa).trans hp
  clear y1 g1
  have y1 : w1.cell? ⟨p, 1, none⟩ = some (.int .u8 m.b1) := cellOf p1 hM.f1
  have y2 : w1.cell? ⟨p, 2, none⟩ = some (.int .u8 m.b2) := cellOf p1 hM.f2
  obtain ⟨a2, c2, w2, r2, o2, g2⟩ := run_app_slice (w1.alloc (.cells #[.int .u8 m.b1, .int .u8 m.b2] 5)).drew ((o1.alloc _).drew) ⟨w1.heap.size, 0, none⟩ 2 2 [.int .u8 m.b1, .int .u8 m.b2] rfl (news2 w1 _ _) (by simp [Value.oneCell']) (by omega) 22
  have G2 := ((G1.alloc _).drew).trans g2
  have p2 := (G2.keep p hplt hpa).trans hp
  have hl2 : p < w1.heap.size := (Array.getElem?_eq_some_iff.1 p1).1
  have z1 : w2.cell? ⟨p, 1, none⟩ = some (.int .u8 m.b1) := cellOf p2 hM.f1
  have z2 : w2.cell? ⟨p, 2, none⟩ = some (.int .u8 m.b2) := cellOf p2 hM.f2
  have R2 : Hid _ := r2
  have P2 : Hid _ := p1
  clear r2 g2 p1 o1
  go_wp2
  go_region_held3 (fun w' => w'.cell? ⟨p, 1, none⟩ = some (.int .u8 m.b1) ∧ w'.cell? ⟨p, 2, none⟩ = some (.int .u8 m.b2)) (go_keep)
    ((refine appStep (by rfl) (.tmp 12) (.tmp 23) 22 22 22 (by rfl) (by rfl) _ _ (by rfl) (by rfl) _ _ R2.out ?_))
  clear y1 z1 y2 z2 hl2 R2 P2 G1
  have y3 : w2.cell? ⟨p, 3, none⟩ = some (.string m.s3) := cellOf p2 hM.f3
  go_wp2_with fail
  refine (cstr30 m.s3 _ o2 (by omega)).mono ?_
  rintro e w3 ⟨a3, c3, rfl, o3, g3⟩
  have G3 := G2.trans g3
  have p3 := (G3.keep p hplt hpa).trans hp
  clear y3 g3
  clear o2 G2 p2
  have y4 : w3.cell? ⟨p, 4, none⟩ = some (.int .u8 m.b4) := cellOf p3 hM.f4
  have y5 : w3.cell? ⟨p, 5, none⟩ = some (.int .u8 m.b5) := cellOf p3 hM.f5
  obtain ⟨a4, c4, w4, r4, o4, g4⟩ := run_app_slice (w3.alloc (.cells #[.int .u8 m.b4, .int .u8 m.b5] 5)).drew ((o3.alloc _).drew) ⟨w3.heap.size, 0, none⟩ 2 2 [.int .u8 m.b4, .int .u8 m.b5] rfl (news2 w3 _ _) (by simp [Value.oneCell']) (by omega) 22
  have G4 := ((G3.alloc _).drew).trans g4
  have p4 := (G4.keep p hplt hpa).trans hp
  have hl4 : p < w3.heap.size := (Array.getElem?_eq_some_iff.1 p3).1
  have z4 : w4.cell? ⟨p, 4, none⟩ = some (.int .u8 m.b4) := cellOf p4 hM.f4
  have z5 : w4.cell? ⟨p, 5, none⟩ = some (.int .u8 m.b5) := cellOf p4 hM.f5
  have R4 : Hid _ := r4
  have P4 : Hid _ := p3
  clear r4 g4 p3 o3
  go_wp2
  go_region_held3 (fun w' => w'.cell? ⟨p, 4, none⟩ = some (.int .u8 m.b4) ∧ w'.cell? ⟨p, 5, none⟩ = some (.int .u8 m.b5)) (go_keep)
    ((refine appStep (by rfl) (.tmp 32) (.tmp 43) 22 22 22 (by rfl) (by rfl) _ _ (by rfl) (by rfl) _ _ R4.out ?_))
  clear y4 z4 y5 z5 hl4 R4 P4 G3
  have y5 : w4.cell? ⟨p, 6, none⟩ = some (.string m.s6) := cellOf p4 hM.f6
  go_wp2_with fail
  refine (cstr30 m.s6 _ o4 (by omega)).mono ?_
  rintro e w5 ⟨a5, c5, rfl, o5, g5⟩
  have G5 := G4.trans g5
  have p5 := (G5.keep p hplt hpa).trans hp
  clear y5 g5
  clear o4 G4 p4
  have y7 : w5.cell? ⟨p, 7, none⟩ = some (.int .u8 m.b7) := cellOf p5 hM.f7
  have y8 : w5.cell? ⟨p, 8, none⟩ = some (.int .u8 m.b8) := cellOf p5 hM.f8
  have y9 : w5.cell? ⟨p, 9, none⟩ = some (.int .u8 m.b9) := cellOf p5 hM.f9
  obtain ⟨a6, c6, w6, r6, o6, g6⟩ := run_app_slice (w5.alloc (.cells #[.int .u8 m.b7, .int .u8 m.b8, .int .u8 m.b9] 5)).drew ((o5.alloc _).drew) ⟨w5.heap.size, 0, none⟩ 3 3 [.int .u8 m.b7, .int .u8 m.b8, .int .u8 m.b9] rfl (news3 w5 _ _ _) (by simp [Value.oneCell']) (by omega) 22
  have G6 := ((G5.alloc _).drew).trans g6
  have p6 := (G6.keep p hplt hpa).trans hp
  have hl6 : p < w5.heap.size := (Array.getElem?_eq_some_iff.1 p5).1
  have z7 : w6.cell? ⟨p, 7, none⟩ = some (.int .u8 m.b7) := cellOf p6 hM.f7
  have z8 : w6.cell? ⟨p, 8, none⟩ = some (.int .u8 m.b8) := cellOf p6 hM.f8
  have z9 : w6.cell? ⟨p, 9, none⟩ = some (.int .u8 m.b9) := cellOf p6 hM.f9
  have R6 : Hid _ := r6
  have P6 : Hid _ := p5
  clear r6 g6 p5 o5
  go_wp2
  go_region_held3 (fun w' => w'.cell? ⟨p, 7, none⟩ = some (.int .u8 m.b7) ∧ w'.cell? ⟨p, 8, none⟩ = some (.int .u8 m.b8) ∧ w'.cell? ⟨p, 9, none⟩ = some (.int .u8 m.b9)) (go_keep)
    ((refine appStep (by rfl) (.tmp 52) (.tmp 65) 22 22 22 (by rfl) (by rfl) _ _ (by rfl) (by rfl) _ _ R6.out ?_))
  clear y7 z7 y8 z8 y9 z9 hl6 R6 P6 G5
  have y7 : w6.cell? ⟨p, 10, none⟩ = some (.string m.s10) := cellOf p6 hM.f10
  go_wp2_with fail
  refine (cstr30 m.s10 _ o6 (by omega)).mono ?_
  rintro e w7 ⟨a7, c7, rfl, o7, g7⟩
  have G7 := G6.trans g7
  have p7 := (G7.keep p hplt hpa).trans hp
  clear y7 g7
  clear o6 G6 p6
  have y8 : w7.cell? ⟨p, 11, none⟩ = some (.string m.s11) := cellOf p7 hM.f11
  go_wp2_with fail
  refine (cstr30 m.s11 _ o7 (by omega)).mono ?_
  rintro e w8 ⟨a8, c8, rfl, o8, g8⟩
  have G8 := G7.trans g8
  have p8 := (G8.keep p hplt hpa).trans hp
  clear y8 g8
  clear o7 G7 p7
  have y12 : w8.cell? ⟨p, 12, none⟩ = some (.int .u8 m.b12) := cellOf p8 hM.f12
  have y13 : w8.cell? ⟨p, 13, none⟩ = some (.int .u8 m.b13) := cellOf p8 hM.f13
  have y14 : w8.cell? ⟨p, 14, none⟩ = some (.int .u8 m.b14) := cellOf p8 hM.f14
  have y15 : w8.cell? ⟨p, 15, none⟩ = some (.int .u8 m.b15) := cellOf p8 hM.f15
  have y16 : w8.cell? ⟨p, 16, none⟩ = some (.slice m.aS m.nS m.cS) := cellOf p8 hM.f16
  obtain ⟨a9, c9, w9, r9, o9, g9⟩ := run_app_slice (w8.alloc (.cells #[.int .u8 m.b12, .int .u8 m.b13, .int .u8 m.b14, .int .u8 m.b15, .int .u8 (IntKind.u8.wrap (m.nS : Int))] 5)).drew ((o8.alloc _).drew) ⟨w8.heap.size, 0, none⟩ 5 5 [.int .u8 m.b12, .int .u8 m.b13, .int .u8 m.b14, .int .u8 m.b15, .int .u8 (IntKind.u8.wrap (m.nS : Int))] rfl (news5 w8 _ _ _ _ _) (by simp [Value.oneCell']) (by omega) 22
  have G9 := ((G8.alloc _).drew).trans g9
  have p9 := (G9.keep p hplt hpa).trans hp
  have hl9 : p < w8.heap.size := (Array.getElem?_eq_some_iff.1 p8).1
  have z12 : w9.cell? ⟨p, 12, none⟩ = some (.int .u8 m.b12) := cellOf p9 hM.f12
  have z13 : w9.cell? ⟨p, 13, none⟩ = some (.int .u8 m.b13) := cellOf p9 hM.f13
  have z14 : w9.cell? ⟨p, 14, none⟩ = some (.int .u8 m.b14) := cellOf p9 hM.f14
  have z15 : w9.cell? ⟨p, 15, none⟩ = some (.int .u8 m.b15) := cellOf p9 hM.f15
  have z16 : w9.cell? ⟨p, 16, none⟩ = some (.slice m.aS m.nS m.cS) := cellOf p9 hM.f16
  have R9 : Hid _ := r9
  have P9 : Hid _ := p8
  clear r9 g9 p8 o8
  go_wp2
  go_region_held3 (fun w' => w'.cell? ⟨p, 12, none⟩ = some (.int .u8 m.b12) ∧ w'.cell? ⟨p, 13, none⟩ = some (.int .u8 m.b13) ∧ w'.cell? ⟨p, 14, none⟩ = some (.int .u8 m.b14) ∧ w'.cell? ⟨p, 15, none⟩ = some (.int .u8 m.b15) ∧ w'.cell? ⟨p, 16, none⟩ = some (.slice m.aS m.nS m.cS)) (go_keep)
    ((refine appStep (by rfl) (.tmp 79) (.tmp 102) 22 22 22 (by rfl) (by rfl) _ _ (by rfl) (by rfl) _ _ R9.out ?_))
  clear y12 z12 y13 z13 y14 z14 y15 z15 y16 z16 hl9 R9 P9 G8
  have sS9 := sS.grew G9 hB
  obtain ⟨a10, c10, w10, r10, o10, g10⟩ := run_app_sl w9 o9 sS9 (by omega) 22
  have G10 := G9.trans g10
  have p10 := (G10.keep p hplt hpa).trans hp
  have sO10 := sO.grew G10 hB
  obtain ⟨a11, c11, w11, r11, o11, g11⟩ := run_app_sl w10 o10 sO10 (by omega) 22
  have G11 := G10.trans g11
  have y16 : w9.cell? ⟨p, 16, none⟩ = some (.slice m.aS m.nS m.cS) := cellOf p9 hM.f16
  have y17 : w10.cell? ⟨p, 17, none⟩ = some (.slice m.aO m.nO m.cO) := cellOf p10 hM.f17
  have R10 : Hid _ := r10
  have R11 : Hid _ := r11
  have hlist : xs ++ Lib.strCells m.s0 ++ [Value.int .u8 0] ++ [Value.int .u8 m.b1, .int .u8 m.b2] ++ Lib.strCells m.s3 ++ [Value.int .u8 0] ++ [Value.int .u8 m.b4, .int .u8 m.b5] ++ Lib.strCells m.s6 ++ [Value.int .u8 0] ++ [Value.int .u8 m.b7, .int .u8 m.b8, .int .u8 m.b9] ++ Lib.strCells m.s10 ++ [Value.int .u8 0] ++ Lib.strCells m.s11 ++ [Value.int .u8 0] ++ [Value.int .u8 m.b12, .int .u8 m.b13, .int .u8 m.b14, .int .u8 m.b15, .int .u8 (IntKind.u8.wrap (m.nS : Int))] ++ ((List.range m.nS).map fun i => Value.int .u8 (fS i)) ++ ((List.range m.nO).map fun i => Value.int .u8 (fO i)) =
      xs ++ (enc m (IntKind.u8.wrap (m.nS : Int)) ((List.range m.nS).map fS) ((List.range m.nO).map fO)).map (Value.int .u8) := by
    simp only [enc, strCells_eq, List.map_append, List.map_cons, List.append_assoc, List.cons_append, List.nil_append, List.map_map]
    rfl
  rw [hlist] at o11
  clear r10 r11 g10 g11 p9 p10 sS9 sO10 hlist o9 o10 G9 G10
  go_wp2_with (first | (at_builtin; refine appArm rfl (.tmp 104) (.tmp 108) 22 22 22 rfl rfl _ _ rfl rfl _ _ R10.out ?_) | (at_builtin; refine appArm rfl (.tmp 110) (.tmp 114) 22 22 22 rfl rfl _ _ rfl rfl _ _ R11.out ?_) | fail)
  go_ret
  exact ⟨a11, _, c11, rfl, o11, G11⟩
end Go.Proofs.Qxb6602209a
