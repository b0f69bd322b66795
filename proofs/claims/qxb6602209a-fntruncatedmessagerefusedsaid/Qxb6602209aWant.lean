import Derived.Test.Qxb6602209aAll
import Derived.Test.Qxb6602209aToMsg
import Derived.Laws.CopyOwn
namespace Go.Proofs.Qxb6602209a
open Go.ChangeShapes Go.WideShapes Go.ChangeAt Go.RowKit
set_option linter.unusedVariables false

/-- The strings and the octets of a message, by the number of the field. -/
def fsM (m : M) (i : Nat) : ByteArray :=
  match i with
  | 0 => m.s0
  | 3 => m.s3
  | 6 => m.s6
  | 10 => m.s10
  | 11 => m.s11
  | _ => { data := #[] }
def foM (m : M) (q : Int) (i : Nat) : Int :=
  match i with
  | 1 => m.b1
  | 2 => m.b2
  | 4 => m.b4
  | 5 => m.b5
  | 7 => m.b7
  | 8 => m.b8
  | 9 => m.b9
  | 12 => m.b12
  | 13 => m.b13
  | 14 => m.b14
  | 15 => m.b15
  | 16 => q
  | _ => 0

theorem five (w : World) (A B C D E : Obj) : (((((w.alloc A).alloc B).alloc C).alloc D).alloc E).heap[w.heap.size + 1]? = some B ∧ (((((w.alloc A).alloc B).alloc C).alloc D).alloc E).heap[w.heap.size + 1 + 1]? = some C ∧ (((((w.alloc A).alloc B).alloc C).alloc D).alloc E).heap[w.heap.size + 1 + 1 + 1]? = some D ∧ (((((w.alloc A).alloc B).alloc C).alloc D).alloc E).heap[w.heap.size + 1 + 1 + 1 + 1]? = some E ∧
    Below w.heap.size w (((((w.alloc A).alloc B).alloc C).alloc D).alloc E) := by
  obtain ⟨h1, h2, h3, h4, h5, h6⟩ := four w A B C D
  have h7 := heap_alloc_new ((((w.alloc A).alloc B).alloc C).alloc D) E
  rw [h5] at h7
  refine ⟨(Below.heap_alloc _ _ _ (by omega)).trans h2, (Below.heap_alloc _ _ _ (by omega)).trans h3, (Below.heap_alloc _ _ _ (by omega)).trans h4, h7, ?_⟩
  exact ((h6 w.heap.size).below (Nat.le_refl _) (Nat.le_refl _)).alloc (by omega) _

theorem below_drew1 {B : Nat} {a w : World} (h : Below B a w) : Below B a { w with drawn := w.drawn + 1 } := h.trans ⟨rfl, rfl, rfl, Nat.le_refl _, fun _ _ => rfl⟩

set_option maxHeartbeats 4000000 in
set_option maxRecDepth 100000 in
theorem want15 (V : Array Value) (m : M) (hM : IsM V m) (hnS : m.nS ≤ 1048576) (w : World) :
    Calls Try.prog 15 #[.agg V] w fun e w' => e = .returned (.tuple #[.agg (SL (fsM m) 17 17).toArray, .agg (OL (foM m ((m.nS : Int) % 256)) 17 17).toArray]) ∧ Below w.heap.size w w' := by
  have f0 := hM.f0
  have f1 := hM.f1
  have f2 := hM.f2
  have f3 := hM.f3
  have f4 := hM.f4
  have f5 := hM.f5
  have f6 := hM.f6
  have f7 := hM.f7
  have f8 := hM.f8
  have f9 := hM.f9
  have f10 := hM.f10
  have f11 := hM.f11
  have f12 := hM.f12
  have f13 := hM.f13
  have f14 := hM.f14
  have f15 := hM.f15
  have f16 := hM.f16
  have f17 := hM.f17
  go_enter Try.func15, Try.ntmps15
  go_wp2
  have hsl : (SL (fsM m) 17 17).toArray = #[Value.string m.s0, Value.string { data := #[] }, Value.string { data := #[] }, Value.string m.s3, Value.string { data := #[] }, Value.string { data := #[] }, Value.string m.s6, Value.string { data := #[] }, Value.string { data := #[] }, Value.string { data := #[] }, Value.string m.s10, Value.string m.s11, Value.string { data := #[] }, Value.string { data := #[] }, Value.string { data := #[] }, Value.string { data := #[] }, Value.string { data := #[] }] := rfl
  have hol : (OL (foM m ((m.nS : Int) % 256)) 17 17).toArray = #[Value.int IntKind.u8 0, Value.int IntKind.u8 m.b1, Value.int IntKind.u8 m.b2, Value.int IntKind.u8 0, Value.int IntKind.u8 m.b4, Value.int IntKind.u8 m.b5, Value.int IntKind.u8 0, Value.int IntKind.u8 m.b7, Value.int IntKind.u8 m.b8, Value.int IntKind.u8 m.b9, Value.int IntKind.u8 0, Value.int IntKind.u8 0, Value.int IntKind.u8 m.b12, Value.int IntKind.u8 m.b13, Value.int IntKind.u8 m.b14, Value.int IntKind.u8 m.b15, Value.int IntKind.u8 ((m.nS : Int) % 256)] := rfl
  have e38 : (#[Value.string { data := #[] }, Value.string { data := #[] }, Value.string { data := #[] }, Value.string { data := #[] }, Value.string { data := #[] }, Value.string { data := #[] }, Value.string { data := #[] }, Value.string { data := #[] }, Value.string { data := #[] }, Value.string { data := #[] }, Value.string { data := #[] }, Value.string { data := #[] }, Value.string { data := #[] }, Value.string { data := #[] }, Value.string { data := #[] }, Value.string { data := #[] }, Value.string { data := #[] }] : Array Value).size = 17 := rfl
  have e39 : (#[Value.int IntKind.u8 0, Value.int IntKind.u8 0, Value.int IntKind.u8 0, Value.int IntKind.u8 0, Value.int IntKind.u8 0, Value.int IntKind.u8 0, Value.int IntKind.u8 0, Value.int IntKind.u8 0, Value.int IntKind.u8 0, Value.int IntKind.u8 0, Value.int IntKind.u8 0, Value.int IntKind.u8 0, Value.int IntKind.u8 0, Value.int IntKind.u8 0, Value.int IntKind.u8 0, Value.int IntKind.u8 0, Value.int IntKind.u8 0] : Array Value).size = 17 := rfl
  rw [← hsl, ← hol]
  generalize #[Value.string { data := #[] }, Value.string { data := #[] }, Value.string { data := #[] }, Value.string { data := #[] }, Value.string { data := #[] }, Value.string { data := #[] }, Value.string { data := #[] }, Value.string { data := #[] }, Value.string { data := #[] }, Value.string { data := #[] }, Value.string { data := #[] }, Value.string { data := #[] }, Value.string { data := #[] }, Value.string { data := #[] }, Value.string { data := #[] }, Value.string { data := #[] }, Value.string { data := #[] }] = Z0 at *
  generalize #[Value.int IntKind.u8 0, Value.int IntKind.u8 0, Value.int IntKind.u8 0, Value.int IntKind.u8 0, Value.int IntKind.u8 0, Value.int IntKind.u8 0, Value.int IntKind.u8 0, Value.int IntKind.u8 0, Value.int IntKind.u8 0, Value.int IntKind.u8 0, Value.int IntKind.u8 0, Value.int IntKind.u8 0, Value.int IntKind.u8 0, Value.int IntKind.u8 0, Value.int IntKind.u8 0, Value.int IntKind.u8 0, Value.int IntKind.u8 0] = Z1 at *
  have hi38 : (Try.prog.info? 38).map (·.size) = some (SL (fsM m) 17 17).toArray.size := by rw [List.size_toArray, SL_len]; kernel_rfl
  have hi39 : (Try.prog.info? 39).map (·.size) = some (OL (foM m ((m.nS : Int) % 256)) 17 17).toArray.size := by rw [List.size_toArray, OL_len]; kernel_rfl
  have hls : (SL (fsM m) 17 17).toArray.size = 17 := by simp [SL_len]
  have hlo : (OL (foM m ((m.nS : Int) % 256)) 17 17).toArray.size = 17 := by simp [OL_len]
  have h1s : (SL (fsM m) 17 17).toArray.all (·.oneCell') = true := all_oneCell_toArray (by
    intro v hv; simp [SL] at hv; obtain ⟨_, _, rfl⟩ := hv; rfl)
  have h1o : (OL (foM m ((m.nS : Int) % 256)) 17 17).toArray.all (·.oneCell') = true := all_oneCell_toArray (by
    intro v hv; simp [OL] at hv; obtain ⟨_, _, rfl⟩ := hv; rfl)
  clear hsl hol
  generalize hsl : (SL (fsM m) 17 17).toArray = sl at *
  generalize hol : (OL (foM m ((m.nS : Int) % 256)) 17 17).toArray = ol at *
  obtain ⟨e0, e1, b2, b3, hb⟩ := five w (.cells V 24) (.cells Z0 38) (.cells Z1 39) (.cells sl 38) (.cells ol 39)
  generalize ((((w.alloc (Obj.cells V 24)).alloc (Obj.cells Z0 38)).alloc (Obj.cells Z1 39)).alloc (Obj.cells sl 38)).alloc (Obj.cells ol 39) = wr at *
  have HSL : Hid ((SL (fsM m) 17 17).toArray = sl) := hsl
  have HOL : Hid ((OL (foM m ((m.nS : Int) % 256)) 17 17).toArray = ol) := hol
  have I38 : Hid _ := hi38
  have I39 : Hid _ := hi39
  have LS : Hid _ := hls
  have LO : Hid _ := hlo
  have OS : Hid _ := h1s
  have OO : Hid _ := h1o
  have Y0 : Hid _ := e0
  have Y1 : Hid _ := e1
  have B2 : Hid _ := b2
  have B3 : Hid _ := b3
  have Z0' : Hid _ := e38
  have Z1' : Hid _ := e39
  have FIN : Hid _ := hb
  have S38 : Hid ((Try.prog.info? 38).map (·.size) = some 17) := by show _ = _; kernel_rfl
  have S39 : Hid ((Try.prog.info? 39).map (·.size) = some 17) := by show _ = _; kernel_rfl
  clear e0 e1 hi38 hi39 hls hlo h1s h1o b2 b3 e38 e39 hb hsl hol f0 f1 f2 f3 f4 f5 f6 f7 f8 f9 f10 f11 f12 f13 f14 f15 f16 f17
  refine wp_region_any (by kernel_rfl) ?_
  refine wpAny_ready (rs := [0, 1]) (by kernel_rfl) (by simp) ?_
  refine AllReady.cons rfl (fun K hK => ?_) (AllReady.cons rfl (fun K hK => ?_) AllReady.nil)
  · refine ldStep rfl 38 (.tmp 4) rfl (w.heap.size + 1 + 1 + 1) rfl 38 sl (0, 0) _ B2.out Try.underlying38 rfl I38.out (hK _ _ ?_)
    clear hK K
    refine wpAny_ready (rs := [1, 2]) (by kernel_rfl) (by simp) ?_
    refine AllReady.cons rfl (fun K hK => ?_) (AllReady.cons rfl (fun K hK => ?_) AllReady.nil)
    · refine ldStep rfl 39 (.tmp 5) rfl (w.heap.size + 1 + 1 + 1 + 1) rfl 39 ol (0, 0) _ B3.out Try.underlying39 rfl I39.out (hK _ _ ?_)
      clear hK K
      refine wpAny_ready (rs := [2]) (by kernel_rfl) (by simp) ?_
      refine AllReady.cons rfl (fun K hK => ?_) AllReady.nil
      refine stStep rfl 17 38 S38.out (.tmp 2) (.tmp 60) rfl (w.heap.size + 1) rfl sl Z0 rfl 38 Y0.out Z0'.out LS.out OS.out (hK _ _ ?_)
      clear hK K
      refine wpAny_ready (rs := [3]) (by kernel_rfl) (by simp) ?_
      refine AllReady.cons rfl (fun K hK => ?_) AllReady.nil
      refine stStep rfl 17 39 S39.out (.tmp 3) (.tmp 61) rfl (w.heap.size + 1 + 1) rfl ol Z1 rfl 39 ((setRow_other _ _ _ _ (by omega)).trans Y1.out) Z1'.out LO.out OO.out (hK _ _ ?_)
      clear hK K
      refine wpAny_done (by kernel_rfl) ?_ _
      go_wp2
      exact bodyPost_ret (v := .tuple #[.agg sl, .agg ol]) (results_two rfl _ _ (w.heap.size + 1) (w.heap.size + 1 + 1) sl ol _ _ rfl rfl ((setRow_other _ _ _ _ (by omega)).trans (setRow_heap _ _ _ _ _ _ Y0.out)) (setRow_heap _ _ _ _ _ _ ((setRow_other _ _ _ _ (by omega)).trans Y1.out)) Try.underlying38 rfl I38.out Try.underlying39 rfl I39.out) rfl ⟨by rw [HSL.out, HOL.out], below_setRow (below_setRow (below_drew1 FIN.out) (by omega) _) (by omega) _⟩
    · refine stStep rfl 17 38 S38.out (.tmp 2) (.tmp 60) rfl (w.heap.size + 1) rfl sl Z0 rfl 38 Y0.out Z0'.out LS.out OS.out (hK _ _ ?_)
      clear hK K
      refine wpAny_ready (rs := [1]) (by kernel_rfl) (by simp) ?_
      refine AllReady.cons rfl (fun K hK => ?_) AllReady.nil
      refine ldStep rfl 39 (.tmp 5) rfl (w.heap.size + 1 + 1 + 1 + 1) rfl 39 ol (0, 0) _ ((setRow_other _ _ _ _ (by omega)).trans B3.out) Try.underlying39 rfl I39.out (hK _ _ ?_)
      clear hK K
      refine wpAny_ready (rs := [3]) (by kernel_rfl) (by simp) ?_
      refine AllReady.cons rfl (fun K hK => ?_) AllReady.nil
      refine stStep rfl 17 39 S39.out (.tmp 3) (.tmp 61) rfl (w.heap.size + 1 + 1) rfl ol Z1 rfl 39 ((setRow_other _ _ _ _ (by omega)).trans Y1.out) Z1'.out LO.out OO.out (hK _ _ ?_)
      clear hK K
      refine wpAny_done (by kernel_rfl) ?_ _
      go_wp2
      exact bodyPost_ret (v := .tuple #[.agg sl, .agg ol]) (results_two rfl _ _ (w.heap.size + 1) (w.heap.size + 1 + 1) sl ol _ _ rfl rfl ((setRow_other _ _ _ _ (by omega)).trans (setRow_heap _ _ _ _ _ _ Y0.out)) (setRow_heap _ _ _ _ _ _ ((setRow_other _ _ _ _ (by omega)).trans Y1.out)) Try.underlying38 rfl I38.out Try.underlying39 rfl I39.out) rfl ⟨by rw [HSL.out, HOL.out], below_setRow (below_setRow (below_drew1 FIN.out) (by omega) _) (by omega) _⟩
  · refine ldStep rfl 39 (.tmp 5) rfl (w.heap.size + 1 + 1 + 1 + 1) rfl 39 ol (0, 0) _ B3.out Try.underlying39 rfl I39.out (hK _ _ ?_)
    clear hK K
    refine wpAny_ready (rs := [0]) (by kernel_rfl) (by simp) ?_
    refine AllReady.cons rfl (fun K hK => ?_) AllReady.nil
    refine ldStep rfl 38 (.tmp 4) rfl (w.heap.size + 1 + 1 + 1) rfl 38 sl (0, 0) _ B2.out Try.underlying38 rfl I38.out (hK _ _ ?_)
    clear hK K
    refine wpAny_ready (rs := [2]) (by kernel_rfl) (by simp) ?_
    refine AllReady.cons rfl (fun K hK => ?_) AllReady.nil
    refine stStep rfl 17 38 S38.out (.tmp 2) (.tmp 60) rfl (w.heap.size + 1) rfl sl Z0 rfl 38 Y0.out Z0'.out LS.out OS.out (hK _ _ ?_)
    clear hK K
    refine wpAny_ready (rs := [3]) (by kernel_rfl) (by simp) ?_
    refine AllReady.cons rfl (fun K hK => ?_) AllReady.nil
    refine stStep rfl 17 39 S39.out (.tmp 3) (.tmp 61) rfl (w.heap.size + 1 + 1) rfl ol Z1 rfl 39 ((setRow_other _ _ _ _ (by omega)).trans Y1.out) Z1'.out LO.out OO.out (hK _ _ ?_)
    clear hK K
    refine wpAny_done (by kernel_rfl) ?_ _
    go_wp2
    exact bodyPost_ret (v := .tuple #[.agg sl, .agg ol]) (results_two rfl _ _ (w.heap.size + 1) (w.heap.size + 1 + 1) sl ol _ _ rfl rfl ((setRow_other _ _ _ _ (by omega)).trans (setRow_heap _ _ _ _ _ _ Y0.out)) (setRow_heap _ _ _ _ _ _ ((setRow_other _ _ _ _ (by omega)).trans Y1.out)) Try.underlying38 rfl I38.out Try.underlying39 rfl I39.out) rfl ⟨by rw [HSL.out, HOL.out], below_setRow (below_setRow (below_drew1 FIN.out) (by omega) _) (by omega) _⟩
end Go.Proofs.Qxb6602209a
