import Derived.Test.Qxb6602209aClone
namespace Go.Proofs.Qxb6602209a
open Go.ChangeShapes Go.WideShapes Go.ChangeAt Go.RowKit
set_option linter.unusedVariables false

/-- A new variable of k cells: some row of k cells. -/
theorem alRow {w : World} {ops : Array Oper} {rest : List Oper} {o : Oper} {a : Act} {Q : Exit → Act → World → Prop} (k : Nat) (ty : TypeId) (z : Value) (hz : (Try.prog.info? ty).map (fun i => (i.zero, i.size)) = some (some z, k)) (hzk : z.cells.size = k)
    (hgd : o.guard = none) (ho : o.op = .alloc ty)
    (h : ∀ Z : Array Value, Hid (Z.size = k) → wpList Try.prog ops Q rest (a.put o.dst (.pointer (some ⟨w.heap.size, 0, none⟩))) (w.alloc (.cells Z ty))) : wpList Try.prog ops Q (o :: rest) a w := by
  refine wpList_plain hgd fun K hK => ?_
  have hr := (zero_of_info hz).1 w
  unfold Oper.wp
  simp [execOp, ho, Instr.alloc, hr]
  exact hK _ _ (h z.cells hzk)

/-- The cells of a message. -/
structure IsM (V : Array Value) (m : M) : Prop where
  size : V.size = 18
  one : V.all (·.oneCell') = true
  f0 : V[0]? = some (.string m.s0)
  f1 : V[1]? = some (.int .u8 m.b1)
  f2 : V[2]? = some (.int .u8 m.b2)
  f3 : V[3]? = some (.string m.s3)
  f4 : V[4]? = some (.int .u8 m.b4)
  f5 : V[5]? = some (.int .u8 m.b5)
  f6 : V[6]? = some (.string m.s6)
  f7 : V[7]? = some (.int .u8 m.b7)
  f8 : V[8]? = some (.int .u8 m.b8)
  f9 : V[9]? = some (.int .u8 m.b9)
  f10 : V[10]? = some (.string m.s10)
  f11 : V[11]? = some (.string m.s11)
  f12 : V[12]? = some (.int .u8 m.b12)
  f13 : V[13]? = some (.int .u8 m.b13)
  f14 : V[14]? = some (.int .u8 m.b14)
  f15 : V[15]? = some (.int .u8 m.b15)
  f16 : V[16]? = some (.slice m.aS m.nS m.cS)
  f17 : V[17]? = some (.slice m.aO m.nO m.cO)

theorem Try.zero32 : (Try.prog.info? 32).map (fun i => (i.zero, i.size)) = some (some (.agg #[.string { data := #[] }, .int .u8 0, .int .u8 0, .string { data := #[] }, .int .u8 0, .int .u8 0, .string { data := #[] }, .int .u8 0, .int .u8 0, .int .u8 0, .string { data := #[] }, .string { data := #[] }, .int .u8 0, .int .u8 0, .int .u8 0, .int .u8 0, .slice none 0 0, .slice none 0 0]), 18) := by kernel_rfl

theorem IsM.eq {V : Array Value} {m : M} (h : IsM V m) : V = #[.string m.s0, .int .u8 m.b1, .int .u8 m.b2, .string m.s3, .int .u8 m.b4, .int .u8 m.b5, .string m.s6, .int .u8 m.b7, .int .u8 m.b8, .int .u8 m.b9, .string m.s10, .string m.s11, .int .u8 m.b12, .int .u8 m.b13, .int .u8 m.b14, .int .u8 m.b15, .slice m.aS m.nS m.cS, .slice m.aO m.nO m.cO] := by
  apply Array.ext_getElem?
  intro i
  by_cases hi : i < 18
  · have e : i = 0 ∨ i = 1 ∨ i = 2 ∨ i = 3 ∨ i = 4 ∨ i = 5 ∨ i = 6 ∨ i = 7 ∨ i = 8 ∨ i = 9 ∨ i = 10 ∨ i = 11 ∨ i = 12 ∨ i = 13 ∨ i = 14 ∨ i = 15 ∨ i = 16 ∨ i = 17 := by omega
    rcases e with rfl | rfl | rfl | rfl | rfl | rfl | rfl | rfl | rfl | rfl | rfl | rfl | rfl | rfl | rfl | rfl | rfl | rfl
    · exact h.f0
    · exact h.f1
    · exact h.f2
    · exact h.f3
    · exact h.f4
    · exact h.f5
    · exact h.f6
    · exact h.f7
    · exact h.f8
    · exact h.f9
    · exact h.f10
    · exact h.f11
    · exact h.f12
    · exact h.f13
    · exact h.f14
    · exact h.f15
    · exact h.f16
    · exact h.f17
  · rw [Array.getElem?_eq_none (by rw [h.size]; omega), Array.getElem?_eq_none (by simp; omega)]

theorem lit_one (m : M) : (#[.string m.s0, .int .u8 m.b1, .int .u8 m.b2, .string m.s3, .int .u8 m.b4, .int .u8 m.b5, .string m.s6, .int .u8 m.b7, .int .u8 m.b8, .int .u8 m.b9, .string m.s10, .string m.s11, .int .u8 m.b12, .int .u8 m.b13, .int .u8 m.b14, .int .u8 m.b15, .slice m.aS m.nS m.cS, .slice m.aO m.nO m.cO] : Array Value).all (·.oneCell') = true := by
  simp [Value.oneCell']

theorem IsM.lit (m : M) : IsM #[.string m.s0, .int .u8 m.b1, .int .u8 m.b2, .string m.s3, .int .u8 m.b4, .int .u8 m.b5, .string m.s6, .int .u8 m.b7, .int .u8 m.b8, .int .u8 m.b9, .string m.s10, .string m.s11, .int .u8 m.b12, .int .u8 m.b13, .int .u8 m.b14, .int .u8 m.b15, .slice m.aS m.nS m.cS, .slice m.aO m.nO m.cO] m := by
  refine ⟨rfl, lit_one m, ?_, ?_, ?_, ?_, ?_, ?_, ?_, ?_, ?_, ?_, ?_, ?_, ?_, ?_, ?_, ?_, ?_, ?_⟩ <;> rfl

set_option maxHeartbeats 4000000 in
set_option maxRecDepth 100000 in
theorem toMsg11 (V : Array Value) (m : M) (h : IsM V m) (w : World) :
    Calls Try.prog 11 #[.agg V] w fun e w' => e = .returned (.agg V) ∧ Below w.heap.size w w' := by
  have f0 := h.f0
  have f1 := h.f1
  have f2 := h.f2
  have f3 := h.f3
  have f4 := h.f4
  have f5 := h.f5
  have f6 := h.f6
  have f7 := h.f7
  have f8 := h.f8
  have f9 := h.f9
  have f10 := h.f10
  have f11 := h.f11
  have f12 := h.f12
  have f13 := h.f13
  have f14 := h.f14
  have f15 := h.f15
  have f16 := h.f16
  have f17 := h.f17
  go_enter Try.func11, Try.ntmps11
  go_wp2_with (first | (refine wpList_load_row rfl 32 (.tmp 3) rfl _ rfl 32 _ (0, 0) _ (heap3_last w _ _ _) Try.underlying32 rfl Try.size32 ?_) | (refine stRow 18 32 Try.size32 rfl (.tmp 2) (.tmp 65) rfl _ rfl _ _ rfl 32 (three w _ _ _).2.1 rfl rfl (lit_one m) ?_) | fail)
  refine bodyPost_ret (v := .agg #[.string m.s0, .int .u8 m.b1, .int .u8 m.b2, .string m.s3, .int .u8 m.b4, .int .u8 m.b5, .string m.s6, .int .u8 m.b7, .int .u8 m.b8, .int .u8 m.b9, .string m.s10, .string m.s11, .int .u8 m.b12, .int .u8 m.b13, .int .u8 m.b14, .int .u8 m.b15, .slice m.aS m.nS m.cS, .slice m.aO m.nO m.cO]) (results_cell_row rfl _ _ _ 32 #[.string m.s0, .int .u8 m.b1, .int .u8 m.b2, .string m.s3, .int .u8 m.b4, .int .u8 m.b5, .string m.s6, .int .u8 m.b7, .int .u8 m.b8, .int .u8 m.b9, .string m.s10, .string m.s11, .int .u8 m.b12, .int .u8 m.b13, .int .u8 m.b14, .int .u8 m.b15, .slice m.aS m.nS m.cS, .slice m.aO m.nO m.cO] (0, 0) _ rfl (setRow_heap _ _ _ _ _ _ (three w _ _ _).2.1) Try.underlying32 rfl Try.size32) rfl ⟨by rw [← h.eq], below_setRow (three w _ _ _).2.2.2.2 (by omega) _⟩
end Go.Proofs.Qxb6602209a
