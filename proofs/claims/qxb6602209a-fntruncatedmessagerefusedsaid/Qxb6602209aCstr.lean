import Derived.Test.Qxb6602209aApp
namespace Go.Proofs.Qxb6602209a
open Go.ChangeShapes Go.WideShapes Go.ChangeAt Go.RowKit
set_option linter.unusedVariables false

/-- An append whose run is known. -/
theorem appArm {w : World} {ops : Array Oper} {rest : List Oper} {o : Oper} {a : Act} {Q : Exit → Act → World → Prop} (hgd : o.guard = none) (s x : Operand) (t tx ty : TypeId)
    (ho : o.op = .call { callee := .builtin .append, args := #[s, x], argTypes := #[t, tx] }) (hty : o.type = ty) (v u : Value) (hs : a.eval s = v) (hx : a.eval x = u) (v' : Value) (w' : World)
    (hr : (Builtin.append_ #[t, tx] ty #[v, u]).run Try.prog w = .ok v' w') (h : wpList Try.prog ops Q rest (a.put o.dst v') w') : wpList Try.prog ops Q (o :: rest) a w := by
  refine wpList_plain hgd fun K hK => ?_
  subst hty
  unfold Oper.wp execOp
  simp only [ho, resolve, invoke, builtin, Sem.run_bind, Sem.run_pure, Result.andThen_ok, List.map_toArray, List.map_cons, List.map_nil, hs, hx, hr]
  exact hK _ _ h

/-- appendCString: the string's bytes and a NUL. -/
theorem cstr30 {ao : Option Addr} {n c : Nat} {xs : List Value} (s : ByteArray) (w : World) (h : Ow w ao n c xs) (hb : n + s.size + 1 ≤ 1073741824) :
    Calls Try.prog 30 #[.slice ao n c, .string s] w fun e w' => ∃ ao' c', e = .returned (.slice ao' (n + s.size + 1) c') ∧ Ow w' ao' (n + s.size + 1) c' (xs ++ Lib.strCells s ++ [.int .u8 0]) ∧ Gr w w' ao ao' := by
  obtain ⟨a1, c1, w1, r1, o1, g1⟩ := run_app_string w h s (by omega) 22
  obtain ⟨a2, c2, w2, r2, o2, g2⟩ := run_app_slice (w1.alloc (.cells #[.int .u8 0] 5)) (o1.alloc _) ⟨w1.heap.size, 0, none⟩ 1 1 [.int .u8 0] rfl (cell_one_new w1 _ 5) (by simp [Value.oneCell']) (by omega) 22
  have G : Gr w w2 ao a2 := (g1.alloc _).trans g2
  have R1 : Hid _ := r1
  have R2 : Hid _ := r2
  clear r1 r2 h g1 g2 o1
  go_enter Try.func30, Try.ntmps30
  go_wp2_with (first | (at_builtin; refine appArm rfl (.tmp 5) (.tmp 6) 22 9 22 rfl rfl _ _ rfl rfl _ _ R1.out ?_) | (at_builtin; refine appArm rfl (.tmp 7) (.tmp 8) 22 22 22 rfl rfl _ _ rfl rfl _ _ R2.out ?_) | fail)
  go_ret
  exact ⟨a2, c2, rfl, o2, G⟩
end Go.Proofs.Qxb6602209a
