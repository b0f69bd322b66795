import Derived.Test.Qxb6602126aRd
import Derived.Test.Qxb6602126aSl
namespace Go.Proofs.Qxb6602126a
open Go.ChangeShapes Go.WideShapes Go.ChangeAt Go.RowKit
set_option linter.unusedVariables false

set_option maxHeartbeats 1000000 in
set_option maxRecDepth 100000 in
theorem rd_nil (g : Nat → Int) (S0 : Plain.St) (W : World) :
    Calls Try.prog 27 #[.pointer (some ⟨W.heap.size, 0, none⟩), .slice none 0 0] (W.alloc (.cells #[.int .i64 S0.d, .bool S0.str, .bool S0.lit, .bool S0.esc] 40)) fun e w' => RdPost g S0 0 W e w' := by
  have ad : ∀ (W : World) j o, (W.drewN j).alloc o = (W.alloc o).drewN j := fun _ _ _ => rfl
  have sd : ∀ (W : World) j x v, (W.drewN j).setCell x v = (W.setCell x v).drewN j := fun _ _ _ _ => rfl
  go_enter Try.func27, Try.ntmps27
  go_wp2
  go_quiet (fail)
  go_wp2
  refine wp_loop_rounds 1 ?_
  rw [rounds_succ]
  go_wp2
  go_ret2
  exact .inr ⟨_, ⟨Nat.le_refl _, Plain.on_zero _ _, fun h => by omega⟩, rfl, rfl⟩

/-- What ZZRead gives back. -/
def ZrdPost (g : Nat → Int) (S0 : Plain.St) (n : Nat) (e : Ending) : Prop :=
  (∃ i, i < n ∧ Plain.Fin g S0 n i ∧ e = .returned (.tuple #[.int .i64 ((Plain.cnt (Plain.run g S0 i) (g i) i : Nat) : Int), .bool true, .int .i64 (Plain.dOut S0 (Plain.run g S0 i) (g i)), .bool (Plain.sOut S0 (Plain.run g S0 i)), .bool (Plain.next (Plain.run g S0 i) (g i)).lit, .bool (Plain.next (Plain.run g S0 i) (g i)).esc])) ∨
  (Plain.Fin g S0 n n ∧ e = .returned (.tuple #[.int .i64 (n : Int), .bool false, .int .i64 (Plain.run g S0 n).d, .bool (Plain.run g S0 n).str, .bool (Plain.run g S0 n).lit, .bool (Plain.run g S0 n).esc]))

set_option maxHeartbeats 1000000 in
theorem zrd_sl {w : World} {ao : Option Addr} {n c : Nat} {g : Nat → Int} (h : Sl w ao n c g) (hn : n ≤ 1048576) (hby : ∀ i, i < n → 0 ≤ g i ∧ g i < 256) (S0 : Plain.St) :
    Calls Try.prog 20 #[.int .i64 S0.d, .bool S0.str, .bool S0.lit, .bool S0.esc, .slice ao n c] w fun e w' => ZrdPost g S0 n e ∧ Below w.heap.size w w' := by
  have c27 : Calls Try.prog 27 #[.pointer (some ⟨w.heap.size, 0, none⟩), .slice ao n c] (w.alloc (.cells #[.int .i64 S0.d, .bool S0.str, .bool S0.lit, .bool S0.esc] 40)) fun e w' => RdPost g S0 n w e w' := by
    rcases h with ⟨rfl, rfl, rfl⟩ | ⟨b, o, rfl, h2, h3⟩
    · exact rd_nil g S0 w
    · exact rd_any g S0 b o n c w hn h2 h3 hby
  clear h hby
  go_enter Try.func20, Try.ntmps20
  go_wp2_with fail
  refine c27.mono ?_
  rintro e w1 (⟨i, q, hi, hf, rfl, rfl⟩ | ⟨q, hf, rfl, rfl⟩)
  · have hF : ZrdPost g S0 n (.returned (.tuple #[.int .i64 ((Plain.cnt (Plain.run g S0 i) (g i) i : Nat) : Int), .bool true, .int .i64 (Plain.dOut S0 (Plain.run g S0 i) (g i)), .bool (Plain.sOut S0 (Plain.run g S0 i)), .bool (Plain.next (Plain.run g S0 i) (g i)).lit, .bool (Plain.next (Plain.run g S0 i) (g i)).esc])) := .inl ⟨i, hi, hf, rfl⟩
    generalize Plain.cnt (Plain.run g S0 i) (g i) i = N at *
    generalize Plain.dOut S0 (Plain.run g S0 i) (g i) = D at *
    generalize Plain.sOut S0 (Plain.run g S0 i) = B at *
    generalize (Plain.next (Plain.run g S0 i) (g i)).lit = L at *
    generalize (Plain.next (Plain.run g S0 i) (g i)).esc = X at *
    go_wp2
    go_quiet (fail)
    go_wp2
    refine bodyPost_ret (v := .tuple #[.int .i64 (N : Int), .bool true, .int .i64 D, .bool B, .bool L, .bool X]) (by simp [results, Try.results20, go_sem]) rfl ⟨hF, ?_⟩
    exact below_drewN (below_drewN ((Below.refl _ _).alloc (Nat.le_refl _) _) _) _
  · have hF : ZrdPost g S0 n (.returned (.tuple #[.int .i64 (n : Int), .bool false, .int .i64 (Plain.run g S0 n).d, .bool (Plain.run g S0 n).str, .bool (Plain.run g S0 n).lit, .bool (Plain.run g S0 n).esc])) := .inr ⟨hf, rfl⟩
    generalize (Plain.run g S0 n).d = D at *
    generalize (Plain.run g S0 n).str = B at *
    generalize (Plain.run g S0 n).lit = L at *
    generalize (Plain.run g S0 n).esc = X at *
    go_wp2
    go_quiet (fail)
    go_wp2
    refine bodyPost_ret (v := .tuple #[.int .i64 (n : Int), .bool false, .int .i64 D, .bool B, .bool L, .bool X]) (by simp [results, Try.results20, go_sem]) rfl ⟨hF, ?_⟩
    exact below_drewN (below_drewN ((Below.refl _ _).alloc (Nat.le_refl _) _) _) _
end Go.Proofs.Qxb6602126a
