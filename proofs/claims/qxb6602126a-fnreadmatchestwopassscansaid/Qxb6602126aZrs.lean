import Derived.Test.Qxb6602126aRs
import Derived.Deep.QuietTactic
import Derived.BigQuiet
import Derived.WalkLawsBesides
import Derived.Laws.Rows
namespace Go.Proofs.Qxb6602126a
open Go.ChangeShapes Go.WideShapes Go.ChangeAt Go.RowKit
set_option linter.unusedVariables false

/-- What ZZReadString gives back. -/
def ZrsPost (g : Nat → Int) (x : Bool) (n : Nat) (d : Int) (s l : Bool) (e : Ending) : Prop :=
  (∃ E, E < n ∧ Plain.IsEnd g x n E ∧ e = .returned (.tuple #[.int .i64 ((E + 1 : Nat) : Int), .bool true, .int .i64 d, .bool s, .bool l, .bool false])) ∨
  (Plain.IsEnd g x n n ∧ e = .returned (.tuple #[.int .i64 (n : Int), .bool false, .int .i64 d, .bool s, .bool l, .bool (Plain.esc g x n)]))

set_option maxHeartbeats 1000000 in
theorem zrs_any (g : Nat → Int) (b o n c : Nat) (d : Int) (s l x : Bool) (w : World) (hn : n ≤ 1048576) (hnc : n ≤ c) (hc : ∀ i, i < n → w.cell? ⟨b, o + i, none⟩ = some (.int .u8 (g i))) (hby : ∀ i, i < n → 0 ≤ g i ∧ g i < 256) :
    Calls Try.prog 16 #[.int .i64 d, .bool s, .bool l, .bool x, .slice (some ⟨b, o, none⟩) n c] w fun e w' => ZrsPost g x n d s l e ∧ Below w.heap.size w w' := by
  have c26 := rs_any g b o n c w.heap.size x (w.alloc (.cells #[.int .i64 d, .bool s, .bool l, .bool x] 40)) hn hnc
    (fun i hi => by
      have h := hc i hi
      have hb : b < w.heap.size := block_lt_of_cell h
      exact (World.cell?_alloc_lt _ _ _ hb).trans h) hby (by simp) (by simp)
  clear hc hby
  go_enter Try.func16, Try.ntmps16
  go_wp2_with fail
  refine c26.mono ?_
  rintro e w1 (⟨E, hE, hi, rfl, rfl⟩ | ⟨hi, rfl, rfl⟩)
  · go_wp2
    go_quiet (fail)
    go_wp2
    refine bodyPost_ret (v := .tuple #[.int .i64 ((E + 1 : Nat) : Int), .bool true, .int .i64 d, .bool s, .bool l, .bool false]) (by simp [results, Try.results16, go_sem]) rfl ⟨.inl ⟨E, hE, hi, rfl⟩, ?_⟩
    exact below_drewN ((Below.refl _ _).alloc (Nat.le_refl _) _) _
  · go_wp2
    go_quiet (fail)
    go_wp2
    refine bodyPost_ret (v := .tuple #[.int .i64 (n : Int), .bool false, .int .i64 d, .bool s, .bool l, .bool (Plain.esc g x n)]) (by simp [results, Try.results16, go_sem]) rfl ⟨.inr ⟨hi, rfl⟩, ?_⟩
    exact below_drewN ((Below.refl _ _).alloc (Nat.le_refl _) _) _

set_option maxHeartbeats 1000000 in
theorem zrs_nil (g : Nat → Int) (d : Int) (s l x : Bool) (w : World) :
    Calls Try.prog 16 #[.int .i64 d, .bool s, .bool l, .bool x, .slice none 0 0] w fun e w' => ZrsPost g x 0 d s l e ∧ Below w.heap.size w w' := by
  have c26 := rs_nil g w.heap.size x (w.alloc (.cells #[.int .i64 d, .bool s, .bool l, .bool x] 40)) (by simp) (by simp)
  go_enter Try.func16, Try.ntmps16
  go_wp2_with fail
  refine c26.mono ?_
  rintro e w1 (⟨E, hE, hi, rfl, rfl⟩ | ⟨hi, rfl, rfl⟩)
  · omega
  · go_wp2
    go_quiet (fail)
    go_wp2
    refine bodyPost_ret (v := .tuple #[.int .i64 ((0 : Nat) : Int), .bool false, .int .i64 d, .bool s, .bool l, .bool (Plain.esc g x 0)]) (by simp [results, Try.results16, go_sem]) rfl ⟨.inr ⟨hi, rfl⟩, ?_⟩
    exact below_drewN ((Below.refl _ _).alloc (Nat.le_refl _) _) _
end Go.Proofs.Qxb6602126a
