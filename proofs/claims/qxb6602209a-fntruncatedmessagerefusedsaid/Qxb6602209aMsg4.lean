import Derived.Test.Qxb6602209aHelp
namespace Go.Proofs.Qxb6602209a
open Go.ChangeShapes Go.WideShapes Go.ChangeAt Go.RowKit
set_option linter.unusedVariables false

set_option maxHeartbeats 2000000 in
set_option maxRecDepth 100000 in
theorem bytes20 (k : Int) (m : M) (w : World) (h : m.s0.size + m.s3.size + m.s6.size + m.s10.size + m.s11.size + m.nS + m.nO ≤ 1048576) :
    Calls Try.prog 20 #[.agg #[.string m.s0, .int .u8 m.b1, .int .u8 m.b2, .string m.s3, .int .u8 m.b4, .int .u8 m.b5, .string m.s6, .int .u8 m.b7, .int .u8 m.b8, .int .u8 m.b9, .string m.s10, .string m.s11, .int .u8 m.b12, .int .u8 m.b13, .int .u8 m.b14, .int .u8 m.b15, .slice m.aS m.nS m.cS, .slice m.aO m.nO m.cO], .int .i64 k] w fun e w' => e = .returned (.bool true) ∧ w' = w.alloc (.cells #[.string m.s0, .int .u8 m.b1, .int .u8 m.b2, .string m.s3, .int .u8 m.b4, .int .u8 m.b5, .string m.s6, .int .u8 m.b7, .int .u8 m.b8, .int .u8 m.b9, .string m.s10, .string m.s11, .int .u8 m.b12, .int .u8 m.b13, .int .u8 m.b14, .int .u8 m.b15, .slice m.aS m.nS m.cS, .slice m.aO m.nO m.cO] 24) := by
  go_enter Try.func20, Try.ntmps20
  go_wp2
  go_ret
  exact ⟨rfl, rfl⟩

set_option maxHeartbeats 4000000 in
set_option maxRecDepth 100000 in
theorem bytes20_no (k : Int) (m : M) (w : World) (h : 1048576 < m.s0.size + m.s3.size + m.s6.size + m.s10.size + m.s11.size + m.nS + m.nO)
    (h1 : m.s0.size ≤ maxLen) (h2 : m.s3.size ≤ maxLen) (h3 : m.s6.size ≤ maxLen) (h4 : m.s10.size ≤ maxLen) (h5 : m.s11.size ≤ maxLen) (h6 : m.nS ≤ maxLen) (h7 : m.nO ≤ maxLen) :
    Calls Try.prog 20 #[.agg #[.string m.s0, .int .u8 m.b1, .int .u8 m.b2, .string m.s3, .int .u8 m.b4, .int .u8 m.b5, .string m.s6, .int .u8 m.b7, .int .u8 m.b8, .int .u8 m.b9, .string m.s10, .string m.s11, .int .u8 m.b12, .int .u8 m.b13, .int .u8 m.b14, .int .u8 m.b15, .slice m.aS m.nS m.cS, .slice m.aO m.nO m.cO], .int .i64 k] w fun e w' => e = .returned (.bool false) ∧ w' = w.alloc (.cells #[.string m.s0, .int .u8 m.b1, .int .u8 m.b2, .string m.s3, .int .u8 m.b4, .int .u8 m.b5, .string m.s6, .int .u8 m.b7, .int .u8 m.b8, .int .u8 m.b9, .string m.s10, .string m.s11, .int .u8 m.b12, .int .u8 m.b13, .int .u8 m.b14, .int .u8 m.b15, .slice m.aS m.nS m.cS, .slice m.aO m.nO m.cO] 24) := by
  unfold maxLen at h1 h2 h3 h4 h5 h6 h7
  go_enter Try.func20, Try.ntmps20
  go_wp2
  all_goals go_ret
  all_goals exact ⟨rfl, rfl⟩

set_option maxHeartbeats 2000000 in
set_option maxRecDepth 100000 in
theorem header21 (m : M) (w : World) (h : m.s0.size + m.s3.size + m.s6.size + m.s10.size + m.s11.size + m.nS + m.nO ≤ 1048576) :
    Calls Try.prog 21 #[.agg #[.string m.s0, .int .u8 m.b1, .int .u8 m.b2, .string m.s3, .int .u8 m.b4, .int .u8 m.b5, .string m.s6, .int .u8 m.b7, .int .u8 m.b8, .int .u8 m.b9, .string m.s10, .string m.s11, .int .u8 m.b12, .int .u8 m.b13, .int .u8 m.b14, .int .u8 m.b15, .slice m.aS m.nS m.cS, .slice m.aO m.nO m.cO]] w fun e w' => e = .returned (.int .i64 ((17 + m.s0.size + m.s3.size + m.s6.size + m.s10.size + m.s11.size : Nat) : Int)) ∧ Below w.heap.size w w' := by
  go_enter Try.func21, Try.ntmps21
  go_wp2
  go_ret
  exact ⟨rfl, (Below.refl _ _).alloc (Nat.le_refl _) _⟩

theorem bytes20V {V : Array Value} {m : M} (hM : IsM V m) (k : Int) (w : World) (h : m.s0.size + m.s3.size + m.s6.size + m.s10.size + m.s11.size + m.nS + m.nO ≤ 1048576) :
    Calls Try.prog 20 #[.agg V, .int .i64 k] w fun e w' => e = .returned (.bool true) ∧ Below w.heap.size w w' := by
  rw [hM.eq]
  refine (bytes20 k m w h).mono ?_
  rintro e w' ⟨rfl, rfl⟩
  exact ⟨rfl, (Below.refl _ _).alloc (Nat.le_refl _) _⟩
theorem bytes20_noV {V : Array Value} {m : M} (hM : IsM V m) (k : Int) (w : World) (h : 1048576 < m.s0.size + m.s3.size + m.s6.size + m.s10.size + m.s11.size + m.nS + m.nO)
    (h1 : m.s0.size ≤ maxLen) (h2 : m.s3.size ≤ maxLen) (h3 : m.s6.size ≤ maxLen) (h4 : m.s10.size ≤ maxLen) (h5 : m.s11.size ≤ maxLen) (h6 : m.nS ≤ maxLen) (h7 : m.nO ≤ maxLen) :
    Calls Try.prog 20 #[.agg V, .int .i64 k] w fun e w' => e = .returned (.bool false) ∧ Below w.heap.size w w' := by
  rw [hM.eq]
  refine (bytes20_no k m w h h1 h2 h3 h4 h5 h6 h7).mono ?_
  rintro e w' ⟨rfl, rfl⟩
  exact ⟨rfl, (Below.refl _ _).alloc (Nat.le_refl _) _⟩
theorem header21V {V : Array Value} {m : M} (hM : IsM V m) (w : World) (h : m.s0.size + m.s3.size + m.s6.size + m.s10.size + m.s11.size + m.nS + m.nO ≤ 1048576) :
    Calls Try.prog 21 #[.agg V] w fun e w' => e = .returned (.int .i64 ((17 + m.s0.size + m.s3.size + m.s6.size + m.s10.size + m.s11.size : Nat) : Int)) ∧ Below w.heap.size w w' := by
  rw [hM.eq]
  exact header21 m w h
end Go.Proofs.Qxb6602209a
