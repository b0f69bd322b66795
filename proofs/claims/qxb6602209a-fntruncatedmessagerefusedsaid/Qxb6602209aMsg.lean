import Derived.Test.Qxb6602209aRows
import Derived.WalkKit
import Derived.ProofKit
import Derived.Below
import Derived.WalkLawsBesides
import Derived.WalkSpells
import Derived.Laws.Rows
namespace Go.Proofs.Qxb6602209a
open Go.ChangeShapes Go.WideShapes Go.ChangeAt Go.RowKit
set_option linter.unusedVariables false

/-- A message as its eighteen fields. -/
structure M where
  s0 : ByteArray
  b1 : Int
  b2 : Int
  s3 : ByteArray
  b4 : Int
  b5 : Int
  s6 : ByteArray
  b7 : Int
  b8 : Int
  b9 : Int
  s10 : ByteArray
  s11 : ByteArray
  b12 : Int
  b13 : Int
  b14 : Int
  b15 : Int
  aS : Option Addr
  nS : Nat
  cS : Nat
  aO : Option Addr
  nO : Nat
  cO : Nat

theorem ret_bool {a b : Bool} (h : a = b) : Ending.returned (.bool a) = .returned (.bool b) := by rw [h]

set_option maxHeartbeats 2000000 in
set_option maxRecDepth 100000 in
/-- The bound on the total length is met. -/
theorem bytes6 (a : Option Addr) (n c : Nat) (m : M) (w : World) (h : n + m.s0.size + m.s3.size + m.s6.size + m.s10.size + m.s11.size + m.nS + m.nO ≤ 1048576) :
    Calls Try.prog 6 #[.slice a n c, .agg #[.string m.s0, .int .u8 m.b1, .int .u8 m.b2, .string m.s3, .int .u8 m.b4, .int .u8 m.b5, .string m.s6, .int .u8 m.b7, .int .u8 m.b8, .int .u8 m.b9, .string m.s10, .string m.s11, .int .u8 m.b12, .int .u8 m.b13, .int .u8 m.b14, .int .u8 m.b15, .slice m.aS m.nS m.cS, .slice m.aO m.nO m.cO]] w fun e w' => e = .returned (.bool true) ∧ w' = w.alloc (.cells #[.string m.s0, .int .u8 m.b1, .int .u8 m.b2, .string m.s3, .int .u8 m.b4, .int .u8 m.b5, .string m.s6, .int .u8 m.b7, .int .u8 m.b8, .int .u8 m.b9, .string m.s10, .string m.s11, .int .u8 m.b12, .int .u8 m.b13, .int .u8 m.b14, .int .u8 m.b15, .slice m.aS m.nS m.cS, .slice m.aO m.nO m.cO] 24) := by
  go_enter Try.func6, Try.ntmps6
  go_wp2
  go_ret
  exact ⟨rfl, rfl⟩

set_option maxHeartbeats 4000000 in
set_option maxRecDepth 100000 in
/-- The bound is not met. -/
theorem bytes6_no (a : Option Addr) (n c : Nat) (m : M) (w : World) (h : 1048576 < n + m.s0.size + m.s3.size + m.s6.size + m.s10.size + m.s11.size + m.nS + m.nO)
    (h0 : n ≤ maxLen) (h1 : m.s0.size ≤ maxLen) (h2 : m.s3.size ≤ maxLen) (h3 : m.s6.size ≤ maxLen) (h4 : m.s10.size ≤ maxLen) (h5 : m.s11.size ≤ maxLen) (h6 : m.nS ≤ maxLen) (h7 : m.nO ≤ maxLen) :
    Calls Try.prog 6 #[.slice a n c, .agg #[.string m.s0, .int .u8 m.b1, .int .u8 m.b2, .string m.s3, .int .u8 m.b4, .int .u8 m.b5, .string m.s6, .int .u8 m.b7, .int .u8 m.b8, .int .u8 m.b9, .string m.s10, .string m.s11, .int .u8 m.b12, .int .u8 m.b13, .int .u8 m.b14, .int .u8 m.b15, .slice m.aS m.nS m.cS, .slice m.aO m.nO m.cO]] w fun e w' => e = .returned (.bool false) ∧ w' = w.alloc (.cells #[.string m.s0, .int .u8 m.b1, .int .u8 m.b2, .string m.s3, .int .u8 m.b4, .int .u8 m.b5, .string m.s6, .int .u8 m.b7, .int .u8 m.b8, .int .u8 m.b9, .string m.s10, .string m.s11, .int .u8 m.b12, .int .u8 m.b13, .int .u8 m.b14, .int .u8 m.b15, .slice m.aS m.nS m.cS, .slice m.aO m.nO m.cO] 24) := by
  unfold maxLen at h0 h1 h2 h3 h4 h5 h6 h7
  go_enter Try.func6, Try.ntmps6
  go_wp2
  all_goals go_ret
  all_goals exact ⟨rfl, rfl⟩

set_option maxHeartbeats 4000000 in
set_option maxRecDepth 100000 in
theorem tooBig7 (a : Option Addr) (n c : Nat) (m : M) (w : World) (h : n + m.s0.size + m.s3.size + m.s6.size + m.s10.size + m.s11.size + m.nS + m.nO ≤ 1048576) :
    Calls Try.prog 7 #[.slice a n c, .agg #[.string m.s0, .int .u8 m.b1, .int .u8 m.b2, .string m.s3, .int .u8 m.b4, .int .u8 m.b5, .string m.s6, .int .u8 m.b7, .int .u8 m.b8, .int .u8 m.b9, .string m.s10, .string m.s11, .int .u8 m.b12, .int .u8 m.b13, .int .u8 m.b14, .int .u8 m.b15, .slice m.aS m.nS m.cS, .slice m.aO m.nO m.cO]] w fun e w' => e = .returned (.bool false) ∧ w' = w.alloc (.cells #[.string m.s0, .int .u8 m.b1, .int .u8 m.b2, .string m.s3, .int .u8 m.b4, .int .u8 m.b5, .string m.s6, .int .u8 m.b7, .int .u8 m.b8, .int .u8 m.b9, .string m.s10, .string m.s11, .int .u8 m.b12, .int .u8 m.b13, .int .u8 m.b14, .int .u8 m.b15, .slice m.aS m.nS m.cS, .slice m.aO m.nO m.cO] 24) := by
  go_enter Try.func7, Try.ntmps7
  go_wp2
  go_ret
  exact ⟨ret_bool (decide_eq_false (by omega)), rfl⟩

/-- Does a string hold a NUL? -/
def nul (s : ByteArray) : Bool := s.data.toList.any (· == 0)

theorem nul_false {s : ByteArray} (h : ∀ k (hk : k < s.size), s[k] ≠ 0) : nul s = false := by
  unfold nul
  rw [List.any_eq_false]
  intro x hx
  obtain ⟨k, hk, rfl⟩ := List.getElem_of_mem hx
  have h2 : s[k]'(by simpa using hk) ≠ 0 := h k (by simpa using hk)
  intro h3
  exact h2 (eq_of_beq h3)
theorem nul_true {s : ByteArray} {k : Nat} (hk : k < s.size) (h : s[k] = 0) : nul s = true := by
  unfold nul
  rw [List.any_eq_true]
  exact ⟨s[k], by exact Array.getElem_mem_toList (by simpa using hk), by simp [h]⟩

theorem hasNul27 (s : ByteArray) (w : World) (hs : s.size ≤ maxLen) : Calls Try.prog 27 #[.string s] w fun e w' => e = .returned (.bool (nul s)) ∧ w' = w := by
  unfold maxLen at hs
  go_enter Try.func27, Try.ntmps27
  go_wp2
  go_loop [3] (fun i => ∃ k : Nat, k ≤ s.size ∧ i = .int .i64 (k : Int) ∧ Hid (∀ j (hj : j < s.size), j < k → s[j] ≠ 0)) (fun i => s.size - (intOf i).toNat)
  case atStart => exact ⟨0, by omega, by go_num, fun j _ h => by omega⟩
  case round =>
    obtain ⟨k, hk, rfl, hno⟩ := hrel
    by_cases hlt : k < s.size
    · by_cases hz : s[k] = 0
      · have hN : Hid (nul s = true) := nul_true hlt hz
        go_wp2
        go_ret
        rw [hN.out]
        exact ⟨rfl, rfl⟩
      · have hzb : ((s[k].toNat : Int) == 0) = false := by
          have : s[k].toNat ≠ 0 := fun h => hz (UInt8.toNat_inj.1 h)
          simp; omega
        go_wp2
        go_round
        case rel =>
          refine ⟨k + 1, by omega, by go_num, fun j hj hlt2 => ?_⟩
          by_cases e : j = k
          · subst e; exact hz
          · exact hno.out j hj (by omega)
        case measure => simp [intOf]; omega
    · have hN : Hid (nul s = false) := nul_false (fun j hj => hno.out j hj (by omega))
      go_wp2
      go_ret
      rw [hN.out]
      exact ⟨rfl, rfl⟩

set_option maxHeartbeats 1000000 in
theorem nulFree8 (m : M) (w : World) (h0 : m.s0.size ≤ maxLen) (h3 : m.s3.size ≤ maxLen) (h6 : m.s6.size ≤ maxLen) (h10 : m.s10.size ≤ maxLen) (h11 : m.s11.size ≤ maxLen)
    (n0 : nul m.s0 = false) (n3 : nul m.s3 = false) (n6 : nul m.s6 = false) (n10 : nul m.s10 = false) (n11 : nul m.s11 = false) :
    Calls Try.prog 8 #[.agg #[.string m.s0, .int .u8 m.b1, .int .u8 m.b2, .string m.s3, .int .u8 m.b4, .int .u8 m.b5, .string m.s6, .int .u8 m.b7, .int .u8 m.b8, .int .u8 m.b9, .string m.s10, .string m.s11, .int .u8 m.b12, .int .u8 m.b13, .int .u8 m.b14, .int .u8 m.b15, .slice m.aS m.nS m.cS, .slice m.aO m.nO m.cO]] w fun e w' => e = .returned (.bool true) ∧ w' = w.alloc (.cells #[.string m.s0, .int .u8 m.b1, .int .u8 m.b2, .string m.s3, .int .u8 m.b4, .int .u8 m.b5, .string m.s6, .int .u8 m.b7, .int .u8 m.b8, .int .u8 m.b9, .string m.s10, .string m.s11, .int .u8 m.b12, .int .u8 m.b13, .int .u8 m.b14, .int .u8 m.b15, .slice m.aS m.nS m.cS, .slice m.aO m.nO m.cO] 24) := by
  have c0 := fun w => hasNul27 m.s0 w h0
  have c3 := fun w => hasNul27 m.s3 w h3
  have c6 := fun w => hasNul27 m.s6 w h6
  have c10 := fun w => hasNul27 m.s10 w h10
  have c11 := fun w => hasNul27 m.s11 w h11
  rw [n0] at c0
  rw [n3] at c3
  rw [n6] at c6
  rw [n10] at c10
  rw [n11] at c11
  clear n0 n3 n6 n10 n11
  go_enter Try.func8, Try.ntmps8
  go_wp2_with fail
  refine (c0 _).mono ?_
  rintro e w' ⟨rfl, rfl⟩
  go_wp2_with fail
  refine (c3 _).mono ?_
  rintro e w' ⟨rfl, rfl⟩
  go_wp2_with fail
  refine (c6 _).mono ?_
  rintro e w' ⟨rfl, rfl⟩
  go_wp2_with fail
  refine (c10 _).mono ?_
  rintro e w' ⟨rfl, rfl⟩
  go_wp2_with fail
  refine (c11 _).mono ?_
  rintro e w' ⟨rfl, rfl⟩
  go_wp2
  go_ret
  exact ⟨rfl, rfl⟩

set_option maxHeartbeats 4000000 in
theorem nulFree8_no (m : M) (w : World) (h0 : m.s0.size ≤ maxLen) (h3 : m.s3.size ≤ maxLen) (h6 : m.s6.size ≤ maxLen) (h10 : m.s10.size ≤ maxLen) (h11 : m.s11.size ≤ maxLen)
    (h : ¬ (nul m.s0 = false ∧ nul m.s3 = false ∧ nul m.s6 = false ∧ nul m.s10 = false ∧ nul m.s11 = false)) :
    Calls Try.prog 8 #[.agg #[.string m.s0, .int .u8 m.b1, .int .u8 m.b2, .string m.s3, .int .u8 m.b4, .int .u8 m.b5, .string m.s6, .int .u8 m.b7, .int .u8 m.b8, .int .u8 m.b9, .string m.s10, .string m.s11, .int .u8 m.b12, .int .u8 m.b13, .int .u8 m.b14, .int .u8 m.b15, .slice m.aS m.nS m.cS, .slice m.aO m.nO m.cO]] w fun e w' => e = .returned (.bool false) ∧ w' = w.alloc (.cells #[.string m.s0, .int .u8 m.b1, .int .u8 m.b2, .string m.s3, .int .u8 m.b4, .int .u8 m.b5, .string m.s6, .int .u8 m.b7, .int .u8 m.b8, .int .u8 m.b9, .string m.s10, .string m.s11, .int .u8 m.b12, .int .u8 m.b13, .int .u8 m.b14, .int .u8 m.b15, .slice m.aS m.nS m.cS, .slice m.aO m.nO m.cO] 24) := by
  have c0 := fun w => hasNul27 m.s0 w h0
  have c3 := fun w => hasNul27 m.s3 w h3
  have c6 := fun w => hasNul27 m.s6 w h6
  have c10 := fun w => hasNul27 m.s10 w h10
  have c11 := fun w => hasNul27 m.s11 w h11
  cases n0 : nul m.s0
  case true =>
    rw [n0] at c0
    clear h n0
    go_enter Try.func8, Try.ntmps8
    go_wp2_with fail
    refine (c0 _).mono ?_
    rintro e w' ⟨rfl, rfl⟩
    go_wp2
    go_ret
    exact ⟨rfl, rfl⟩
  rw [n0] at c0
  cases n3 : nul m.s3
  case true =>
    rw [n3] at c3
    clear h n0 n3
    go_enter Try.func8, Try.ntmps8
    go_wp2_with fail
    refine (c0 _).mono ?_
    rintro e w' ⟨rfl, rfl⟩
    go_wp2_with fail
    refine (c3 _).mono ?_
    rintro e w' ⟨rfl, rfl⟩
    go_wp2
    go_ret
    exact ⟨rfl, rfl⟩
  rw [n3] at c3
  cases n6 : nul m.s6
  case true =>
    rw [n6] at c6
    clear h n0 n3 n6
    go_enter Try.func8, Try.ntmps8
    go_wp2_with fail
    refine (c0 _).mono ?_
    rintro e w' ⟨rfl, rfl⟩
    go_wp2_with fail
    refine (c3 _).mono ?_
    rintro e w' ⟨rfl, rfl⟩
    go_wp2_with fail
    refine (c6 _).mono ?_
    rintro e w' ⟨rfl, rfl⟩
    go_wp2
    go_ret
    exact ⟨rfl, rfl⟩
  rw [n6] at c6
  cases n10 : nul m.s10
  case true =>
    rw [n10] at c10
    clear h n0 n3 n6 n10
    go_enter Try.func8, Try.ntmps8
    go_wp2_with fail
    refine (c0 _).mono ?_
    rintro e w' ⟨rfl, rfl⟩
    go_wp2_with fail
    refine (c3 _).mono ?_
    rintro e w' ⟨rfl, rfl⟩
    go_wp2_with fail
    refine (c6 _).mono ?_
    rintro e w' ⟨rfl, rfl⟩
    go_wp2_with fail
    refine (c10 _).mono ?_
    rintro e w' ⟨rfl, rfl⟩
    go_wp2
    go_ret
    exact ⟨rfl, rfl⟩
  rw [n10] at c10
  cases n11 : nul m.s11
  · exact absurd ⟨n0, n3, n6, n10, n11⟩ h
  · rw [n11] at c11
    clear h n0 n3 n6 n10 n11
    go_enter Try.func8, Try.ntmps8
    go_wp2_with fail
    refine (c0 _).mono ?_
    rintro e w' ⟨rfl, rfl⟩
    go_wp2_with fail
    refine (c3 _).mono ?_
    rintro e w' ⟨rfl, rfl⟩
    go_wp2_with fail
    refine (c6 _).mono ?_
    rintro e w' ⟨rfl, rfl⟩
    go_wp2_with fail
    refine (c10 _).mono ?_
    rintro e w' ⟨rfl, rfl⟩
    go_wp2_with fail
    refine (c11 _).mono ?_
    rintro e w' ⟨rfl, rfl⟩
    go_wp2
    go_ret
    exact ⟨rfl, rfl⟩
end Go.Proofs.Qxb6602209a
