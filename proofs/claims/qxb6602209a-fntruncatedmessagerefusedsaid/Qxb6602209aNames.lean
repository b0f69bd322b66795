import Derived.Test.Qxb6602209aRdr
namespace Go.Proofs.Qxb6602209a
open Go.ChangeShapes Go.WideShapes Go.ChangeAt Go.RowKit
set_option linter.unusedVariables false

/-! ### The exported names -/
theorem zoctet {r : Addr} {name : ByteArray} {w : World} {R : Int → World → Prop} (h : Calls Try.prog 31 #[.pointer (some r), .string name] w fun e w' => ∃ z, e = .returned (.int .u8 z) ∧ R z w') :
    Calls Try.prog 16 #[.pointer (some r), .string name] w fun e w' => ∃ z, e = .returned (.int .u8 z) ∧ R z w' := by
  go_enter Try.func16, Try.ntmps16
  go_wp2_with fail
  refine h.mono ?_
  rintro e w1 ⟨z, rfl, hR⟩
  go_wp2
  go_ret
  exact ⟨z, rfl, hR⟩
theorem zcstr {r : Addr} {name : ByteArray} {w : World} {R : ByteArray → World → Prop} (h : Calls Try.prog 32 #[.pointer (some r), .string name] w fun e w' => ∃ s, e = .returned (.string s) ∧ R s w') :
    Calls Try.prog 25 #[.pointer (some r), .string name] w fun e w' => ∃ s, e = .returned (.string s) ∧ R s w' := by
  go_enter Try.func25, Try.ntmps25
  go_wp2_with fail
  refine h.mono ?_
  rintro e w1 ⟨z, rfl, hR⟩
  go_wp2
  go_ret
  exact ⟨z, rfl, hR⟩
theorem new13 (ao : Option Addr) (n c : Nat) (w : World) :
    Calls Try.prog 13 #[.slice ao n c, .pointer none] w fun e w' => e = .returned (.pointer (some ⟨w.heap.size, 0, none⟩)) ∧ w' = w.alloc (.cells #[.slice ao n c, .pointer none] 62) := by
  go_enter Try.func13, Try.ntmps13
  go_wp2
  go_ret
  exact ⟨rfl, rfl⟩
theorem err18 {r : Nat} {ao : Option Addr} {n c : Nat} {eo : Option Addr} {w : World} (h : Rd w r ao n c eo) :
    Calls Try.prog 18 #[.pointer (some ⟨r, 0, none⟩)] w fun e w' => e = .returned (.pointer eo) ∧ w' = w := by
  have c1 : w.cell? ⟨r, 1, none⟩ = some (.pointer eo) := cellOf h rfl
  clear h
  go_enter Try.func18, Try.ntmps18
  go_wp2
  go_ret
  exact ⟨rfl, rfl⟩
theorem body19 {r : Nat} {ao : Option Addr} {n c : Nat} {eo : Option Addr} {w : World} (h : Rd w r ao n c eo) :
    Calls Try.prog 19 #[.pointer (some ⟨r, 0, none⟩)] w fun e w' => e = .returned (.slice ao n c) ∧ w' = w := by
  have c1 : w.cell? ⟨r, 0, none⟩ = some (.slice ao n c) := cellOf h rfl
  clear h
  go_enter Try.func19, Try.ntmps19
  go_wp2
  go_ret
  exact ⟨rfl, rfl⟩

/-! ### Which fields are C-octet strings; their names -/
def isC (i : Nat) : Bool := i == 0 || i == 3 || i == 6 || i == 10 || i == 11
def nm (i : Nat) : ByteArray :=
  match i with
  | 0 => { data := #[115, 101, 114, 118, 105, 99, 101, 95, 116, 121, 112, 101] }
  | 1 => { data := #[115, 111, 117, 114, 99, 101, 95, 97, 100, 100, 114, 95, 116, 111, 110] }
  | 2 => { data := #[115, 111, 117, 114, 99, 101, 95, 97, 100, 100, 114, 95, 110, 112, 105] }
  | 3 => { data := #[115, 111, 117, 114, 99, 101, 95, 97, 100, 100, 114] }
  | 4 => { data := #[100, 101, 115, 116, 95, 97, 100, 100, 114, 95, 116, 111, 110] }
  | 5 => { data := #[100, 101, 115, 116, 95, 97, 100, 100, 114, 95, 110, 112, 105] }
  | 6 => { data := #[100, 101, 115, 116, 105, 110, 97, 116, 105, 111, 110, 95, 97, 100, 100, 114] }
  | 7 => { data := #[101, 115, 109, 95, 99, 108, 97, 115, 115] }
  | 8 => { data := #[112, 114, 111, 116, 111, 99, 111, 108, 95, 105, 100] }
  | 9 => { data := #[112, 114, 105, 111, 114, 105, 116, 121, 95, 102, 108, 97, 103] }
  | 10 => { data := #[115, 99, 104, 101, 100, 117, 108, 101, 95, 100, 101, 108, 105, 118, 101, 114, 121, 95, 116, 105, 109, 101] }
  | 11 => { data := #[118, 97, 108, 105, 100, 105, 116, 121, 95, 112, 101, 114, 105, 111, 100] }
  | 12 => { data := #[114, 101, 103, 105, 115, 116, 101, 114, 101, 100, 95, 100, 101, 108, 105, 118, 101, 114, 121] }
  | 13 => { data := #[114, 101, 112, 108, 97, 99, 101, 95, 105, 102, 95, 112, 114, 101, 115, 101, 110, 116, 95, 102, 108, 97, 103] }
  | 14 => { data := #[100, 97, 116, 97, 95, 99, 111, 100, 105, 110, 103] }
  | 15 => { data := #[115, 109, 95, 100, 101, 102, 97, 117, 108, 116, 95, 109, 115, 103, 95, 105, 100] }
  | 16 => { data := #[115, 109, 95, 108, 101, 110, 103, 116, 104] }
  | _ => { data := #[] }

theorem cases17 {P : Nat → Prop} (h0 : P 0) (h1 : P 1) (h2 : P 2) (h3 : P 3) (h4 : P 4) (h5 : P 5) (h6 : P 6) (h7 : P 7) (h8 : P 8) (h9 : P 9) (h10 : P 10) (h11 : P 11) (h12 : P 12) (h13 : P 13) (h14 : P 14) (h15 : P 15) (h16 : P 16) : ∀ i, i < 17 → P i := by
  intro i hi
  match i, hi with
  | 0, _ => exact h0
  | 1, _ => exact h1
  | 2, _ => exact h2
  | 3, _ => exact h3
  | 4, _ => exact h4
  | 5, _ => exact h5
  | 6, _ => exact h6
  | 7, _ => exact h7
  | 8, _ => exact h8
  | 9, _ => exact h9
  | 10, _ => exact h10
  | 11, _ => exact h11
  | 12, _ => exact h12
  | 13, _ => exact h13
  | 14, _ => exact h14
  | 15, _ => exact h15
  | 16, _ => exact h16
  | n + 17, hi => omega

set_option maxHeartbeats 2000000 in
theorem isC22 : ∀ i : Nat, i < 17 → ∀ w : World, Calls Try.prog 22 #[.int .i64 (i : Int)] w fun e w' => e = .returned (.bool (isC i)) ∧ w' = w := by
  refine cases17 ?_ ?_ ?_ ?_ ?_ ?_ ?_ ?_ ?_ ?_ ?_ ?_ ?_ ?_ ?_ ?_ ?_
  all_goals
    intro w
    go_enter Try.func22, Try.ntmps22
    go_wp2
    go_ret
    exact ⟨rfl, rfl⟩

set_option maxHeartbeats 4000000 in
theorem name23 : ∀ i : Nat, i < 17 → ∀ w : World, Calls Try.prog 23 #[.int .i64 (i : Int)] w fun e w' => e = .returned (.string (nm i)) ∧ w' = w := by
  refine cases17 ?_ ?_ ?_ ?_ ?_ ?_ ?_ ?_ ?_ ?_ ?_ ?_ ?_ ?_ ?_ ?_ ?_
  all_goals
    intro w
    go_enter Try.func23, Try.ntmps23
    go_wp2
    go_ret
    exact ⟨rfl, rfl⟩
end Go.Proofs.Qxb6602209a
