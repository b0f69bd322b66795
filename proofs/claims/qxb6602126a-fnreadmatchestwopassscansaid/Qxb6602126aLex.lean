import Derived.Test.Qxb6602126aSl
import Derived.Test.Qxb6602126aOut
namespace Go.Proofs.Qxb6602126a
open Go.ChangeShapes Go.WideShapes Go.ChangeAt Go.RowKit
set_option linter.unusedVariables false

namespace Plain
/-- The kind of a byte: 0 outside every string, 1 a quote that opens, 2 inside a string, 3 the quote that closes. -/
def kind (s x : Bool) (c : Int) : Int := if s = true then (if x = true then 2 else if c = 92 then 2 else if c = 34 then 3 else 2) else if c = 34 then 1 else 0

/-- The kinds of a whole text. -/
def kinds (g : Nat → Int) (S0 : St) : Nat → Int := fun i => kind (run g S0 i).str (run g S0 i).esc (g i)
end Plain

/-- b1LexStep: the kind, and the two marks behind the byte. -/
theorem step_any (d : Int) (s l x : Bool) (c : Int) (w : World) :
    Calls Try.prog 28 #[.bool s, .bool x, .int .u8 c] w fun e w' => e = .returned (.tuple #[.int .u8 (Plain.kind s x c), .bool (Plain.next ⟨d, s, l, x⟩ c).str, .bool (Plain.next ⟨d, s, l, x⟩ c).esc]) ∧ w' = w := by
  have hin : s = false → c ≠ 34 → (Plain.next ⟨d, s, l, x⟩ c).str = false ∧ (Plain.next ⟨d, s, l, x⟩ c).esc = x := by
    intro hs hc
    subst hs
    simp only [Plain.next]
    rw [if_neg (by simp), if_neg hc]
    split
    · exact ⟨rfl, rfl⟩
    · split
      · exact ⟨rfl, rfl⟩
      · split
        · exact ⟨rfl, rfl⟩
        · split <;> exact ⟨rfl, rfl⟩
  cases s
  · by_cases h34 : c = 34
    · have Hk : Hid (Plain.kind false x c = 1 ∧ (Plain.next ⟨d, false, l, x⟩ c).str = true ∧ (Plain.next ⟨d, false, l, x⟩ c).esc = x) := by
        show _ ∧ _; simp [Plain.kind, Plain.next, h34]
      clear hin
      go_enter Try.func28, Try.ntmps28
      go_wp2
      go_ret3
      rw [Hk.out.1, Hk.out.2.1, Hk.out.2.2]
      exact ⟨rfl, rfl⟩
    · have hb : (c == 34) = false := by simpa using h34
      have Hk : Hid (Plain.kind false x c = 0 ∧ (Plain.next ⟨d, false, l, x⟩ c).str = false ∧ (Plain.next ⟨d, false, l, x⟩ c).esc = x) := ⟨by simp [Plain.kind, h34], hin rfl h34⟩
      clear hin
      go_enter Try.func28, Try.ntmps28
      go_wp2
      go_ret3
      rw [Hk.out.1, Hk.out.2.1, Hk.out.2.2]
      exact ⟨rfl, rfl⟩
  · clear hin
    cases x
    · by_cases h92 : c = 92
      · have Hk : Hid (Plain.kind true false c = 2 ∧ (Plain.next ⟨d, true, l, false⟩ c).str = true ∧ (Plain.next ⟨d, true, l, false⟩ c).esc = true) := by
          show _ ∧ _; simp [Plain.kind, Plain.next, h92]
        go_enter Try.func28, Try.ntmps28
        go_wp2
        go_ret3
        rw [Hk.out.1, Hk.out.2.1, Hk.out.2.2]
        exact ⟨rfl, rfl⟩
      · have hb : (c == 92) = false := by simpa using h92
        by_cases h34 : c = 34
        · have Hk : Hid (Plain.kind true false c = 3 ∧ (Plain.next ⟨d, true, l, false⟩ c).str = false ∧ (Plain.next ⟨d, true, l, false⟩ c).esc = false) := by
            show _ ∧ _; simp [Plain.kind, Plain.next, h34]
          go_enter Try.func28, Try.ntmps28
          go_wp2
          go_ret3
          rw [Hk.out.1, Hk.out.2.1, Hk.out.2.2]
          exact ⟨rfl, rfl⟩
        · have hb2 : (c == 34) = false := by simpa using h34
          have Hk : Hid (Plain.kind true false c = 2 ∧ (Plain.next ⟨d, true, l, false⟩ c).str = true ∧ (Plain.next ⟨d, true, l, false⟩ c).esc = false) := by
            show _ ∧ _; simp [Plain.kind, Plain.next, h34, h92]
          go_enter Try.func28, Try.ntmps28
          go_wp2
          go_ret3
          rw [Hk.out.1, Hk.out.2.1, Hk.out.2.2]
          exact ⟨rfl, rfl⟩
    · have Hk : Hid (Plain.kind true true c = 2 ∧ (Plain.next ⟨d, true, l, true⟩ c).str = true ∧ (Plain.next ⟨d, true, l, true⟩ c).esc = false) := by
        show _ ∧ _; simp [Plain.kind, Plain.next]
      go_enter Try.func28, Try.ntmps28
      go_wp2
      go_ret3
      rw [Hk.out.1, Hk.out.2.1, Hk.out.2.2]
      exact ⟨rfl, rfl⟩

/-- The step at place k of a text. -/
theorem step_at (g : Nat → Int) (S0 : Plain.St) (k : Nat) (w : World) :
    Calls Try.prog 28 #[.bool (Plain.run g S0 k).str, .bool (Plain.run g S0 k).esc, .int .u8 (g k)] w fun e w' => e = .returned (.tuple #[.int .u8 (Plain.kinds g S0 k), .bool (Plain.run g S0 (k + 1)).str, .bool (Plain.run g S0 (k + 1)).esc]) ∧ w' = w :=
  step_any (Plain.run g S0 k).d (Plain.run g S0 k).str (Plain.run g S0 k).lit (Plain.run g S0 k).esc (g k) w

theorem Sl.open' {w : World} {ao : Option Addr} {n c : Nat} {g : Nat → Int} (h : Sl w ao n c g) : 0 < n → ∃ b o, ao = some ⟨b, o, none⟩ ∧ ∀ i, i < n → w.cell? ⟨b, o + i, none⟩ = some (.int .u8 (g i)) := by
  rcases h with ⟨_, h, _⟩ | ⟨b, o, h1, h2, h3⟩
  · intro h'; omega
  · exact fun _ => ⟨b, o, h1, h3⟩

set_option maxHeartbeats 1000000 in
/-- b1Lex: the kinds. -/
theorem lex_sl {w : World} {ao : Option Addr} {n c : Nat} {g : Nat → Int} (h : Sl w ao n c g) (hn : n ≤ 1048576) (S0 : Plain.St) :
    Calls Try.prog 21 #[.bool S0.str, .bool S0.esc, .slice ao n c] w fun e w' => e = .returned (.slice (some ⟨w.heap.size, 0, none⟩) n n) ∧ w' = w.alloc (.cells (row (Plain.kinds g S0) n n).toArray 5) := by
  have hmk := fun w => make_bytes (Plain.kinds g S0) n hn w
  have Ha : Hid (0 < n → ∃ b o, ao = some ⟨b, o, none⟩ ∧ ∀ i, i < n → w.cell? ⟨b, o + i, none⟩ = some (.int .u8 (g i))) := h.open'
  clear h
  go_enter Try.func21, Try.ntmps21
  go_wp2
  go_loopw [8, 9, 10] (fun s x i wr => ∃ k : Nat, k ≤ n ∧ i = .int .i64 (k : Int) ∧ s = .bool (Plain.run g S0 k).str ∧ x = .bool (Plain.run g S0 k).esc ∧ wr = w.alloc (.cells (row (Plain.kinds g S0) n k).toArray 5)) (fun _ _ i _ => n - (intOf i).toNat)
  case atStart => exact ⟨0, by omega, by go_num, rfl, rfl, rfl⟩
  case round =>
    obtain ⟨k, hk, rfl, rfl, rfl, rfl⟩ := hrel
    by_cases hlt : k < n
    · obtain ⟨b, o, rfl, hc⟩ := Ha.out (by omega)
      have hce := hc k hlt
      have hbk : b < w.heap.size := block_lt_of_cell hce
      have hrow := row_get (Plain.kinds g S0) n k k hlt
      have hlen := row_length (Plain.kinds g S0) n k
      have hset := row_set (Plain.kinds g S0) n k hlt
      have hstep := step_at g S0 k
      clear hc Ha
      go_wp2_with (go_at_call 28; refine (hstep _).mono ?_; rintro e w' ⟨rfl, rfl⟩)
      go_roundw
      case rel => exact ⟨k + 1, by omega, by go_num, rfl, rfl, rfl⟩
      case measure => simp [intOf]; omega
    · obtain rfl : k = n := by omega
      go_wp2
      go_ret
      exact ⟨rfl, rfl⟩

set_option maxHeartbeats 1000000 in
/-- b1LexState: the two marks behind N bytes. -/
theorem lexState_sl {w : World} {ao : Option Addr} {n c : Nat} {g : Nat → Int} (h : Sl w ao n c g) (hn : n ≤ 1048576) (S0 : Plain.St) (N : Nat) (hN : N ≤ n) :
    Calls Try.prog 23 #[.bool S0.str, .bool S0.esc, .slice ao n c, .int .i64 N] w fun e w' => e = .returned (.tuple #[.bool (Plain.run g S0 N).str, .bool (Plain.run g S0 N).esc]) ∧ w' = w := by
  have Ha : Hid (0 < n → ∃ b o, ao = some ⟨b, o, none⟩ ∧ ∀ i, i < n → w.cell? ⟨b, o + i, none⟩ = some (.int .u8 (g i))) := h.open'
  clear h
  go_enter Try.func23, Try.ntmps23
  go_wp2
  go_loop [10, 11, 12] (fun s x i => ∃ k : Nat, k ≤ N ∧ i = .int .i64 (k : Int) ∧ s = .bool (Plain.run g S0 k).str ∧ x = .bool (Plain.run g S0 k).esc) (fun _ _ i => N - (intOf i).toNat)
  case atStart => exact ⟨0, by omega, by go_num, rfl, rfl⟩
  case round =>
    obtain ⟨k, hk, rfl, rfl, rfl⟩ := hrel
    by_cases hlt : k < N
    · obtain ⟨b, o, rfl, hc⟩ := Ha.out (by omega)
      have hce := hc k (by omega)
      have h1 : (k : Int) < (N : Int) := by omega
      have h2 : (k : Int) < (n : Int) := by omega
      have hstep := step_at g S0 k
      clear hc Ha
      go_wp2_with (go_at_call 28; refine (hstep _).mono ?_; rintro e w' ⟨rfl, rfl⟩)
      go_round
      case rel => exact ⟨k + 1, by omega, by go_num, rfl, rfl⟩
      case measure => simp [intOf]; omega
    · obtain rfl : k = N := by omega
      go_wp2
      go_ret2
      exact ⟨rfl, rfl⟩
end Go.Proofs.Qxb6602126a
