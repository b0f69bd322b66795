import Derived.Test.Qxb6602126aOdd
import Derived.Test.Qxb6602126aIdx
namespace Go.Proofs.Qxb6602126a
open Go.ChangeShapes Go.WideShapes Go.ChangeAt Go.RowKit
set_option linter.unusedVariables false

/-- What readString gives back, and what it leaves in the mark 'escaped' (the cell at A). -/
def RsPost (g : Nat → Int) (x : Bool) (n : Nat) (A : Addr) (w : World) (e : Ending) (w' : World) : Prop :=
  (∃ E, E < n ∧ Plain.IsEnd g x n E ∧ e = .returned (.tuple #[.int .i64 ((E + 1 : Nat) : Int), .bool true]) ∧ w' = w.setCell A (.bool false)) ∨
  (Plain.IsEnd g x n n ∧ e = .returned (.tuple #[.int .i64 (n : Int), .bool false]) ∧ w' = w.setCell A (.bool (Plain.esc g x n)))

set_option maxHeartbeats 1000000 in
theorem rs_any (g : Nat → Int) (b o n c p : Nat) (x : Bool) (w : World) (hn : n ≤ 1048576) (hnc : n ≤ c) (hc : ∀ i, i < n → w.cell? ⟨b, o + i, none⟩ = some (.int .u8 (g i))) (hby : ∀ i, i < n → 0 ≤ g i ∧ g i < 256)
    (hx : w.cell? ⟨p, 3, none⟩ = some (.bool x)) (hf : w.frozen? ⟨p, 3, none⟩ = false) :
    Calls Try.prog 26 #[.pointer (some ⟨p, 0, none⟩), .slice (some ⟨b, o, none⟩) n c] w fun e w' => RsPost g x n ⟨p, 3, none⟩ w e w' := by
  have c25 := fun E hE => odd_any g b o n c E x w hn hE hc
  go_enter Try.func26, Try.ntmps26
  go_wp2
  go_loop [6] (fun i => ∃ k : Nat, k ≤ n ∧ i = .int .i64 (k : Int) ∧ Plain.clear g x k) (fun i => n + 1 - (intOf i).toNat)
  case atStart => exact ⟨0, by omega, by go_num, Plain.clear_zero _ _⟩
  case round =>
    obtain ⟨k, hk, rfl, hcl⟩ := hrel
    by_cases hkc : k = c
    · obtain rfl : n = k := by omega
      subst hkc
      have c := c25 n (Nat.le_refl _)
      clear c25 hc
      go_wp2_with fail
      refine (idx_any ⟨b, o, none⟩ 0 0 (fun i => g (n + i)) 34 _ (fun i hi => by omega) (fun i hi => by omega) ⟨by omega, by omega⟩).mono ?_
      rintro e1 w1 ⟨⟨r, rfl, hr⟩, rfl⟩
      rcases hr with ⟨q, rfl, hq, _⟩ | ⟨rfl, hr⟩
      · omega
      · go_wp2_with fail
        refine c.mono ?_
        rintro e2 w2 ⟨rfl, rfl⟩
        go_wp2
        go_ret2
        exact .inr ⟨⟨Nat.le_refl _, hcl, fun h => by omega⟩, rfl, rfl⟩
    · have hcn := c25 n (Nat.le_refl _)
      go_wp2_with fail
      refine (idx_any ⟨b, o + k, none⟩ (n - k) (c - k) (fun i => g (k + i)) 34 _ (fun i hi => by rw [add_zero_block, Nat.add_assoc]; exact hc _ (by omega)) (fun i hi => hby _ (by omega)) ⟨by omega, by omega⟩).mono ?_
      rintro e1 w1 ⟨⟨r, rfl, hr⟩, rfl⟩
      rcases hr with ⟨q, rfl, hq, hq34, hqn⟩ | ⟨rfl, hr⟩
      · have hfar : Plain.clear g x (k + q) := Plain.clear_far hcl (fun j h1 h2 => by
          have : g (k + (j - k)) ≠ 34 := hqn (j - k) (by omega)
          rwa [show k + (j - k) = j by omega] at this)
        have hci := c25 (k + q) (by omega)
        have H34 : Hid (g (k + q) = 34) := hq34
        clear c25 hc hq34 hqn hcl hcn
        rw [Int.natCast_add] at hci
        cases hesc : Plain.esc g x (k + q)
        · rw [hesc] at hci
          have HE : Hid (Plain.esc g x (k + q) = false) := hesc
          clear hesc
          go_wp2_with fail
          refine hci.mono ?_
          rintro e2 w2 ⟨rfl, rfl⟩
          go_wp2
          go_ret2
          exact .inl ⟨k + q, by omega, ⟨by omega, hfar, fun _ => ⟨H34.out, HE.out⟩⟩, rfl, rfl⟩
        · rw [hesc] at hci
          have HE : Hid (Plain.esc g x (k + q) = true) := hesc
          clear hesc
          go_wp2_with fail
          refine hci.mono ?_
          rintro e2 w2 ⟨rfl, rfl⟩
          go_wp2
          go_round
          case rel => exact ⟨k + q + 1, by omega, by go_num, Plain.clear_snoc hfar (fun _ => HE.out)⟩
          case measure => simp [intOf]; omega
      · have hfar : Plain.clear g x n := Plain.clear_far hcl (fun j h1 h2 => by
          have : g (k + (j - k)) ≠ 34 := hr (j - k) (by omega)
          rwa [show k + (j - k) = j by omega] at this)
        clear c25 hc hr hcl
        go_wp2_with fail
        refine hcn.mono ?_
        rintro e2 w2 ⟨rfl, rfl⟩
        go_wp2
        go_ret2
        exact .inr ⟨⟨Nat.le_refl _, hfar, fun h => by omega⟩, rfl, rfl⟩

theorem rs_nil (g : Nat → Int) (p : Nat) (x : Bool) (w : World) (hx : w.cell? ⟨p, 3, none⟩ = some (.bool x)) (hf : w.frozen? ⟨p, 3, none⟩ = false) :
    Calls Try.prog 26 #[.pointer (some ⟨p, 0, none⟩), .slice none 0 0] w fun e w' => RsPost g x 0 ⟨p, 3, none⟩ w e w' := by
  go_enter Try.func26, Try.ntmps26
  go_wp2
  refine wp_loop_rounds 1 ?_
  rw [rounds_succ]
  go_wp2_with fail
  refine (idx_nil _ _).mono ?_
  rintro e1 w1 ⟨rfl, rfl⟩
  go_wp2_with fail
  refine (odd_nil _ _).mono ?_
  rintro e1 w1 ⟨rfl, rfl⟩
  go_wp2
  go_ret2
  exact .inr ⟨⟨Nat.le_refl _, Plain.clear_zero _ _, fun h => by omega⟩, rfl, rfl⟩
end Go.Proofs.Qxb6602126a
