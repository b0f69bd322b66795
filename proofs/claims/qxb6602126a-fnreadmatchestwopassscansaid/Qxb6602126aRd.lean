import Derived.Test.Qxb6602126aRs
import Derived.Test.Qxb6602126aAuto
import Derived.Deep.QuietTactic
import Derived.BigQuiet
import Derived.WalkLawsBesides
import Derived.Laws.Rows
import Derived.Laws.NewBlocks
namespace Go.Proofs.Qxb6602126a
open Go.ChangeShapes Go.WideShapes Go.ChangeAt Go.RowKit
set_option linter.unusedVariables false

/-- endsLiteral. -/
theorem ends_any (c : Int) (w : World) : Calls Try.prog 31 #[.int .u8 c] w fun e w' => e = .returned (.bool (Plain.ends c)) ∧ w' = w := by
  have hE : Hid (Plain.ends c = (c == 32 || c == 9 || c == 13 || c == 10 || c == 44 || c == 125 || c == 93)) := rfl
  go_enter Try.func31, Try.ntmps31
  go_wp2
  all_goals go_ret
  all_goals refine ⟨?_, rfl⟩
  all_goals rw [hE.out]
  all_goals simp [*]

/-- readString on a mark that lies in the block just made, behind some draws. -/
theorem rs_box (g : Nat → Int) (b o n c : Nat) (d : Int) (s l x : Bool) (W : World) (q : Nat) (hn : n ≤ 1048576) (hnc : n ≤ c) (hc : ∀ i, i < n → W.cell? ⟨b, o + i, none⟩ = some (.int .u8 (g i))) (hby : ∀ i, i < n → 0 ≤ g i ∧ g i < 256) :
    Calls Try.prog 26 #[.pointer (some ⟨W.heap.size, 0, none⟩), .slice (some ⟨b, o, none⟩) n c] ((W.alloc (.cells #[.int .i64 d, .bool s, .bool l, .bool x] 40)).drewN q) fun e w' =>
      (∃ E, E < n ∧ Plain.IsEnd g x n E ∧ e = .returned (.tuple #[.int .i64 ((E + 1 : Nat) : Int), .bool true]) ∧ w' = (W.alloc (.cells #[.int .i64 d, .bool s, .bool l, .bool false] 40)).drewN q) ∨
      (Plain.IsEnd g x n n ∧ e = .returned (.tuple #[.int .i64 (n : Int), .bool false]) ∧ w' = (W.alloc (.cells #[.int .i64 d, .bool s, .bool l, .bool (Plain.esc g x n)] 40)).drewN q) := by
  have hset : ∀ v : Value, ((W.alloc (.cells #[.int .i64 d, .bool s, .bool l, .bool x] 40)).drewN q).setCell ⟨W.heap.size, 3, none⟩ v = (W.alloc (.cells #[.int .i64 d, .bool s, .bool l, v] 40)).drewN q := by
    intro v
    show ((W.alloc (.cells #[.int .i64 d, .bool s, .bool l, .bool x] 40)).setCell ⟨W.heap.size, 3, none⟩ v).drewN q = _
    rw [World.setCell_alloc_at _ _ _ _ _ rfl]
    rfl
  refine (rs_any g b o n c W.heap.size x ((W.alloc (.cells #[.int .i64 d, .bool s, .bool l, .bool x] 40)).drewN q) hn hnc
    (fun i hi => by
      have h := hc i hi
      show (W.alloc _).cell? _ = _
      exact (World.cell?_alloc_lt _ _ _ (block_lt_of_cell h)).trans h) hby
    (by show (W.alloc _).cell? _ = _; simp) (by show (W.alloc _).frozen? _ = _; simp)).mono ?_
  rintro e w' (⟨E, h1, h2, h3, rfl⟩ | ⟨h1, h2, rfl⟩)
  · exact .inl ⟨E, h1, h2, h3, hset _⟩
  · exact .inr ⟨h1, h2, hset _⟩

/-- The walk has set the literal's mark and not yet gone on. -/
def Pend (d : Int) (s l : Bool) (c : Int) : Prop := d = 0 ∧ s = false ∧ l = false ∧ c ≠ 34 ∧ c ≠ 123 ∧ c ≠ 91 ∧ c ≠ 125 ∧ c ≠ 93

/-- The literal's mark is as it was, or just set. -/
def LitIs (l' l : Bool) (d : Int) (s : Bool) (c : Int) (k n : Nat) : Prop := l' = l ∨ (l' = true ∧ k < n ∧ Pend d s l c)

/-- WHAT HOLDS AT EACH ROUND's HEAD. -/
def RdRel (g : Nat → Int) (S0 : Plain.St) (n : Nat) (W : World) (q : Nat) (t6 t7 t8 t9 : Value) (wr : World) : Prop :=
  ∃ (k : Nat) (d : Int) (s l x l' : Bool), k ≤ n ∧ t9 = .int .i64 (k : Int) ∧ t6 = .int .i64 d ∧ t7 = .bool s ∧ t8 = .bool l' ∧ Plain.run g S0 k = ⟨d, s, l, x⟩ ∧ Plain.on g S0 k ∧
    LitIs l' l d s (g k) k n ∧ wr = (W.alloc (.cells #[.int .i64 S0.d, .bool S0.str, .bool l', .bool x] 40)).drewN q

def litOf : Value → Nat | .bool true => 0 | _ => 1

/-- What read gives back and leaves. -/
def RdPost (g : Nat → Int) (S0 : Plain.St) (n : Nat) (W : World) (e : Ending) (w' : World) : Prop :=
  (∃ i q, i < n ∧ Plain.Fin g S0 n i ∧ e = .returned (.tuple #[.int .i64 ((Plain.cnt (Plain.run g S0 i) (g i) i : Nat) : Int), .bool true]) ∧
    w' = (W.alloc (.cells #[.int .i64 (Plain.dOut S0 (Plain.run g S0 i) (g i)), .bool (Plain.sOut S0 (Plain.run g S0 i)), .bool (Plain.next (Plain.run g S0 i) (g i)).lit, .bool (Plain.next (Plain.run g S0 i) (g i)).esc] 40)).drewN q) ∨
  (∃ q, Plain.Fin g S0 n n ∧ e = .returned (.tuple #[.int .i64 (n : Int), .bool false]) ∧
    w' = (W.alloc (.cells #[.int .i64 (Plain.run g S0 n).d, .bool (Plain.run g S0 n).str, .bool (Plain.run g S0 n).lit, .bool (Plain.run g S0 n).esc] 40)).drewN q)

theorem rd_done {g : Nat → Int} {S0 S : Plain.St} {n i q : Nat} {W : World} {e : Ending} {w' : World} (hi : i < n) (hon : Plain.on g S0 i) (hS : Plain.run g S0 i = S) (hst : Plain.stop S (g i) ≠ 0)
    (he : e = .returned (.tuple #[.int .i64 ((Plain.cnt S (g i) i : Nat) : Int), .bool true]))
    (hw : w' = (W.alloc (.cells #[.int .i64 (Plain.dOut S0 S (g i)), .bool (Plain.sOut S0 S), .bool (Plain.next S (g i)).lit, .bool (Plain.next S (g i)).esc] 40)).drewN q) : RdPost g S0 n W e w' := by
  subst hS
  exact .inl ⟨i, q, hi, ⟨by omega, hon, fun _ => hst⟩, he, hw⟩

theorem run_next {g : Nat → Int} {S0 S T : Plain.St} {k : Nat} (hS : Plain.run g S0 k = S) (h : Plain.next S (g k) = T) : Plain.run g S0 (k + 1) = T := by
  show Plain.next (Plain.run g S0 k) (g k) = T
  rw [hS, h]
theorem on_next {g : Nat → Int} {S0 S : Plain.St} {k : Nat} (hon : Plain.on g S0 k) (hS : Plain.run g S0 k = S) (h : Plain.stop S (g k) = 0) : Plain.on g S0 (k + 1) :=
  Plain.on_snoc hon (by rw [hS]; exact h)

theorem hlit {l : Bool} {d : Int} {k n : Nat} {c : Int} (h : LitIs true l d false c k n) : true = l ∨ Pend d false l c := by
  rcases h with h | ⟨_, _, h⟩
  · exact .inl h
  · exact .inr h

/-- In a literal (or at its first byte). -/
theorem lit_facts (S0 : Plain.St) {d : Int} {l x : Bool} {c : Int} (h34 : c ≠ 34) (hl : true = l ∨ Pend d false l c) :
    Plain.stop ⟨d, false, l, x⟩ c = (if Plain.ends c = true then 2 else 0) ∧ Plain.next ⟨d, false, l, x⟩ c = ⟨d, false, true, x⟩ ∧ Plain.dOut S0 ⟨d, false, l, x⟩ c = S0.d ∧ Plain.sOut S0 ⟨d, false, l, x⟩ = S0.str := by
  rcases hl with rfl | ⟨rfl, _, rfl, _, h1, h2, h3, h4⟩
  · simp [Plain.stop, Plain.next, Plain.dOut, Plain.sOut, h34]
  · simp [Plain.stop, Plain.next, Plain.dOut, Plain.sOut, h34, h1, h2, h3, h4]

set_option maxRecDepth 100000 in
set_option maxHeartbeats 4000000 in
theorem rd_any (g : Nat → Int) (S0 : Plain.St) (b o n c : Nat) (W : World) (hn : n ≤ 1048576) (hnc : n ≤ c) (hc : ∀ i, i < n → W.cell? ⟨b, o + i, none⟩ = some (.int .u8 (g i))) (hby : ∀ i, i < n → 0 ≤ g i ∧ g i < 256) :
    Calls Try.prog 27 #[.pointer (some ⟨W.heap.size, 0, none⟩), .slice (some ⟨b, o, none⟩) n c] (W.alloc (.cells #[.int .i64 S0.d, .bool S0.str, .bool S0.lit, .bool S0.esc] 40)) fun e w' => RdPost g S0 n W e w' := by
  have ad : ∀ (W : World) j o, (W.drewN j).alloc o = (W.alloc o).drewN j := fun _ _ _ => rfl
  have sd : ∀ (W : World) j x v, (W.drewN j).setCell x v = (W.setCell x v).drewN j := fun _ _ _ _ => rfl
  go_enter Try.func27, Try.ntmps27
  go_wp2
  go_quiet (fail)
  go_wp2
  go_loopw [6, 7, 8, 9] (fun t6 t7 t8 t9 wr => RdRel g S0 n W nq t6 t7 t8 t9 wr) (fun _ _ t8 t9 _ => 2 * (n - (intOf t9).toNat) + litOf t8)
  case atStart => exact ⟨0, S0.d, S0.str, S0.lit, S0.esc, S0.lit, by omega, by go_num, rfl, rfl, rfl, rfl, Plain.on_zero _ _, .inl rfl, rfl⟩
  case round =>
    obtain ⟨k, d, s, l, x, l', hk, rfl, rfl, rfl, rfl, hS, hon, hl, rfl⟩ := hrel
    have HS : Hid (Plain.run g S0 k = ⟨d, s, l, x⟩) := hS
    clear hS
    by_cases hlt : k < n
    · have hce := hc k hlt
      have hbW : b < W.heap.size := block_lt_of_cell hce
      cases s
      · by_cases h34 : g k = 34
        · have hll : l' = l := by
            rcases hl with h | ⟨_, _, h⟩
            · exact h
            · exact absurd h34 h.2.2.2.1
          subst hll
          have HS' : Hid (Plain.run g S0 (k + 1) = ⟨d, true, l', x⟩) := run_next HS.out (by simp [Plain.next, h34])
          have hon' : Plain.on g S0 (k + 1) := on_next hon HS.out (by simp [Plain.stop, h34])
          by_cases hkc : k + 1 = c
          · have hedge : n - (k + 1) = 0 := by omega
            subst hkc
            go_wp2_with fail
            refine (rs_box (fun i => g (k + 1 + i)) b o 0 0 S0.d S0.str l' x W nq (by omega) (by omega) (fun i hi => by omega) (fun i hi => by omega)).mono ?_
            rintro e w' (⟨E, hE, hi, rfl, rfl⟩ | ⟨hi, rfl, rfl⟩)
            · omega
            · obtain ⟨f1, f2⟩ := Plain.string_open (n := n) HS'.out rfl hon' (by omega) (by rw [hedge]; exact hi)
              have F1 : Hid (Plain.run g S0 n = ⟨d, true, l', Plain.esc (fun i => g ((k + 1) + i)) x (0)⟩) := (by rw [hedge] at f1; exact f1)
              clear f1
              go_wp2
              go_roundw
              case rel => exact ⟨n, d, true, l', _, l', by omega, by go_num, rfl, rfl, rfl, F1.out, f2, .inl rfl, rfl⟩
              case measure => cases l' <;> simp [intOf, litOf] <;> omega
          · go_wp2_with fail
            refine (rs_box (fun i => g (k + 1 + i)) b (o + (k + 1)) (n - (k + 1)) (c - (k + 1)) S0.d S0.str l' x W nq (by omega) (by omega) (fun i hi => by rw [Nat.add_assoc]; exact hc _ (by omega)) (fun i hi => hby _ (by omega))).mono ?_
            rintro e w' (⟨E, hE, hi, rfl, rfl⟩ | ⟨hi, rfl, rfl⟩)
            · obtain ⟨f1, f2, f3, f4⟩ := Plain.string_closes (n := n) HS'.out rfl hon' hi hE
              have F1 : Hid (Plain.run g S0 ((k + 1) + E + 1) = ⟨d, false, l', false⟩) := f1
              have F3 : Hid (Plain.run g S0 ((k + 1) + E) = ⟨d, true, l', false⟩) := f3
              have F4 : Hid (g ((k + 1) + E) = 34) := f4
              clear f1 f3 f4
              by_cases hd : d = 0
              · subst hd
                have Hst : Hid (Plain.stop ⟨0, true, l', false⟩ (g ((k + 1) + E)) = 1) := by show _ = _; rw [F4.out]; simp [Plain.stop]
                have Hnx : Hid (Plain.next ⟨0, true, l', false⟩ (g ((k + 1) + E)) = ⟨0, false, l', false⟩) := by show _ = _; rw [F4.out]; simp [Plain.next]
                go_wp2
                go_ret2
                exact rd_done (by omega) f2 F3.out (by rw [Hst.out]; simp) (by rw [Plain.cnt, Hst.out]; go_num) (by rw [Hnx.out]; rfl)
              · have hdb : (d == 0) = false := by simpa using hd
                have Hst : Hid (Plain.stop ⟨d, true, l', false⟩ (g ((k + 1) + E)) = 0) := by show _ = _; simp [Plain.stop, hd]
                go_wp2
                go_roundw
                case rel => exact ⟨(k + 1) + E + 1, d, false, l', false, l', by omega, by go_num, rfl, rfl, rfl, F1.out, on_next f2 F3.out Hst.out, .inl rfl, rfl⟩
                case measure => cases l' <;> simp [intOf, litOf] <;> omega
            · obtain ⟨f1, f2⟩ := Plain.string_open (n := n) HS'.out rfl hon' (by omega) hi
              have F1 : Hid (Plain.run g S0 n = ⟨d, true, l', Plain.esc (fun i => g ((k + 1) + i)) x (n - (k + 1))⟩) := f1
              clear f1
              go_wp2
              go_roundw
              case rel => exact ⟨n, d, true, l', _, l', by omega, by go_num, rfl, rfl, rfl, F1.out, f2, .inl rfl, rfl⟩
              case measure => cases l' <;> simp [intOf, litOf] <;> omega
        · have h34b : (g k == 34) = false := by simpa using h34
          cases l'
          · have hl0 : l = false := by
              rcases hl with h | ⟨h, _⟩
              · exact h.symm
              · cases h
            subst hl0
            by_cases ho : g k = 123 ∨ g k = 91
            · have hst : Plain.stop ⟨d, false, false, x⟩ (g k) = 0 := by simp [Plain.stop, h34, ho]
              have hnx : Plain.next ⟨d, false, false, x⟩ (g k) = ⟨wrap64 (d + 1), false, false, x⟩ := by simp [Plain.next, h34, ho]
              have Hst : Hid (Plain.stop ⟨d, false, false, x⟩ (g k) = 0) := hst
              have Hnx : Hid (Plain.next ⟨d, false, false, x⟩ (g k) = ⟨wrap64 (d + 1), false, false, x⟩) := hnx
              clear hst hnx
              rcases ho with ho | ho
              all_goals
                go_wp2
                go_roundw
                case rel => exact ⟨k + 1, _, false, false, x, false, by omega, by go_num, rfl, rfl, rfl, run_next HS.out Hnx.out, on_next hon HS.out Hst.out, .inl rfl, rfl⟩
                case measure => simp [intOf, litOf]; omega
            · have ho1 : (g k == 123) = false := by simp; omega
              have ho2 : (g k == 91) = false := by simp; omega
              by_cases hcl : g k = 125 ∨ g k = 93
              · have Hnx : Hid (Plain.next ⟨d, false, false, x⟩ (g k) = ⟨wrap64 (d - 1), false, false, x⟩) := by show _ = _; simp [Plain.next, h34, ho, hcl]
                have Hst : Hid (Plain.stop ⟨d, false, false, x⟩ (g k) = if wrap64 (d - 1) ≤ 0 then 1 else 0) := by show _ = _; simp [Plain.stop, h34, ho, hcl]
                have Hd : Hid (Plain.dOut S0 ⟨d, false, false, x⟩ (g k) = wrap64 (d - 1)) := by show _ = _; simp [Plain.dOut, hcl]
                have Hs : Hid (Plain.sOut S0 ⟨d, false, false, x⟩ = S0.str) := by show _ = _; simp [Plain.sOut]
                by_cases hz : wrap64 (d - 1) ≤ 0
                · rcases hcl with hcl | hcl
                  all_goals
                    go_wp2
                    go_ret2
                    exact rd_done hlt hon HS.out (by rw [Hst.out, if_pos hz]; simp) (by rw [Plain.cnt, Hst.out, if_pos hz]; go_num) (by rw [Hnx.out, Hd.out, Hs.out])
                · rcases hcl with hcl | hcl
                  all_goals
                    go_wp2
                    go_roundw
                    case rel => exact ⟨k + 1, _, false, false, x, false, by omega, by go_num, rfl, rfl, rfl, run_next HS.out Hnx.out, on_next hon HS.out (by rw [Hst.out, if_neg hz]), .inl rfl, rfl⟩
                    case measure => simp [intOf, litOf]; omega
              · have hc1 : (g k == 125) = false := by simp; omega
                have hc2 : (g k == 93) = false := by simp; omega
                by_cases hd : d = 0
                · subst hd
                  go_wp2
                  go_roundw
                  case rel => exact ⟨k, 0, false, false, x, true, by omega, by go_num, rfl, rfl, rfl, HS.out, hon, .inr ⟨rfl, hlt, rfl, rfl, rfl, h34, by omega, by omega, by omega, by omega⟩, rfl⟩
                  case measure => simp [intOf, litOf]
                · have hdb : (d == 0) = false := by simpa using hd
                  have Hnx : Hid (Plain.next ⟨d, false, false, x⟩ (g k) = ⟨d, false, false, x⟩) := by show _ = _; simp [Plain.next, h34, ho, hcl, hd]
                  have Hst : Hid (Plain.stop ⟨d, false, false, x⟩ (g k) = 0) := by show _ = _; simp [Plain.stop, h34, ho, hcl, hd]
                  go_wp2
                  go_roundw
                  case rel => exact ⟨k + 1, d, false, false, x, false, by omega, by go_num, rfl, rfl, rfl, run_next HS.out Hnx.out, on_next hon HS.out Hst.out, .inl rfl, rfl⟩
                  case measure => simp [intOf, litOf]; omega
          · have hce2 := ends_any (g k)
            cases he : Plain.ends (g k)
            · rw [he] at hce2
              go_wp2_with (go_at_call 31; refine (hce2 _).mono ?_; rintro e w' ⟨rfl, rfl⟩)
              obtain ⟨f1, f2, f3, f4⟩ := lit_facts S0 (x := x) h34 (hlit hl)
              rw [he] at f1
              go_roundw
              case rel => exact ⟨k + 1, d, false, true, x, true, by omega, by go_num, rfl, rfl, rfl, run_next HS.out f2, on_next hon HS.out (by simpa using f1), .inl rfl, rfl⟩
              case measure => simp [intOf]; omega
            · rw [he] at hce2
              go_wp2_with (go_at_call 31; refine (hce2 _).mono ?_; rintro e w' ⟨rfl, rfl⟩)
              go_ret2
              obtain ⟨f1, f2, f3, f4⟩ := lit_facts S0 (x := x) h34 (hlit hl)
              rw [he] at f1
              exact rd_done hlt hon HS.out (by rw [f1]; simp) (by rw [Plain.cnt, f1]; rfl) (by rw [f2, f3, f4])
      · have hll : l' = l := by
          rcases hl with h | ⟨_, _, h⟩
          · exact h
          · cases h.2.1
        subst hll
        have hon' := hon
        have HS' := HS
        go_wp2_with fail
        refine (rs_box (fun i => g (k + i)) b (o + k) (n - k) (c - k) S0.d S0.str l' x W nq (by omega) (by omega) (fun i hi => by rw [Nat.add_assoc]; exact hc _ (by omega)) (fun i hi => hby _ (by omega))).mono ?_
        rintro e w' (⟨E, hE, hi, rfl, rfl⟩ | ⟨hi, rfl, rfl⟩)
        · obtain ⟨f1, f2, f3, f4⟩ := Plain.string_closes (n := n) HS'.out rfl hon' hi hE
          have F1 : Hid (Plain.run g S0 (k + E + 1) = ⟨d, false, l', false⟩) := f1
          have F3 : Hid (Plain.run g S0 (k + E) = ⟨d, true, l', false⟩) := f3
          have F4 : Hid (g (k + E) = 34) := f4
          clear f1 f3 f4
          by_cases hd : d = 0
          · subst hd
            have Hst : Hid (Plain.stop ⟨0, true, l', false⟩ (g (k + E)) = 1) := by show _ = _; rw [F4.out]; simp [Plain.stop]
            have Hnx : Hid (Plain.next ⟨0, true, l', false⟩ (g (k + E)) = ⟨0, false, l', false⟩) := by show _ = _; rw [F4.out]; simp [Plain.next]
            go_wp2
            go_ret2
            exact rd_done (by omega) f2 F3.out (by rw [Hst.out]; simp) (by rw [Plain.cnt, Hst.out]; go_num) (by rw [Hnx.out]; rfl)
          · have hdb : (d == 0) = false := by simpa using hd
            have Hst : Hid (Plain.stop ⟨d, true, l', false⟩ (g (k + E)) = 0) := by show _ = _; simp [Plain.stop, hd]
            go_wp2
            go_roundw
            case rel => exact ⟨k + E + 1, d, false, l', false, l', by omega, by go_num, rfl, rfl, rfl, F1.out, on_next f2 F3.out Hst.out, .inl rfl, rfl⟩
            case measure => cases l' <;> simp [intOf, litOf] <;> omega
        · obtain ⟨f1, f2⟩ := Plain.string_open (n := n) HS'.out rfl hon' (by omega) hi
          have F1 : Hid (Plain.run g S0 n = ⟨d, true, l', Plain.esc (fun i => g (k + i)) x (n - k)⟩) := f1
          clear f1
          go_wp2
          go_roundw
          case rel => exact ⟨n, d, true, l', _, l', by omega, by go_num, rfl, rfl, rfl, F1.out, f2, .inl rfl, rfl⟩
          case measure => cases l' <;> simp [intOf, litOf] <;> omega
    · obtain rfl : k = n := by omega
      have hll : l' = l := by
        rcases hl with h | ⟨_, h, _⟩
        · exact h
        · omega
      subst hll
      go_wp2
      go_ret2
      exact .inr ⟨_, ⟨Nat.le_refl _, hon, fun h => by omega⟩, rfl, by rw [HS.out]⟩
end Go.Proofs.Qxb6602126a
