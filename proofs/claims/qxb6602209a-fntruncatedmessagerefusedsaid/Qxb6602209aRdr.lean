import Derived.Test.Qxb6602209aIdx
import Derived.Test.Qxb6602209aClone
import Derived.Laws.BytesArg
import Derived.Laws.Pointers
namespace Go.Proofs.Qxb6602209a
open Go.ChangeShapes Go.WideShapes Go.ChangeAt Go.RowKit
set_option linter.unusedVariables false

/-- The bytes that are still to be read: nil, or in a block below U. -/
def Bd (w : World) (U : Nat) (ao : Option Addr) (n c : Nat) (f : Nat → Int) : Prop :=
  (ao = none ∧ n = 0 ∧ c = 0) ∨ ∃ b o, ao = some ⟨b, o, none⟩ ∧ b < U ∧ n ≤ c ∧ ∀ i, i < n → w.cell? ⟨b, o + i, none⟩ = some (.int .u8 (f i))

/-- All old blocks but one are as they were. -/
structure Kb (r : Nat) (w w' : World) : Prop where
  os : w'.os = w.os
  tape : w'.tape = w.tape
  output : w'.output = w.output
  size : w.heap.size ≤ w'.heap.size
  keep : ∀ k, k < w.heap.size → k ≠ r → w'.heap[k]? = w.heap[k]?

theorem Kb.refl (r : Nat) (w : World) : Kb r w w := ⟨rfl, rfl, rfl, Nat.le_refl _, fun _ _ _ => rfl⟩
theorem Kb.trans {r : Nat} {a b c : World} (h : Kb r a b) (k : Kb r b c) : Kb r a c :=
  ⟨k.os.trans h.os, k.tape.trans h.tape, k.output.trans h.output, Nat.le_trans h.size k.size, fun i hi hne => (k.keep i (Nat.lt_of_lt_of_le hi h.size) hne).trans (h.keep i hi hne)⟩
theorem Kb.setCell {r j : Nat} {a b : World} (h : Kb r a b) (v : Value) : Kb r a (b.setCell ⟨r, j, none⟩ v) :=
  h.trans ⟨rfl, rfl, rfl, by simp [World.setCell], fun k _ hk => heap_setCell_other b ⟨r, j, none⟩ k v hk⟩
theorem Kb.alloc {r : Nat} {a b : World} (h : Kb r a b) (o : Obj) : Kb r a (b.alloc o) :=
  h.trans ⟨rfl, rfl, rfl, by simp, fun k hk _ => Below.heap_alloc b o k hk⟩
theorem Kb.below {r B : Nat} {a b : World} (h : Kb r a b) (hB : B ≤ r) (hs : B ≤ a.heap.size) : Below B a b :=
  ⟨h.os, h.tape, h.output, h.size, fun k hk => h.keep k (by omega) (by omega)⟩

theorem Bd.kb {w w' : World} {U r : Nat} {ao : Option Addr} {n c : Nat} {f : Nat → Int} (h : Bd w U ao n c f) (k : Kb r w w') (hU : U ≤ r) : Bd w' U ao n c f := by
  rcases h with h | ⟨b, o, h1, h0, h2, h3⟩
  · exact .inl h
  · refine .inr ⟨b, o, h1, h0, h2, fun i hi => ?_⟩
    have h4 := h3 i hi
    rw [← h4]
    exact World.cell?_of_block (w := w) (k.keep b (block_lt_of_cell h4) (by omega))

/-- A reader: what is left to be read, and its error. -/
def Rd (w : World) (r : Nat) (ao : Option Addr) (n c : Nat) (eo : Option Addr) : Prop := w.heap[r]? = some (.cells #[.slice ao n c, .pointer eo] 62 (0, 0))

theorem octet_err (r : Nat) (ao : Option Addr) (n c : Nat) (x : Addr) (name : ByteArray) (w : World) (h : Rd w r ao n c (some x)) :
    Calls Try.prog 31 #[.pointer (some ⟨r, 0, none⟩), .string name] w fun e w' => e = .returned (.int .u8 0) ∧ w' = w := by
  have c1 : w.cell? ⟨r, 1, none⟩ = some (.pointer (some x)) := cellOf h rfl
  clear h
  go_enter Try.func31, Try.ntmps31
  go_wp2
  go_ret
  exact ⟨rfl, rfl⟩

theorem rd_err {w : World} {r : Nat} {ao : Option Addr} {n c : Nat} (h : Rd w r ao n c none) (E : Array Value) :
    Rd ((w.setCell ⟨r, 1, none⟩ (.pointer (some ⟨w.heap.size, 0, none⟩))).alloc (.cells E 52)) r ao n c (some ⟨w.heap.size, 0, none⟩) ∧
    ((w.setCell ⟨r, 1, none⟩ (.pointer (some ⟨w.heap.size, 0, none⟩))).alloc (.cells E 52)).heap[w.heap.size]? = some (.cells E 52 (0, 0)) ∧
    Kb r w ((w.setCell ⟨r, 1, none⟩ (.pointer (some ⟨w.heap.size, 0, none⟩))).alloc (.cells E 52)) := by
  have hlt : r < w.heap.size := (Array.getElem?_eq_some_iff.1 h).1
  have hs : (w.setCell ⟨r, 1, none⟩ (.pointer (some ⟨w.heap.size, 0, none⟩))).heap.size = w.heap.size := by simp [World.setCell]
  refine ⟨?_, ?_, ((Kb.refl r w).setCell _).alloc _⟩
  · unfold Rd
    rw [Below.heap_alloc _ _ _ (by rw [hs]; exact hlt), heap_setCell_same w r 1 _ 62 _ h]
    rfl
  · have := heap_alloc_new (w.setCell ⟨r, 1, none⟩ (.pointer (some ⟨w.heap.size, 0, none⟩))) (.cells E 52)
    rw [hs] at this
    exact this

theorem rd_set {w : World} {r : Nat} {ao : Option Addr} {n c : Nat} {eo : Option Addr} (h : Rd w r ao n c eo) (ao' : Option Addr) (n' c' : Nat) : Rd (w.setCell ⟨r, 0, none⟩ (.slice ao' n' c')) r ao' n' c' eo := by
  unfold Rd
  rw [heap_setCell_same w r 0 _ 62 _ h]
  rfl

/-- Where the reader fails: it says at which field, and how. -/
def Failed (w : World) (D r : Nat) (ao : Option Addr) (n c : Nat) (name : ByteArray) (u : Bool) : Prop :=
  ∃ fe, Rd w r ao n c (some ⟨fe, 0, none⟩) ∧ D ≤ fe ∧ w.heap[fe]? = some (.cells #[.string name, .bool u, .int .i64 0] 52 (0, 0))

theorem octet_end (r : Nat) (ao : Option Addr) (c : Nat) (name : ByteArray) (w : World) (h : Rd w r ao 0 c none) :
    Calls Try.prog 31 #[.pointer (some ⟨r, 0, none⟩), .string name] w fun e w' => e = .returned (.int .u8 0) ∧ Failed w' w.heap.size r ao 0 c name false ∧ Kb r w w' := by
  obtain ⟨k1, k2, k3⟩ := rd_err h #[.string name, .bool false, .int .i64 0]
  have c0 : w.cell? ⟨r, 0, none⟩ = some (.slice ao 0 c) := cellOf h rfl
  have c1 : w.cell? ⟨r, 1, none⟩ = some (.pointer none) := cellOf h rfl
  have f1 : w.frozen? ⟨r, 1, none⟩ = false := frozen_of_row _ _ _ _ _ h
  have hlt : r < w.heap.size := (Array.getElem?_eq_some_iff.1 h).1
  have K : Hid _ := And.intro k1 (And.intro k2 k3)
  clear h k1 k2 k3
  go_enter Try.func31, Try.ntmps31
  go_wp2
  go_ret
  exact ⟨rfl, ⟨_, K.out.1, Nat.le_refl _, K.out.2.1⟩, K.out.2.2⟩

theorem octet_ok (r U : Nat) (ao : Option Addr) (n c : Nat) (f : Nat → Int) (name : ByteArray) (w : World) (h : Rd w r ao n c none) (hb : Bd w U ao n c f) (hU : U ≤ r) (hn : 0 < n) (hn2 : n ≤ 2097152) :
    Calls Try.prog 31 #[.pointer (some ⟨r, 0, none⟩), .string name] w fun e w' => e = .returned (.int .u8 (f 0)) ∧ (∃ ao' c', Rd w' r ao' (n - 1) c' none ∧ Bd w' U ao' (n - 1) c' (fun i => f (1 + i))) ∧ Kb r w w' := by
  have fin : ∀ ao' c', Bd w U ao' (n - 1) c' (fun i => f (1 + i)) → (∃ ao'' c'', Rd (w.setCell ⟨r, 0, none⟩ (.slice ao' (n - 1) c')) r ao'' (n - 1) c'' none ∧ Bd (w.setCell ⟨r, 0, none⟩ (.slice ao' (n - 1) c')) U ao'' (n - 1) c'' (fun i => f (1 + i))) ∧ Kb r w (w.setCell ⟨r, 0, none⟩ (.slice ao' (n - 1) c')) :=
    fun ao' c' hB => ⟨⟨ao', c', rd_set h _ _ _, hB.kb ((Kb.refl r w).setCell _) hU⟩, (Kb.refl r w).setCell _⟩
  rcases hb with ⟨_, h0, _⟩ | ⟨b, o, rfl, hbU, hnc, hc⟩
  · omega
  · have c0 : w.cell? ⟨r, 0, none⟩ = some (.slice (some ⟨b, o, none⟩) n c) := cellOf h rfl
    have c1 : w.cell? ⟨r, 1, none⟩ = some (.pointer none) := cellOf h rfl
    have f1 : w.frozen? ⟨r, 0, none⟩ = false := frozen_of_row _ _ _ _ _ h
    have cb : w.cell? ⟨b, o, none⟩ = some (.int .u8 (f 0)) := by have := hc 0 hn; simpa using this
    have hne : ((n : Int) == 0) = false := by simp; omega
    have hp : (0 : Int) < (n : Int) := by omega
    by_cases hc1 : c = 1
    · have hn1 : n = 1 := by omega
      have F : Hid _ := fin (some ⟨b, o, none⟩) 0 (.inr ⟨b, o, rfl, hbU, by omega, fun i hi => by omega⟩)
      subst hc1 hn1
      clear h hc fin
      go_enter Try.func31, Try.ntmps31
      go_wp2
      go_ret
      exact ⟨rfl, F.out⟩
    · have F : Hid _ := fin (some ⟨b, o + 1, none⟩) (c - 1) (.inr ⟨b, o + 1, rfl, hbU, by omega, fun i hi => by rw [Nat.add_assoc]; exact hc (1 + i) (by omega)⟩)
      clear h hc fin
      go_enter Try.func31, Try.ntmps31
      go_wp2
      go_ret
      exact ⟨rfl, F.out⟩

/-! ### A C-octet string -/
theorem cstr_err (r : Nat) (ao : Option Addr) (n c : Nat) (x : Addr) (name : ByteArray) (w : World) (h : Rd w r ao n c (some x)) :
    Calls Try.prog 32 #[.pointer (some ⟨r, 0, none⟩), .string name] w fun e w' => e = .returned (.string { data := #[] }) ∧ w' = w := by
  have c1 : w.cell? ⟨r, 1, none⟩ = some (.pointer (some x)) := cellOf h rfl
  clear h
  go_enter Try.func32, Try.ntmps32
  go_wp2
  go_ret
  exact ⟨rfl, rfl⟩

/-- bytes.IndexByte on what is left. -/
theorem idx_bd {w : World} {U : Nat} {ao : Option Addr} {n c : Nat} {f : Nat → Int} (h : Bd w U ao n c f) (hby : ∀ i, i < n → 0 ≤ f i ∧ f i < 256) :
    Calls Try.prog 33 #[.slice ao n c, .int .u8 0] w fun e w' => (∃ r : Int, e = .returned (.int .i64 r) ∧ IdxIs f n 0 r) ∧ w' = w := by
  rcases h with ⟨rfl, rfl, rfl⟩ | ⟨b, o, rfl, _, h2, h3⟩
  · refine (idx_nil 0 w).mono ?_
    rintro e w' ⟨rfl, rfl⟩
    exact ⟨⟨-1, rfl, .inr ⟨rfl, fun j hj => by omega⟩⟩, rfl⟩
  · exact idx_any ⟨b, o, none⟩ n c f 0 w (fun i hi => by rw [add_zero_block]; exact h3 i hi) hby ⟨by omega, by omega⟩

theorem cstr_end (r U : Nat) (ao : Option Addr) (n c : Nat) (f : Nat → Int) (name : ByteArray) (w : World) (h : Rd w r ao n c none) (hb : Bd w U ao n c f) (hby : ∀ i, i < n → 0 ≤ f i ∧ f i < 256) (hno : ∀ i, i < n → f i ≠ 0) :
    Calls Try.prog 32 #[.pointer (some ⟨r, 0, none⟩), .string name] w fun e w' => e = .returned (.string { data := #[] }) ∧ Failed w' w.heap.size r ao n c name true ∧ Kb r w w' := by
  obtain ⟨k1, k2, k3⟩ := rd_err h #[.string name, .bool true, .int .i64 0]
  have c33 := idx_bd hb hby
  have c0 : w.cell? ⟨r, 0, none⟩ = some (.slice ao n c) := cellOf h rfl
  have c1 : w.cell? ⟨r, 1, none⟩ = some (.pointer none) := cellOf h rfl
  have f1 : w.frozen? ⟨r, 1, none⟩ = false := frozen_of_row _ _ _ _ _ h
  have hlt : r < w.heap.size := (Array.getElem?_eq_some_iff.1 h).1
  have K : Hid _ := And.intro k1 (And.intro k2 k3)
  clear h k1 k2 k3 hb
  go_enter Try.func32, Try.ntmps32
  go_wp2_with fail
  refine c33.mono ?_
  rintro e w1 ⟨⟨i, rfl, hi⟩, hw⟩
  have hw' := hw.symm
  subst hw'
  rcases hi with ⟨q, rfl, hq, hq0, _⟩ | ⟨rfl, _⟩
  · exact absurd hq0 (hno q hq)
  · clear c33
    go_wp2
    go_ret
    exact ⟨rfl, ⟨_, K.out.1, Nat.le_refl _, K.out.2.1⟩, K.out.2.2⟩

theorem str_of {f : Nat → Int} {s : ByteArray} (hs : ∀ j (hj : j < s.size), f j = (s[j].toNat : Int)) : strOfNums ((List.range s.size).map f) = s := by
  apply ByteArray.ext
  apply Array.ext'
  rw [strOfNums_data]
  apply List.ext_getElem
  · simp
  · intro i h1 h2
    have hi : i < s.size := by simpa using h2
    simp [hs i hi]
    rfl

theorem cstr_ok (r U : Nat) (ao : Option Addr) (n c : Nat) (f : Nat → Int) (s name : ByteArray) (w : World) (h : Rd w r ao n c none) (hb : Bd w U ao n c f) (hU : U ≤ r) (hn2 : n ≤ 2097152) (hby : ∀ i, i < n → 0 ≤ f i ∧ f i < 256)
    (hs : ∀ j (hj : j < s.size), f j = (s[j].toNat : Int)) (hnz : ∀ j, j < s.size → f j ≠ 0) (hlt : s.size < n) (hz : f s.size = 0) :
    Calls Try.prog 32 #[.pointer (some ⟨r, 0, none⟩), .string name] w fun e w' => e = .returned (.string s) ∧ (∃ ao' c', Rd w' r ao' (n - (s.size + 1)) c' none ∧ Bd w' U ao' (n - (s.size + 1)) c' (fun i => f (s.size + 1 + i))) ∧ Kb r w w' := by
  have fin : ∀ ao' c', Bd w U ao' (n - (s.size + 1)) c' (fun i => f (s.size + 1 + i)) → (∃ ao'' c'', Rd (w.setCell ⟨r, 0, none⟩ (.slice ao' (n - (s.size + 1)) c')) r ao'' (n - (s.size + 1)) c'' none ∧ Bd (w.setCell ⟨r, 0, none⟩ (.slice ao' (n - (s.size + 1)) c')) U ao'' (n - (s.size + 1)) c'' (fun i => f (s.size + 1 + i))) ∧ Kb r w (w.setCell ⟨r, 0, none⟩ (.slice ao' (n - (s.size + 1)) c')) :=
    fun ao' c' hB => ⟨⟨ao', c', rd_set h _ _ _, hB.kb ((Kb.refl r w).setCell _) hU⟩, (Kb.refl r w).setCell _⟩
  have c33 := idx_bd hb hby
  rcases hb with ⟨_, h0, _⟩ | ⟨b, o, rfl, hbU, hnc, hc⟩
  · omega
  · have c0 : w.cell? ⟨r, 0, none⟩ = some (.slice (some ⟨b, o, none⟩) n c) := cellOf h rfl
    have c1 : w.cell? ⟨r, 1, none⟩ = some (.pointer none) := cellOf h rfl
    have f1 : w.frozen? ⟨r, 0, none⟩ = false := frozen_of_row _ _ _ _ _ h
    have hconv : ∀ cp, (convert 22 9 (.slice (some ⟨b, o, none⟩) s.size cp)).run Try.prog w = .ok (.string s) w := fun cp => by
      have := run_convert_bytes_arg (P := Try.prog) w 22 5 Try.underlying22 Try.underlying5 b o s.size cp ((List.range s.size).map f) (by simp) (fun i hi => by
        rw [hc i (by omega)]
        simp [hi]) 9 Try.underlying9
      rw [str_of hs] at this
      exact this
    have hq : ∀ i : Int, IdxIs f n 0 i → i = (s.size : Int) := by
      rintro i (⟨q, rfl, hq, hq0, hqn⟩ | ⟨rfl, hno⟩)
      · rcases Nat.lt_trichotomy q s.size with h1 | h1 | h1
        · exact absurd hq0 (hnz q h1)
        · rw [h1]
        · exact absurd hz (hqn _ h1)
      · exact absurd hz (hno _ hlt)
    have HQ : Hid _ := hq
    by_cases hc1 : s.size + 1 = c
    · have hn1 : n = s.size + 1 := by omega
      have F : Hid _ := fin (some ⟨b, o, none⟩) 0 (.inr ⟨b, o, rfl, hbU, by omega, fun i hi => by omega⟩)
      subst hn1
      subst hc1
      clear h hc fin hs hnz hz hq
      go_enter Try.func32, Try.ntmps32
      go_wp2_with fail
      refine c33.mono ?_
      rintro e w1 ⟨⟨i, rfl, hi⟩, hw⟩
      have hw' := hw.symm
      subst hw'
      obtain rfl := HQ.out i hi
      clear c33 hi
      go_wp2
      go_ret
      refine ⟨rfl, ?_⟩
      simpa using F.out
    · have F : Hid _ := fin (some ⟨b, o + (s.size + 1), none⟩) (c - (s.size + 1)) (.inr ⟨b, o + (s.size + 1), rfl, hbU, by omega, fun i hi => by rw [Nat.add_assoc]; exact hc (s.size + 1 + i) (by omega)⟩)
      clear h hc fin hs hnz hz hq
      go_enter Try.func32, Try.ntmps32
      go_wp2_with fail
      refine c33.mono ?_
      rintro e w1 ⟨⟨i, rfl, hi⟩, hw⟩
      have hw' := hw.symm
      subst hw'
      obtain rfl := HQ.out i hi
      clear c33 hi
      go_wp2
      go_ret
      exact ⟨rfl, F.out⟩
end Go.Proofs.Qxb6602209a
