import Derived.Test.Qxb6602209aHelp
import Derived.WalkKit
import Derived.ProofKit
import Derived.OpenShut
import Derived.ShutString
import Derived.ChangeOld
import Derived.Below
namespace Go.Proofs.Qxb6602209a
open Go.ChangeShapes Go.WideShapes Go.ChangeAt Go.RowKit
open Go.ChangeMaps (open_string shut_string)
set_option linter.unusedVariables false

section
variable {H : Type} {enc : TypeId × Value → H} {W : World} {n : Nat} {V : Array Value} {xs : List (DataW H × List MemPlace)}

theorem one_of {V : Array Value} {i : Nat} {v : Value} (h : List.take 1 (List.drop i V.toList) = [v]) : V[i]? = some v := by
  have e : (List.take 1 (List.drop i V.toList))[0]? = some v := by rw [h]; rfl
  rw [List.getElem?_take_of_lt (by omega), List.getElem?_drop] at e
  simpa using e

theorem fldS (i : Nat) (hx : i < xs.length) (h : DataW.trod enc Try.prog W 0 (fun _ => true) true n 9 (List.take 1 (List.drop i V.toList)) = xs[i]?) : ∃ s : ByteArray, V[i]? = some (.string s) ∧ s.size ≤ maxLen := by
  rw [List.getElem?_eq_getElem hx] at h
  obtain ⟨s, hs, _, hm⟩ := DataW.trod_string Try.underlying9 h
  exact ⟨s, one_of hs, hm⟩
theorem fldB (i : Nat) (hx : i < xs.length) (h : DataW.trod enc Try.prog W 0 (fun _ => true) true n 5 (List.take 1 (List.drop i V.toList)) = xs[i]?) : ∃ z : Int, V[i]? = some (.int .u8 z) ∧ 0 ≤ z ∧ z < 256 := by
  rw [List.getElem?_eq_getElem hx] at h
  obtain ⟨z, hs, _, hm⟩ := DataW.trod_int Try.underlying5 h
  exact ⟨z, one_of hs, byte_wf hm⟩
theorem fldL (i : Nat) (hx : i < xs.length) (h : DataW.trod enc Try.prog W 0 (fun _ => true) true n 22 (List.take 1 (List.drop i V.toList)) = xs[i]?) : ∃ (a : Option Addr) (k c : Nat) (zs : List Int), V[i]? = some (.slice a k c) ∧ In W a k c zs := by
  rw [List.getElem?_eq_getElem hx] at h
  rcases open_ints Try.underlying22 Try.underlying5 (by kernel_rfl) h with ⟨hcs, _⟩ | ⟨x, l, c, zs, hcs, _, hl, hm, hz, _, hcell, hwz⟩
  · exact ⟨none, 0, 0, [], one_of hcs, .inl ⟨rfl, rfl, rfl, rfl⟩⟩
  · exact ⟨some x, l, c, zs, one_of hcs, .inr ⟨_, rfl, hl, hm, by simpa using hz, hcell, hwz⟩⟩
end

theorem Try.cells24 : Try.prog.cellsOf 24 = 18 := by kernel_rfl
theorem Try.cells9 : Try.prog.cellsOf 9 = 1 := by kernel_rfl
theorem Try.cells5 : Try.prog.cellsOf 5 = 1 := by kernel_rfl
theorem Try.cells22 : Try.prog.cellsOf 22 = 1 := by kernel_rfl

/-- A message that came in: eighteen cells, the strings, the octets, the two slices. -/
theorem open_msg {H : Type} {enc : TypeId × Value → H} {W : World} {r : Reach} {base : Nat} {v : Value} {d : DataW H} {ps : List MemPlace} (hval : Value.okWide Try.prog W r base 24 v) (h : DataW.Trod enc Try.prog W 0 (fun _ => true) true 24 v d ps) :
    ∃ (V : Array Value) (m : M) (zS zO : List Int), v = .agg V ∧ IsM V m ∧ (m.s0.size ≤ maxLen ∧ m.s3.size ≤ maxLen ∧ m.s6.size ≤ maxLen ∧ m.s10.size ≤ maxLen ∧ m.s11.size ≤ maxLen) ∧ (∀ z ∈ [m.b1, m.b2, m.b4, m.b5, m.b7, m.b8, m.b9, m.b12, m.b13, m.b14, m.b15], 0 ≤ z ∧ z < 256) ∧ In W m.aS m.nS m.cS zS ∧ In W m.aO m.nO m.cO zO := by
  obtain ⟨V, rfl, hsz⟩ := okWide_struct Try.underlying24 hval
  rw [Try.cells24] at hsz
  obtain ⟨fuel, hf⟩ := h
  obtain ⟨xs, n, _, _, _, hl, hx⟩ := DataW.trod_struct Try.underlying24 hf
  have hl' : xs.length = 18 := hl
  have hx' : ∀ (i : Nat) (f : Field), _ → DataW.trod enc Try.prog W 0 (fun _ => true) true n f.type ((V.toList.drop f.offset).take (Try.prog.cellsOf f.type)) = xs[i]? := hx
  obtain ⟨s0, f0, g0⟩ := fldS (enc := enc) (W := W) (n := n) (V := V) (xs := xs) 0 (by omega) (by have e : DataW.trod enc Try.prog W 0 (fun _ => true) true n 9 ((V.toList.drop 0).take (Try.prog.cellsOf 9)) = xs[0]? := hx' 0 _ rfl; rw [Try.cells9] at e; exact e)
  obtain ⟨b1, f1, g1⟩ := fldB (enc := enc) (W := W) (n := n) (V := V) (xs := xs) 1 (by omega) (by have e : DataW.trod enc Try.prog W 0 (fun _ => true) true n 5 ((V.toList.drop 1).take (Try.prog.cellsOf 5)) = xs[1]? := hx' 1 _ rfl; rw [Try.cells5] at e; exact e)
  obtain ⟨b2, f2, g2⟩ := fldB (enc := enc) (W := W) (n := n) (V := V) (xs := xs) 2 (by omega) (by have e : DataW.trod enc Try.prog W 0 (fun _ => true) true n 5 ((V.toList.drop 2).take (Try.prog.cellsOf 5)) = xs[2]? := hx' 2 _ rfl; rw [Try.cells5] at e; exact e)
  obtain ⟨s3, f3, g3⟩ := fldS (enc := enc) (W := W) (n := n) (V := V) (xs := xs) 3 (by omega) (by have e : DataW.trod enc Try.prog W 0 (fun _ => true) true n 9 ((V.toList.drop 3).take (Try.prog.cellsOf 9)) = xs[3]? := hx' 3 _ rfl; rw [Try.cells9] at e; exact e)
  obtain ⟨b4, f4, g4⟩ := fldB (enc := enc) (W := W) (n := n) (V := V) (xs := xs) 4 (by omega) (by have e : DataW.trod enc Try.prog W 0 (fun _ => true) true n 5 ((V.toList.drop 4).take (Try.prog.cellsOf 5)) = xs[4]? := hx' 4 _ rfl; rw [Try.cells5] at e; exact e)
  obtain ⟨b5, f5, g5⟩ := fldB (enc := enc) (W := W) (n := n) (V := V) (xs := xs) 5 (by omega) (by have e : DataW.trod enc Try.prog W 0 (fun _ => true) true n 5 ((V.toList.drop 5).take (Try.prog.cellsOf 5)) = xs[5]? := hx' 5 _ rfl; rw [Try.cells5] at e; exact e)
  obtain ⟨s6, f6, g6⟩ := fldS (enc := enc) (W := W) (n := n) (V := V) (xs := xs) 6 (by omega) (by have e : DataW.trod enc Try.prog W 0 (fun _ => true) true n 9 ((V.toList.drop 6).take (Try.prog.cellsOf 9)) = xs[6]? := hx' 6 _ rfl; rw [Try.cells9] at e; exact e)
  obtain ⟨b7, f7, g7⟩ := fldB (enc := enc) (W := W) (n := n) (V := V) (xs := xs) 7 (by omega) (by have e : DataW.trod enc Try.prog W 0 (fun _ => true) true n 5 ((V.toList.drop 7).take (Try.prog.cellsOf 5)) = xs[7]? := hx' 7 _ rfl; rw [Try.cells5] at e; exact e)
  obtain ⟨b8, f8, g8⟩ := fldB (enc := enc) (W := W) (n := n) (V := V) (xs := xs) 8 (by omega) (by have e : DataW.trod enc Try.prog W 0 (fun _ => true) true n 5 ((V.toList.drop 8).take (Try.prog.cellsOf 5)) = xs[8]? := hx' 8 _ rfl; rw [Try.cells5] at e; exact e)
  obtain ⟨b9, f9, g9⟩ := fldB (enc := enc) (W := W) (n := n) (V := V) (xs := xs) 9 (by omega) (by have e : DataW.trod enc Try.prog W 0 (fun _ => true) true n 5 ((V.toList.drop 9).take (Try.prog.cellsOf 5)) = xs[9]? := hx' 9 _ rfl; rw [Try.cells5] at e; exact e)
  obtain ⟨s10, f10, g10⟩ := fldS (enc := enc) (W := W) (n := n) (V := V) (xs := xs) 10 (by omega) (by have e : DataW.trod enc Try.prog W 0 (fun _ => true) true n 9 ((V.toList.drop 10).take (Try.prog.cellsOf 9)) = xs[10]? := hx' 10 _ rfl; rw [Try.cells9] at e; exact e)
  obtain ⟨s11, f11, g11⟩ := fldS (enc := enc) (W := W) (n := n) (V := V) (xs := xs) 11 (by omega) (by have e : DataW.trod enc Try.prog W 0 (fun _ => true) true n 9 ((V.toList.drop 11).take (Try.prog.cellsOf 9)) = xs[11]? := hx' 11 _ rfl; rw [Try.cells9] at e; exact e)
  obtain ⟨b12, f12, g12⟩ := fldB (enc := enc) (W := W) (n := n) (V := V) (xs := xs) 12 (by omega) (by have e : DataW.trod enc Try.prog W 0 (fun _ => true) true n 5 ((V.toList.drop 12).take (Try.prog.cellsOf 5)) = xs[12]? := hx' 12 _ rfl; rw [Try.cells5] at e; exact e)
  obtain ⟨b13, f13, g13⟩ := fldB (enc := enc) (W := W) (n := n) (V := V) (xs := xs) 13 (by omega) (by have e : DataW.trod enc Try.prog W 0 (fun _ => true) true n 5 ((V.toList.drop 13).take (Try.prog.cellsOf 5)) = xs[13]? := hx' 13 _ rfl; rw [Try.cells5] at e; exact e)
  obtain ⟨b14, f14, g14⟩ := fldB (enc := enc) (W := W) (n := n) (V := V) (xs := xs) 14 (by omega) (by have e : DataW.trod enc Try.prog W 0 (fun _ => true) true n 5 ((V.toList.drop 14).take (Try.prog.cellsOf 5)) = xs[14]? := hx' 14 _ rfl; rw [Try.cells5] at e; exact e)
  obtain ⟨b15, f15, g15⟩ := fldB (enc := enc) (W := W) (n := n) (V := V) (xs := xs) 15 (by omega) (by have e : DataW.trod enc Try.prog W 0 (fun _ => true) true n 5 ((V.toList.drop 15).take (Try.prog.cellsOf 5)) = xs[15]? := hx' 15 _ rfl; rw [Try.cells5] at e; exact e)
  obtain ⟨aS, nS, cS, zS, f16, g16⟩ := fldL (enc := enc) (W := W) (n := n) (V := V) (xs := xs) 16 (by omega) (by have e : DataW.trod enc Try.prog W 0 (fun _ => true) true n 22 ((V.toList.drop 16).take (Try.prog.cellsOf 22)) = xs[16]? := hx' 16 _ rfl; rw [Try.cells22] at e; exact e)
  obtain ⟨aO, nO, cO, zO, f17, g17⟩ := fldL (enc := enc) (W := W) (n := n) (V := V) (xs := xs) 17 (by omega) (by have e : DataW.trod enc Try.prog W 0 (fun _ => true) true n 22 ((V.toList.drop 17).take (Try.prog.cellsOf 22)) = xs[17]? := hx' 17 _ rfl; rw [Try.cells22] at e; exact e)
  have hone : V.all (·.oneCell') = true := by
    rw [Array.all_eq_true]
    intro i hi
    have : ∀ j, j < 18 → ∃ v, V[j]? = some v ∧ v.oneCell' = true := by
      intro j hj
      match j, hj with
      | 0, _ => exact ⟨_, f0, rfl⟩
      | 1, _ => exact ⟨_, f1, rfl⟩
      | 2, _ => exact ⟨_, f2, rfl⟩
      | 3, _ => exact ⟨_, f3, rfl⟩
      | 4, _ => exact ⟨_, f4, rfl⟩
      | 5, _ => exact ⟨_, f5, rfl⟩
      | 6, _ => exact ⟨_, f6, rfl⟩
      | 7, _ => exact ⟨_, f7, rfl⟩
      | 8, _ => exact ⟨_, f8, rfl⟩
      | 9, _ => exact ⟨_, f9, rfl⟩
      | 10, _ => exact ⟨_, f10, rfl⟩
      | 11, _ => exact ⟨_, f11, rfl⟩
      | 12, _ => exact ⟨_, f12, rfl⟩
      | 13, _ => exact ⟨_, f13, rfl⟩
      | 14, _ => exact ⟨_, f14, rfl⟩
      | 15, _ => exact ⟨_, f15, rfl⟩
      | 16, _ => exact ⟨_, f16, rfl⟩
      | 17, _ => exact ⟨_, f17, rfl⟩
      | j + 18, hj => omega
    obtain ⟨v, hv, ho⟩ := this i (by omega)
    rw [Array.getElem?_eq_getElem hi] at hv
    injection hv with hv
    rw [hv]; exact ho
  refine ⟨V, { s0 := s0, b1 := b1, b2 := b2, s3 := s3, b4 := b4, b5 := b5, s6 := s6, b7 := b7, b8 := b8, b9 := b9, s10 := s10, s11 := s11, b12 := b12, b13 := b13, b14 := b14, b15 := b15, aS := aS, nS := nS, cS := cS, aO := aO, nO := nO, cO := cO }, zS, zO, rfl, ⟨hsz, hone, f0, f1, f2, f3, f4, f5, f6, f7, f8, f9, f10, f11, f12, f13, f14, f15, f16, f17⟩, ⟨g0, g3, g6, g10, g11⟩, ?_, g16, g17⟩
  intro z hz
  simp only [List.mem_cons, List.not_mem_nil, or_false] at hz
  rcases hz with rfl | rfl | rfl | rfl | rfl | rfl | rfl | rfl | rfl | rfl | rfl <;> assumption
end Go.Proofs.Qxb6602209a
