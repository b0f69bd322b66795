import Derived.Test.Qxb6602209aRows
import Derived.WalkKit
import Derived.ProofKit
import Derived.Below
import Derived.Lib.BytesEntry
import Derived.Lib.IndexLaws
import Derived.Laws.Externs
namespace Go.Proofs.Qxb6602209a
open Go.ChangeShapes Go.WideShapes Go.ChangeAt Go.RowKit
set_option linter.unusedVariables false

/-- THE MODEL's ENTRY at a slice at whatever address, its cells told by a function. -/
theorem run_idxAt {P : Program} (w : World) (a : Addr) (n c : Nat) (f : Nat → Int) (hc : ∀ i, i < n → w.cell? (a.add i) = some (.int .u8 (f i))) (cv : Int) :
    (Extern.BytealgIndexByte.indexByte #[.slice (some a) n c, .int .u8 cv]).run P w = .ok (.int .i64 (Lib.indexByte (Lib.bytesOf ((List.range n).map f)) cv.toNat.toUInt8)) w := by
  have hx : ((List.range n).map f).length = n := by simp
  have hl := Lib.run_loadBytesX (P := P) w ((List.range n).map f) a .empty (fun j x hj => by
    have hjl : j < ((List.range n).map f).length := (List.getElem?_eq_some_iff.1 hj).1
    have hjn : j < n := by simpa using hjl
    rw [hc j hjn]
    have : ((List.range n).map f)[j]? = some (f j) := by simp [hjn]
    rw [this] at hj
    simp at hj
    rw [hj])
  rw [hx] at hl
  have hs := Lib.run_indexByteString (P := P) ⟨(Lib.bytesOf ((List.range n).map f)).toArray⟩ cv w
  have he : (⟨ByteArray.empty.data ++ (Lib.bytesOf ((List.range n).map f)).toArray⟩ : ByteArray) = ⟨(Lib.bytesOf ((List.range n).map f)).toArray⟩ := by
    apply ByteArray.ext
    show (#[] : Array UInt8) ++ (Lib.bytesOf ((List.range n).map f)).toArray = (Lib.bytesOf ((List.range n).map f)).toArray
    simp
  rw [he] at hl
  change Sem.run P (do
    let b ← Extern.Bytes.bytesOf (.slice (some a) n c)
    let c ← Extern.Bytes.asByte (.int .u8 cv)
    match (List.range b.size).find? fun i => b[i]! == c with
    | some i => pure (goInt i)
    | none => pure (goInt (-1))) w = _
  change Sem.run P (do
    let b ← Extern.Bytes.bytesOf (.string ⟨(Lib.bytesOf ((List.range n).map f)).toArray⟩)
    let c ← Extern.Bytes.asByte (.int .u8 cv)
    match (List.range b.size).find? fun i => b[i]! == c with
    | some i => pure (goInt i)
    | none => pure (goInt (-1))) w = _ at hs
  simp only [Extern.Bytes.bytesOf, Sem.run_bind, Sem.run_pure, hl, Result.andThen] at hs ⊢
  exact hs

theorem byte_inj {x y : Int} (hx : 0 ≤ x ∧ x < 256) (hy : 0 ≤ y ∧ y < 256) (h : x.toNat.toUInt8 = y.toNat.toUInt8) : x = y := by
  have := congrArg UInt8.toNat h
  simp at this
  omega

/-- What bytes.IndexByte answers: the first place, or -1. -/
def IdxIs (f : Nat → Int) (n : Nat) (cv r : Int) : Prop :=
  (∃ q : Nat, r = q ∧ q < n ∧ f q = cv ∧ ∀ j, j < q → f j ≠ cv) ∨ (r = -1 ∧ ∀ j, j < n → f j ≠ cv)

theorem idxIs (f : Nat → Int) (n : Nat) (cv : Int) (hb : ∀ i, i < n → 0 ≤ f i ∧ f i < 256) (hv : 0 ≤ cv ∧ cv < 256) :
    IdxIs f n cv (Lib.indexByte (Lib.bytesOf ((List.range n).map f)) cv.toNat.toUInt8) := by
  have hge := Lib.indexByte_ge (Lib.bytesOf ((List.range n).map f)) cv.toNat.toUInt8
  have hget : ∀ j, j < n → (Lib.bytesOf ((List.range n).map f))[j]? = some (f j).toNat.toUInt8 := by
    intro j hj
    simp [Lib.bytesOf, hj]
  by_cases hm : Lib.indexByte (Lib.bytesOf ((List.range n).map f)) cv.toNat.toUInt8 = -1
  · refine .inr ⟨hm, fun j hj he => ?_⟩
    have := Lib.indexByte_none hm j
    rw [hget j hj, he] at this
    exact this rfl
  · obtain ⟨q, hq⟩ := Int.eq_ofNat_of_zero_le (show 0 ≤ Lib.indexByte (Lib.bytesOf ((List.range n).map f)) cv.toNat.toUInt8 by omega)
    obtain ⟨h1, h2⟩ := Lib.indexByte_some hq
    have hqn : q < n := by
      have := (List.getElem?_eq_some_iff.1 h1).1
      simpa [Lib.bytesOf] using this
    rw [hget q hqn] at h1
    refine .inl ⟨q, hq, hqn, byte_inj (hb q hqn) hv (by simpa using h1), fun j hj he => ?_⟩
    have := h2 j hj
    rw [hget j (by omega), he] at this
    exact this rfl

set_option maxRecDepth 100000 in
/-- bytes.IndexByte at a slice at whatever address. -/
theorem idx_any (a : Addr) (n c : Nat) (f : Nat → Int) (cv : Int) (w : World) (hc : ∀ i, i < n → w.cell? (a.add i) = some (.int .u8 (f i))) (hb : ∀ i, i < n → 0 ≤ f i ∧ f i < 256) (hv : 0 ≤ cv ∧ cv < 256) :
    Calls Try.prog 33 #[.slice (some a) n c, .int .u8 cv] w fun e w' => (∃ r : Int, e = .returned (.int .i64 r) ∧ IdxIs f n cv r) ∧ w' = w := by
  have hrun := fun P => run_idxAt (P := P) w a n c f hc cv
  have hi := idxIs f n cv hb hv
  clear hc hb
  generalize Lib.indexByte (Lib.bytesOf ((List.range n).map f)) cv.toNat.toUInt8 = r at hrun hi
  have H : Hid (IdxIs f n cv r) := hi
  clear hi
  go_enter Try.func33, Try.ntmps33
  go_wp2
  rw [run_callFunc_extern Try.func34 (by kernel_rfl) (by kernel_rfl) (by kernel_rfl) (e := Extern.BytealgIndexByte.indexByte) (by kernel_rfl), hrun]
  simp only [Result.andThen]
  rw [Oper.upon_value]
  go_wp2
  go_ret
  exact ⟨⟨r, rfl, H.out⟩, rfl⟩

set_option maxRecDepth 100000 in
/-- bytes.IndexByte at nil. -/
theorem idx_nil (cv : Int) (w : World) : Calls Try.prog 33 #[.slice none 0 0, .int .u8 cv] w fun e w' => e = .returned (.int .i64 (-1)) ∧ w' = w := by
  have hrun := fun P => Lib.run_indexByteNil (P := P) w 0 0 cv
  go_enter Try.func33, Try.ntmps33
  go_wp2
  rw [run_callFunc_extern Try.func34 (by kernel_rfl) (by kernel_rfl) (by kernel_rfl) (e := Extern.BytealgIndexByte.indexByte) (by kernel_rfl), hrun]
  simp only [Result.andThen]
  rw [Oper.upon_value]
  go_wp2
  go_ret
  exact ⟨rfl, rfl⟩

end Go.Proofs.Qxb6602209a
