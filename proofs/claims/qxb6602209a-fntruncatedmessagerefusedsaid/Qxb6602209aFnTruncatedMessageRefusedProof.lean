/-
  THE PROOF OF 'Rows.FnTruncatedMessageRefusedSaid'.
-/
import Derived.Test.Qxb6602209aRows
import Derived.Test.Qxb6602209aLaw4
import Derived.Test.Qxb6602209aShort4
import Derived.Test.Qxb6602209aOpen
namespace Go.Proofs.Qxb6602209a.fnTruncatedMessageRefused
open Go.ChangeShapes Go.WideShapes Go.ChangeAt Go.RowKit
open Go.ChangeMaps (open_string shut_string)
set_option linter.unusedVariables false

theorem own : ownKnob Try.prog.godebug = none := by kernel_rfl
theorem laidOut : laidOutB Try.prog = true := by kernel_rfl

theorem walk (k : Int) (V : Array Value) (m : M) (zS zO : List Int) (w : World) (hM : IsM V m) (hs : m.s0.size ≤ maxLen ∧ m.s3.size ≤ maxLen ∧ m.s6.size ≤ maxLen ∧ m.s10.size ≤ maxLen ∧ m.s11.size ≤ maxLen)
    (hby : ∀ z ∈ [m.b1, m.b2, m.b4, m.b5, m.b7, m.b8, m.b9, m.b12, m.b13, m.b14, m.b15], 0 ≤ z ∧ z < 256) (wS : In w m.aS m.nS m.cS zS) (wO : In w m.aO m.nO m.cO zO) :
    Calls Try.prog 4 #[.agg V, .int .i64 k] w fun e w' => e = .returned (.bool true) ∧ Below w.heap.size w w' := by
  by_cases hb : m.s0.size + m.s3.size + m.s6.size + m.s10.size + m.s11.size + m.nS + m.nO ≤ 1048576
  · by_cases hu : nul m.s0 = false ∧ nul m.s3 = false ∧ nul m.s6 = false ∧ nul m.s10 = false ∧ nul m.s11 = false
    · obtain ⟨u0, u3, u6, u10, u11⟩ := hu
      by_cases hc : k < 0 ∨ ((17 + m.s0.size + m.s3.size + m.s6.size + m.s10.size + m.s11.size : Nat) : Int) ≤ k
      · exact law4_out k V m hM w hb u0 u3 u6 u10 u11 hc
      · obtain ⟨c, rfl⟩ : ∃ c : Nat, k = (c : Int) := ⟨k.toNat, by omega⟩
        exact law4_road c V m hM zS zO w wS wO hb u0 u3 u6 u10 u11 (by omega) hby
    · exact law4_nul k V m hM w hb hu
  · exact law4_big k V m hM w (by omega) hs.1 hs.2.1 hs.2.2.1 hs.2.2.2.1 hs.2.2.2.2 wS.len wO.len

set_option maxRecDepth 100000 in
theorem lifted (os : Os) (started : os.Started) (H : Type) (enc : TypeId × Value → H) :
    ReturnsInHanded {} Try.checked os 4 .any (Rows.fnTruncatedMessageRefusedSpec.pre6 enc Try.prog Try.f4 Rows.fnTruncatedMessageRefusedRow.domain false) (Rows.fnTruncatedMessageRefusedSpec.post enc Try.prog Try.f4 false true false false) := by
  refine returnsInHanded_of_change (C := Try.checked) own started (by kernel_rfl) Try.func4
    (ChangeSpec.witness6 (enc := enc) (C := Try.checked) false ⟨#[], #[.agg #[.string { data := #[] }, .int .u8 0, .int .u8 0, .string { data := #[] }, .int .u8 0, .int .u8 0, .string { data := #[] }, .int .u8 0, .int .u8 0, .int .u8 0, .string { data := #[] }, .string { data := #[] }, .int .u8 0, .int .u8 0, .int .u8 0, .int .u8 0, .slice none 0 0, .slice none 0 0], .int .i64 0], []⟩ 8 (by kernel_rfl) (by kernel_rfl) (by kernel_rfl) (by kernel_rfl)) ?_
  intro W base args ds gs before hval0 hW hcnd _
  have hval : ∀ (j : Nat) t v, Try.f4.params[j]? = some t → args[j]? = some v → Value.okWide Try.prog W .any base t v := hval0
  have hW' := hW
  obtain ⟨p, q, hA0, hV, rfl, hfz, hnd⟩ := hW
  have hA : DataW.TrodAll enc Try.prog W 0 (fun _ => true) true Try.f4.params.toList args.toList ds p := hA0
  rw [Try.params4] at hA hval
  obtain ⟨v0, vs0, d0, ds0, p0, q0, hargs, rfl, rfl, h0, r0⟩ := trodAll_cons hA
  obtain ⟨v1, vs1, d1, ds1, p1, q1, rfl, rfl, rfl, h1, r1⟩ := trodAll_cons r0
  obtain ⟨rfl, rfl, rfl⟩ := trodAll_nil r1
  obtain rfl : args = #[v0, v1] := by cases args; simp_all
  obtain ⟨rfl, rfl⟩ := trodVars_none hV
  have k0 := h0
  have lt0 : ∀ x ∈ p0, x.block < W.heap.size := by obtain ⟨m, hm⟩ := k0; exact DataW.trod_lt m _ _ _ hm
  obtain ⟨V, m, zS, zO, rfl, hM, hs, hby, wS, wO⟩ := open_msg (hval 0 24 v0 rfl rfl) h0
  obtain ⟨a1, rfl, rfl, rfl, w1⟩ := open_int Try.underlying3 (hval 1 3 v1 rfl rfl) h1
  clear hA0 hval0
  refine (walk a1 V m zS zO W hM hs hby wS wO).mono fun e W' ⟨he, bel⟩ => ?_
  subst he
  exact ⟨_, rfl, _, _, _, [], _, [], hW', trodAll_mk1 (shut_bool Try.underlying4 _), (trodAll_cons_mk (Below.trod laidOut (by kernel_rfl) (of_decide_eq_true (by kernel_rfl)) k0 bel lt0) (trodAll_cons_mk (shut_int Try.underlying3 w1) trodAll_mk0)), rfl, bel.frame _, fun h => by cases h⟩

theorem over : Rows.fnTruncatedMessageRefusedRow.holds Try.pinned (OpenSpec.ofChange Rows.fnTruncatedMessageRefusedSpec) :=
  OpenClaim.holds_of_wide 4 Try.f4 rfl rfl rfl rfl rfl rfl rfl ⟨rfl, rfl, rfl, rfl, rfl⟩ rfl rfl rfl rfl rfl (by kernel_rfl) Try.func4 (by kernel_rfl)
    (of_decide_eq_true (by kernel_rfl)) (by unfold Func.isWrapper; first | (rw [if_pos (by decide +kernel)]; kernel_rfl) | (rw [if_neg (by decide +kernel)]; exact ⟨rfl, rfl⟩))
    (fun os started H enc _ => lifted os started H enc)

/-- ████ THE STATEMENT ████ -/
theorem proved : Rows.FnTruncatedMessageRefusedSaid := over
#print axioms proved
end Go.Proofs.Qxb6602209a.fnTruncatedMessageRefused
