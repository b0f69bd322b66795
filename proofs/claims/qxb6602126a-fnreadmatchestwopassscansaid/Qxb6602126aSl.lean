import Derived.Test.Qxb6602126aZrs
import Derived.Test.Qxb6602126aFw
import Derived.Test.Qxb6602126aClone
namespace Go.Proofs.Qxb6602126a
open Go.ChangeShapes Go.WideShapes Go.ChangeAt Go.RowKit
set_option linter.unusedVariables false

/-- A slice of n bytes, told by g: nil, or lying in memory. -/
def Sl (w : World) (ao : Option Addr) (n c : Nat) (g : Nat → Int) : Prop :=
  (ao = none ∧ n = 0 ∧ c = 0) ∨ ∃ b o, ao = some ⟨b, o, none⟩ ∧ n ≤ c ∧ ∀ i, i < n → w.cell? ⟨b, o + i, none⟩ = some (.int .u8 (g i))

theorem Sl.below {w w' : World} {ao : Option Addr} {n c : Nat} {g : Nat → Int} (h : Sl w ao n c g) (hb : Below w.heap.size w w') : Sl w' ao n c g := by
  rcases h with h | ⟨b, o, h1, h2, h3⟩
  · exact .inl h
  · refine .inr ⟨b, o, h1, h2, fun i hi => ?_⟩
    have h4 := h3 i hi
    exact (hb.cell (block_lt_of_cell h4)).trans h4

/-- What comes in. -/
def In (w : World) (a : Option Addr) (len cap : Nat) (zs : List Int) : Prop :=
  (a = none ∧ len = 0 ∧ cap = 0 ∧ zs = []) ∨
  ∃ x, a = some x ∧ len ≤ cap ∧ cap ≤ maxLen ∧ zs.length = cap ∧ (∀ i, i < zs.length → w.cell? (x.add i) = some (.int .u8 (zs.getD i 0))) ∧ ∀ n ∈ zs, (Lit.int .u8 n).wf = true

theorem In.below {w w' : World} {a : Option Addr} {len cap : Nat} {zs : List Int} (h : In w a len cap zs) (hb : Below w.heap.size w w') : In w' a len cap zs := by
  rcases h with h | ⟨x, h1, h2, h3, h4, h5, h6⟩
  · exact .inl h
  · refine .inr ⟨x, h1, h2, h3, h4, fun i hi => ?_, h6⟩
    have h7 := h5 i hi
    exact (hb.cell (block_lt_of_cell h7)).trans h7

theorem byte_wf {x : Int} (h : (Lit.int .u8 x).wf = true) : 0 ≤ x ∧ x < 256 := by
  have h1 : IntKind.u8.min = 0 := rfl
  have h2 : IntKind.u8.max = 255 := rfl
  simp only [Lit.wf, Bool.and_eq_true, decide_eq_true_eq] at h
  omega

theorem In.bytes {w : World} {a : Option Addr} {len cap : Nat} {zs : List Int} (h : In w a len cap zs) : ∀ i, i < len → 0 ≤ zs.getD i 0 ∧ zs.getD i 0 < 256 := by
  rcases h with ⟨_, h, _⟩ | ⟨x, h1, h2, h3, h4, h5, h6⟩
  · intro i hi; omega
  · intro i hi
    refine byte_wf (h6 _ ?_)
    have : i < zs.length := by omega
    simp [this]

theorem clone_sl {w : World} {a : Option Addr} {len cap : Nat} {zs : List Int} (h : In w a len cap zs) (hn : len ≤ 1048576) :
    Calls Try.prog 10 #[.slice a len cap] w fun e w' => ∃ ao cp, e = .returned (.slice ao len cp) ∧ Sl w' ao len cp (fun i => zs.getD i 0) ∧ Below w.heap.size w w' := by
  rcases h with ⟨rfl, rfl, rfl, rfl⟩ | ⟨x, rfl, h2, h3, h4, h5, h6⟩
  · refine (clone_nil w).mono ?_
    rintro e w' ⟨rfl, rfl⟩
    exact ⟨none, 0, rfl, .inl ⟨rfl, rfl, rfl⟩, Below.refl _ _⟩
  · refine (clone_any x len cap (fun i => zs.getD i 0) w hn (fun i hi => h5 i (by omega))).mono ?_
    rintro e w' ⟨rfl, rfl⟩
    refine ⟨_, _, rfl, .inr ⟨_, 0, rfl, Nat.le_refl _, fun i hi => ?_⟩, (Below.refl _ _).alloc (Nat.le_refl _) _⟩
    rw [Nat.zero_add, World.cell?_alloc_new]
    have := row_get (fun i => zs.getD i 0) len len i hi
    rw [if_pos hi] at this
    simpa using this

theorem zrs_sl {w : World} {ao : Option Addr} {n c : Nat} {g : Nat → Int} (h : Sl w ao n c g) (hn : n ≤ 1048576) (hby : ∀ i, i < n → 0 ≤ g i ∧ g i < 256) (d : Int) (s l x : Bool) :
    Calls Try.prog 16 #[.int .i64 d, .bool s, .bool l, .bool x, .slice ao n c] w fun e w' => ZrsPost g x n d s l e ∧ Below w.heap.size w w' := by
  rcases h with ⟨rfl, rfl, rfl⟩ | ⟨b, o, rfl, h2, h3⟩
  · exact zrs_nil g d s l x w
  · exact zrs_any g b o n c d s l x w hn h2 h3 hby

theorem fw_sl {w : World} {ao : Option Addr} {n c : Nat} {g : Nat → Int} (h : Sl w ao n c g) (hn : n ≤ 1048576) (x : Bool) :
    Calls Try.prog 17 #[.bool x, .slice ao n c] w fun e w' => FwPost g x n e ∧ w' = w := by
  rcases h with ⟨rfl, rfl, rfl⟩ | ⟨b, o, rfl, h2, h3⟩
  · exact fw_nil g x w
  · exact fw_any g b o n c x w hn h3
end Go.Proofs.Qxb6602126a
