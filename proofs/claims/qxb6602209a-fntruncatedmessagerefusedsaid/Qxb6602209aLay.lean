import Derived.Test.Qxb6602209aNames
namespace Go.Proofs.Qxb6602209a
open Go.ChangeShapes Go.WideShapes Go.ChangeAt Go.RowKit
set_option linter.unusedVariables false

/-- THE LAY-OUT OF THE SEVENTEEN FIELDS in a text of n bytes told by g: field i begins at P i; it is fs i and a NUL, or the octet fo i. -/
structure Lay (g : Nat → Int) (n : Nat) (P : Nat → Nat) (fs : Nat → ByteArray) (fo : Nat → Int) : Prop where
  p0 : P 0 = 0
  step : ∀ i, i < 17 → P (i + 1) = P i + (if isC i = true then (fs i).size + 1 else 1)
  str : ∀ i, i < 17 → isC i = true → ∀ j (hj : j < (fs i).size), P i + j < n → g (P i + j) = ((fs i)[j].toNat : Int)
  nz : ∀ i, i < 17 → isC i = true → ∀ j (hj : j < (fs i).size), ((fs i)[j].toNat : Int) ≠ 0
  fin : ∀ i, i < 17 → isC i = true → P i + (fs i).size < n → g (P i + (fs i).size) = 0
  oct : ∀ i, i < 17 → isC i = false → P i < n → g (P i) = fo i
  sE : ∀ i, i < 17 → isC i = false → fs i = { data := #[] }
  oE : ∀ i, i < 17 → isC i = true → fo i = 0
  bytes : ∀ i, i < n → 0 ≤ g i ∧ g i < 256

/-- The text goes through the fields below f, and no further. -/
structure Cut (P : Nat → Nat) (n f : Nat) : Prop where
  le : f ≤ 17
  start : P f ≤ n
  yes : ∀ i, i < f → P (i + 1) ≤ n
  no : f < 17 → n < P (f + 1)

/-- The reader ahead of field i. -/
def RS (w : World) (U D r : Nat) (g : Nat → Int) (n : Nat) (P : Nat → Nat) (f i : Nat) : Prop :=
  (i ≤ f ∧ ∃ ao c, Rd w r ao (n - P i) c none ∧ Bd w U ao (n - P i) c (fun j => g (P i + j))) ∨
  (f < i ∧ ∃ ao c, Failed w D r ao (n - P f) c (nm f) (isC f) ∧ Bd w U ao (n - P f) c (fun j => g (P f + j)))

theorem RS.other {w w' : World} {U D r : Nat} {g : Nat → Int} {n : Nat} {P : Nat → Nat} {f i : Nat} (h : RS w U D r g n P f i) (z : Nat) (hk : ∀ k, k ≠ z → w'.heap[k]? = w.heap[k]?) (h1 : z ≠ r) (h2 : U ≤ z) (h3 : z < D) : RS w' U D r g n P f i := by
  have hB : ∀ {ao : Option Addr} {n c : Nat} {f : Nat → Int}, Bd w U ao n c f → Bd w' U ao n c f := by
    intro ao n c f hb
    rcases hb with hb | ⟨b, o, e1, e0, e2, e3⟩
    · exact .inl hb
    · exact .inr ⟨b, o, e1, e0, e2, fun i hi => by rw [← e3 i hi]; exact World.cell?_of_block (w := w) (hk b (by omega))⟩
  rcases h with ⟨hi, ao, c, hr, hb⟩ | ⟨hi, ao, c, ⟨fe, hr, hD, hfe⟩, hb⟩
  · exact .inl ⟨hi, ao, c, (hk r (Ne.symm h1)).trans hr, hB hb⟩
  · exact .inr ⟨hi, ao, c, ⟨fe, (hk r (Ne.symm h1)).trans hr, hD, (hk fe (by omega)).trans hfe⟩, hB hb⟩

theorem readC {w : World} {U D r : Nat} {g : Nat → Int} {n : Nat} {P : Nat → Nat} {f i : Nat} {fs : Nat → ByteArray} {fo : Nat → Int} (L : Lay g n P fs fo) (C : Cut P n f) (h : RS w U D r g n P f i) (hi : i < 17) (hc : isC i = true) (hU : U ≤ r) (hn : n ≤ 2097152) (hD : D ≤ w.heap.size) (hr : r < D) :
    Calls Try.prog 25 #[.pointer (some ⟨r, 0, none⟩), .string (nm i)] w fun e w' => e = .returned (.string (if i < f then fs i else { data := #[] })) ∧ RS w' U D r g n P f (i + 1) ∧ Kb r w w' := by
  have hst := L.step i hi
  rw [if_pos hc] at hst
  have key : Calls Try.prog 32 #[.pointer (some ⟨r, 0, none⟩), .string (nm i)] w fun e w' => ∃ s, e = .returned (.string s) ∧ (s = (if i < f then fs i else { data := #[] }) ∧ RS w' U D r g n P f (i + 1) ∧ Kb r w w') := by
    rcases h with ⟨hif, ao, c, hrd, hb⟩ | ⟨hif, ao, c, ⟨fe, hrd, hD2, hfe⟩, hb⟩
    · rcases Nat.lt_or_ge i f with hlt | hge
      · have hy := C.yes i hlt
        refine (cstr_ok r U ao (n - P i) c _ (fs i) (nm i) w hrd hb hU (by omega) (fun j hj => L.bytes _ (by omega)) (fun j hj => L.str i hi hc j hj (by omega)) (fun j hj => ?_) (by omega) (L.fin i hi hc (by omega))).mono ?_
        · rw [L.str i hi hc j hj (by omega)]; exact L.nz i hi hc j hj
        · rintro e w' ⟨rfl, ⟨ao', c', h1, h2⟩, hk⟩
          refine ⟨_, rfl, by rw [if_pos hlt], .inl ⟨by omega, ao', c', ?_, ?_⟩, hk⟩
          · rw [hst, show n - (P i + ((fs i).size + 1)) = n - P i - ((fs i).size + 1) by omega]; exact h1
          · rw [hst, show n - (P i + ((fs i).size + 1)) = n - P i - ((fs i).size + 1) by omega]
            have : (fun j => g (P i + ((fs i).size + 1) + j)) = (fun j => g (P i + ((fs i).size + 1 + j))) := by funext j; rw [Nat.add_assoc]
            rw [this]; exact h2
      · have hfi : f = i := by omega
        subst hfi
        have hno := C.no hi
        have hs := C.start
        refine (cstr_end r U ao (n - P f) c _ (nm f) w hrd hb (fun j hj => L.bytes _ (by omega)) (fun j hj => ?_)).mono ?_
        · rw [L.str f hi hc j (by omega) (by omega)]; exact L.nz f hi hc j (by omega)
        · rintro e w' ⟨rfl, ⟨fe, h1, h2, h3⟩, hk⟩
          refine ⟨_, rfl, by rw [if_neg (by omega)], .inr ⟨by omega, ao, c, ⟨fe, h1, by omega, ?_⟩, hb.kb hk hU⟩, hk⟩
          rw [hc]; exact h3
    · refine (cstr_err r ao _ c _ (nm i) w hrd).mono ?_
      rintro e w' ⟨rfl, hw⟩
      subst hw
      exact ⟨_, rfl, by rw [if_neg (by omega)], .inr ⟨by omega, ao, c, ⟨fe, hrd, hD2, hfe⟩, hb⟩, Kb.refl _ _⟩
  refine (zcstr key).mono ?_
  rintro e w' ⟨s, rfl, rfl, h1, h2⟩
  exact ⟨rfl, h1, h2⟩

theorem readO {w : World} {U D r : Nat} {g : Nat → Int} {n : Nat} {P : Nat → Nat} {f i : Nat} {fs : Nat → ByteArray} {fo : Nat → Int} (L : Lay g n P fs fo) (C : Cut P n f) (h : RS w U D r g n P f i) (hi : i < 17) (hc : isC i = false) (hU : U ≤ r) (hn : n ≤ 2097152) (hD : D ≤ w.heap.size) (hr : r < D) :
    Calls Try.prog 16 #[.pointer (some ⟨r, 0, none⟩), .string (nm i)] w fun e w' => e = .returned (.int .u8 (if i < f then fo i else 0)) ∧ RS w' U D r g n P f (i + 1) ∧ Kb r w w' := by
  have hst := L.step i hi
  rw [if_neg (by rw [hc]; simp)] at hst
  have key : Calls Try.prog 31 #[.pointer (some ⟨r, 0, none⟩), .string (nm i)] w fun e w' => ∃ z, e = .returned (.int .u8 z) ∧ (z = (if i < f then fo i else 0) ∧ RS w' U D r g n P f (i + 1) ∧ Kb r w w') := by
    rcases h with ⟨hif, ao, c, hrd, hb⟩ | ⟨hif, ao, c, ⟨fe, hrd, hD2, hfe⟩, hb⟩
    · rcases Nat.lt_or_ge i f with hlt | hge
      · have hy := C.yes i hlt
        refine (octet_ok r U ao (n - P i) c _ (nm i) w hrd hb hU (by omega) (by omega)).mono ?_
        rintro e w' ⟨rfl, ⟨ao', c', h1, h2⟩, hk⟩
        refine ⟨_, rfl, ?_, .inl ⟨by omega, ao', c', ?_, ?_⟩, hk⟩
        · rw [if_pos hlt, Nat.add_zero]; exact L.oct i hi hc (by omega)
        · rw [hst, show n - (P i + 1) = n - P i - 1 by omega]; exact h1
        · rw [hst, show n - (P i + 1) = n - P i - 1 by omega]
          have : (fun j => g (P i + 1 + j)) = (fun j => g (P i + (1 + j))) := by funext j; rw [Nat.add_assoc]
          rw [this]; exact h2
      · have hfi : f = i := by omega
        subst hfi
        have hno := C.no hi
        have hs := C.start
        have hz : n - P f = 0 := by omega
        rw [hz] at hrd hb
        refine (octet_end r ao c (nm f) w hrd).mono ?_
        rintro e w' ⟨rfl, ⟨fe, h1, h2, h3⟩, hk⟩
        refine ⟨_, rfl, by rw [if_neg (by omega)], .inr ⟨by omega, ao, c, ⟨fe, by rw [hz]; exact h1, by omega, ?_⟩, by rw [hz]; exact hb.kb hk hU⟩, hk⟩
        rw [hc]; exact h3
    · refine (octet_err r ao _ c _ (nm i) w hrd).mono ?_
      rintro e w' ⟨rfl, hw⟩
      subst hw
      exact ⟨_, rfl, by rw [if_neg (by omega)], .inr ⟨by omega, ao, c, ⟨fe, hrd, hD2, hfe⟩, hb⟩, Kb.refl _ _⟩
  refine (zoctet key).mono ?_
  rintro e w' ⟨s, rfl, rfl, h1, h2⟩
  exact ⟨rfl, h1, h2⟩
end Go.Proofs.Qxb6602209a
