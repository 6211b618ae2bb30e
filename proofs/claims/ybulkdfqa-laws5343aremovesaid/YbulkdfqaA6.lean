/-
  WALKS OF rotateRight AND rotateLeft.
-/
import Derived.Test.YbulkdfqaA5
namespace Go.Proofs.Ybulkdfqa
open Go.RowKit
set_option linter.unusedVariables false
set_option linter.unusedSimpArgs false

set_option maxHeartbeats 1000000 in
set_option maxRecDepth 100000 in
theorem rotR_any (g n : Nat) (D : Dat) (S : St) (i l : Nat) (w : World) (h : Holds w g n D S) (hi : i < n) (hl : l < n) (hli : l ≠ i) (hL : S.left i = some l)
    (h1 : ChOK n ((S.setLeft i (S.right l)).setRight l (some i)) i (S.right l)) (h2 : ChOK n ((S.setLeft i (S.right l)).setRight l (some i)) i (S.right i)) :
    Calls Yba.prog 21 #[.pointer (some ⟨g, i * 12, none⟩)] w fun e w' => e = .returned (.pointer (some ⟨g, l * 12, none⟩)) ∧ Holds w' g n D (fixS D ((S.setLeft i (S.right l)).setRight l (some i)) i) ∧ Oth g g w w' := by
  have c3 := h.cell3 hi
  rw [hL] at c3
  have c4 := h.cell4 hl
  have fz := fun o => h.frz o
  have H1 := (h.setLeft hi (S.right l)).setRight hl (some i)
  have O1 := hid (((Oth.refl g g w).setG (i * 12 + 3) (ptrV g (S.right l))).setG (l * 12 + 4) (ptrV g (some i)))
  have F := fix_any g n D _ i _ H1 hi (by show ChOK n _ i (upd S.left i (S.right l) i); rw [upd_same]; exact h1) (by show ChOK n _ i (upd S.right l (some i) i); rw [upd_other _ _ (Ne.symm hli)]; exact h2)
  have HF := hid F
  clear F H1 h h1 h2
  obtain ⟨u, hu⟩ : ∃ u, u = adrO g (S.right l) := ⟨_, rfl⟩
  simp only [ptrV, ← hu] at c4 HF O1
  simp only [ptrV, adrO] at c3 HF O1
  have HU := hid hu
  clear hu hL
  go_enter Yba.func21, Yba.ntmps21
  go_wp2_with fail
  refine HF.out.mono ?_
  rintro e w' ⟨rfl, hh, ho⟩
  have HH := hid (And.intro hh ho)
  clear hh ho
  go_wp2_with fail
  go_ret
  exact ⟨rfl, HH.out.1, O1.out.trans HH.out.2⟩

set_option maxHeartbeats 1000000 in
set_option maxRecDepth 100000 in
theorem rotL_any (g n : Nat) (D : Dat) (S : St) (i l : Nat) (w : World) (h : Holds w g n D S) (hi : i < n) (hl : l < n) (hli : l ≠ i) (hL : S.right i = some l)
    (h1 : ChOK n ((S.setRight i (S.left l)).setLeft l (some i)) i (S.left l)) (h2 : ChOK n ((S.setRight i (S.left l)).setLeft l (some i)) i (S.left i)) :
    Calls Yba.prog 22 #[.pointer (some ⟨g, i * 12, none⟩)] w fun e w' => e = .returned (.pointer (some ⟨g, l * 12, none⟩)) ∧ Holds w' g n D (fixS D ((S.setRight i (S.left l)).setLeft l (some i)) i) ∧ Oth g g w w' := by
  have c3 := h.cell4 hi
  rw [hL] at c3
  have c4 := h.cell3 hl
  have fz := fun o => h.frz o
  have H1 := (h.setRight hi (S.left l)).setLeft hl (some i)
  have O1 := hid (((Oth.refl g g w).setG (i * 12 + 4) (ptrV g (S.left l))).setG (l * 12 + 3) (ptrV g (some i)))
  have F := fix_any g n D _ i _ H1 hi (by show ChOK n _ i (upd S.left l (some i) i); rw [upd_other _ _ (Ne.symm hli)]; exact h2) (by show ChOK n _ i (upd S.right i (S.left l) i); rw [upd_same]; exact h1)
  have HF := hid F
  clear F H1 h h1 h2
  obtain ⟨u, hu⟩ : ∃ u, u = adrO g (S.left l) := ⟨_, rfl⟩
  simp only [ptrV, ← hu] at c4 HF O1
  simp only [ptrV, adrO] at c3 HF O1
  have HU := hid hu
  clear hu hL
  go_enter Yba.func22, Yba.ntmps22
  go_wp2_with fail
  refine HF.out.mono ?_
  rintro e w' ⟨rfl, hh, ho⟩
  have HH := hid (And.intro hh ho)
  clear hh ho
  go_wp2_with fail
  go_ret
  exact ⟨rfl, HH.out.1, O1.out.trans HH.out.2⟩
end Go.Proofs.Ybulkdfqa
