/-
  WALK OF autoIncrement OVER A LIST.
-/
import Derived.Test.YbulkdfqaB2
import Derived.Test.YbulkdfqaB4
namespace Go.Proofs.Ybulkdfqa
open Go.RowKit
set_option linter.unusedVariables false
set_option linter.unusedSimpArgs false

set_option maxHeartbeats 400000 in
theorem auto_nil (w : World) :
    Calls Yba.prog 11 #[.pointer none] w fun e w' => e = .returned (.pointer none) ∧ Below w.heap.size w w' := by
  go_enter Yba.func11, Yba.ntmps11
  go_wp2_with fail
  go_ret
  exact ⟨rfl, (Below.refl _ _).alloc (Nat.le_refl _) _⟩

set_option maxHeartbeats 1000000 in
theorem auto_list (kb g n cap : Nat) (N : Nat → Nat) (X : Nat → Itm) (w : World) (hn : n ≤ 1024)
    (k0 : w.cell? ⟨kb, 12, none⟩ = some (.slice (some ⟨g, 0, none⟩) n cap)) (k1 : w.cell? ⟨kb, 13, none⟩ = some (.map none)) (k2 : w.cell? ⟨kb, 14, none⟩ = some (.pointer none))
    (hg : ∀ i, i < n → w.cell? ⟨g, i, none⟩ = some (.pointer (some ⟨N i, 0, none⟩))) (hx : ∀ i, i < n → ItAt w (N i) (X i)) :
    Calls Yba.prog 11 #[.pointer (some ⟨kb, 0, none⟩)] w fun e w' => Below w.heap.size w w' ∧
      (((∀ j, j < n → okB mxu (X j) = false) ∧ e = .returned (.pointer none)) ∨
      (∃ i, i < n ∧ okB mxu (X i) = true ∧ (∀ j, j < i → okB mxu (X j) = false) ∧ e = .returned (.pointer (some ⟨N i, 0, none⟩)))) := by
  have kbl : kb < w.heap.size := World.block_lt_of_cell? _ _ k0
  have al : ∀ (a : Addr) (v : Value) (o : Obj), w.cell? a = some v → (w.alloc o).cell? a = some v := fun a v o h => by
    rw [World.cell?_alloc_lt _ _ _ (World.block_lt_of_cell? _ _ h)]; exact h
  have q0 := al _ _ (.cells #[.pointer none] 25) k0
  have q1 := al _ _ (.cells #[.pointer none] 25) k1
  have q2 := al _ _ (.cells #[.pointer none] 25) k2
  have qg : ∀ i, i < n → (w.alloc (.cells #[.pointer none] 25)).cell? ⟨g, i, none⟩ = some (.pointer (some ⟨N i, 0, none⟩)) := fun i hi => al _ _ _ (hg i hi)
  have qx : ∀ i, i < n → ItAt (w.alloc (.cells #[.pointer none] 25)) (N i) (X i) := fun i hi =>
    ⟨al _ _ _ (hx i hi).c0, al _ _ _ (hx i hi).c1, al _ _ _ (hx i hi).c2, al _ _ _ (hx i hi).c7, al _ _ _ (hx i hi).c8⟩
  have qn : ∀ i, i < n → N i ≠ w.heap.size := fun i hi => Nat.ne_of_lt (World.block_lt_of_cell? _ _ (hx i hi).c0)
  have E := each_list kb 12 g n cap w.heap.size N X 18446744073709551615 ⟨#[]⟩ ⟨#[]⟩ (.pointer none) (w.alloc (.cells #[.pointer none] 25)) hn q0 q1 q2 qg qx qn (by simp) (by simp)
  have HE : Hid (Calls Yba.prog 19 #[.pointer (some ⟨kb, 12, none⟩), rng ⟨#[]⟩ ⟨#[]⟩ true, .int .u64 18446744073709551615, .pointer none, .func (.func 20) #[] #[.pointer (some ⟨w.heap.size, 0, none⟩)]] (w.alloc (.cells #[.pointer none] 25)) _) := E
  clear E q0 q1 q2 qg qx qn al k0 k1 k2 hg hx
  go_enter Yba.func11, Yba.ntmps11
  go_wp2_with fail
  refine HE.out.mono ?_
  have B0 := (Below.refl w.heap.size w).alloc (Nat.le_refl _) (.cells #[.pointer none] 25)
  rintro e w' (⟨hno, rfl, hb⟩ | ⟨i, w1, hi, hok, hno, rfl, hb, rfl⟩)
  · have c := (hb.cell (p := ⟨w.heap.size, 0, none⟩) (by simp)).trans (show _ = some (.pointer none) by simp)
    have HNo : Hid (∀ j, j < n → okB mxu (X j) = false) := hno
    have hb' : Below w.heap.size w w' := B0.trans (hb.mono (by simp))
    clear hno hb
    go_wp2_with fail
    go_ret
    exact ⟨hb', Or.inl ⟨HNo.out, rfl⟩⟩
  · have c := (hb.cell (p := ⟨w.heap.size, 0, none⟩) (by simp)).trans (show _ = some (.pointer none) by simp)
    have c2 := World.cell?_setCell_same w1 ⟨w.heap.size, 0, none⟩ (.pointer (some ⟨N i, 0, none⟩)) c
    have HNo : Hid (okB mxu (X i) = true ∧ ∀ j, j < i → okB mxu (X j) = false) := ⟨hok, hno⟩
    have hb' : Below w.heap.size w (w1.setCell ⟨w.heap.size, 0, none⟩ (.pointer (some ⟨N i, 0, none⟩))) := (B0.trans (hb.mono (by simp))).setCell (Nat.le_refl _) _
    clear hno hb hok c
    go_wp2_with fail
    go_ret
    exact ⟨hb', Or.inr ⟨i, hi, HNo.out.1, HNo.out.2, rfl⟩⟩
end Go.Proofs.Ybulkdfqa
