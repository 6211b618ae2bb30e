/-
  WALK OF LawS5343BTree.
-/
import Derived.Test.YbulkdfqaC2
namespace Go.Proofs.Ybulkdfqa
open Go.RowKit
set_option linter.unusedVariables false
set_option linter.unusedSimpArgs false

def nodeAt (g j : Nat) : Nat := g + 2 + 2 * j

/-- THE STATE OF LawS5343BTree's LOOP, k NODES LINKED -/
structure TInv (w0 wr : World) (g n k : Nat) (X : Nat → Src) (t : Addr) : Prop where
  below : Below w0.heap.size w0 wr
  gle : w0.heap.size ≤ g
  top : wr.rowIs g 25 n (fun j => .pointer (some ⟨nodeAt g j, 0, none⟩))
  done : ∀ j, j < k → wr.heap[nodeAt g j]? = some (itmObj (X j) t (ptrAt n (nodeAt g) (j + 1)) (some ⟨nodeAt g j, 0, none⟩) (X j).seq)
  todo : ∀ j, k ≤ j → j < n → wr.heap[nodeAt g j]? = some (itmObj (X j) t none none 0)

theorem blk_set {w : World} {b o : Nat} {c : Array Value} {t : TypeId} {f : Nat × Nat} (v : Value) (h : w.heap[b]? = some (.cells c t f)) : (w.setCell ⟨b, o, none⟩ v).heap[b]? = some (.cells (c.setIfInBounds o v) t f) := by
  simp [World.setCell, Array.getElem?_modify, h]

theorem tinv_last {w0 wr : World} {g n k : Nat} {X : Nat → Src} {t : Addr} (h : TInv w0 wr g n k X t) (hk : k < n) (hl : ¬ k + 1 < n) :
    TInv w0 ((wr.setCell ⟨nodeAt g k, 5, none⟩ (.pointer (some ⟨nodeAt g k, 0, none⟩))).setCell ⟨nodeAt g k, 6, none⟩ (.int .u64 (X k).seq)) g n (k + 1) X t := by
  have hne : ∀ j, j ≠ k → nodeAt g j ≠ nodeAt g k := fun j hj => by unfold nodeAt; omega
  have hg : g ≠ nodeAt g k := by unfold nodeAt; omega
  have hB : w0.heap.size ≤ nodeAt g k := by have := h.gle; unfold nodeAt; omega
  refine ⟨(h.below.setCell hB _).setCell hB _, h.gle, (h.top.setOther hg _).setOther hg _, fun j hj => ?_, fun j hj hj' => ?_⟩
  · by_cases e : j = k
    · subst e
      have h0 := blk_set (o := 6) (.int .u64 (X j).seq) (blk_set (o := 5) (.pointer (some ⟨nodeAt g j, 0, none⟩)) (h.todo j (Nat.le_refl _) hk))
      rw [h0]
      have e : ptrAt n (nodeAt g) (j + 1) = none := by unfold ptrAt; rw [if_neg hl]
      rw [e]
      rfl
    · rw [Go.Deep.blk_setCell_other _ _ _ _ (hne j e), Go.Deep.blk_setCell_other _ _ _ _ (hne j e)]
      exact h.done j (by omega)
  · rw [Go.Deep.blk_setCell_other _ _ _ _ (hne j (by omega)), Go.Deep.blk_setCell_other _ _ _ _ (hne j (by omega))]
    exact h.todo j (by omega) hj'

theorem tinv_step {w0 wr : World} {g n k : Nat} {X : Nat → Src} {t : Addr} (h : TInv w0 wr g n k X t) (hk : k + 1 < n) :
    TInv w0 (((wr.setCell ⟨nodeAt g k, 5, none⟩ (.pointer (some ⟨nodeAt g k, 0, none⟩))).setCell ⟨nodeAt g k, 6, none⟩ (.int .u64 (X k).seq)).setCell ⟨nodeAt g k, 4, none⟩ (.pointer (some ⟨nodeAt g (k + 1), 0, none⟩))) g n (k + 1) X t := by
  have hne : ∀ j, j ≠ k → nodeAt g j ≠ nodeAt g k := fun j hj => by unfold nodeAt; omega
  have hg : g ≠ nodeAt g k := by unfold nodeAt; omega
  have hB : w0.heap.size ≤ nodeAt g k := by have := h.gle; unfold nodeAt; omega
  refine ⟨((h.below.setCell hB _).setCell hB _).setCell hB _, h.gle, ((h.top.setOther hg _).setOther hg _).setOther hg _, fun j hj => ?_, fun j hj hj' => ?_⟩
  · by_cases e : j = k
    · subst e
      have h0 := blk_set (o := 4) (.pointer (some ⟨nodeAt g (j + 1), 0, none⟩)) (blk_set (o := 6) (.int .u64 (X j).seq) (blk_set (o := 5) (.pointer (some ⟨nodeAt g j, 0, none⟩)) (h.todo j (Nat.le_refl _) (by omega))))
      rw [h0]
      have e : ptrAt n (nodeAt g) (j + 1) = some ⟨nodeAt g (j + 1), 0, none⟩ := by unfold ptrAt; rw [if_pos hk]
      rw [e]
      rfl
    · rw [Go.Deep.blk_setCell_other _ _ _ _ (hne j e), Go.Deep.blk_setCell_other _ _ _ _ (hne j e), Go.Deep.blk_setCell_other _ _ _ _ (hne j e)]
      exact h.done j (by omega)
  · rw [Go.Deep.blk_setCell_other _ _ _ _ (hne j (by omega)), Go.Deep.blk_setCell_other _ _ _ _ (hne j (by omega)), Go.Deep.blk_setCell_other _ _ _ _ (hne j (by omega))]
    exact h.todo j (by omega) hj'

theorem tinv_start {w0 W w' : World} {n : Nat} {X : Nat → Src} {t : Addr} (h : BInv W w' n n X t) (hb : Below w0.heap.size w0 W) : TInv w0 w' W.heap.size n 0 X t :=
  ⟨hb.trans (h.below.mono hb.size), hb.size, h.top.congr (fun j hj => by rw [if_pos hj]; rfl), fun j hj => absurd hj (Nat.not_lt_zero _), fun j _ hj => h.items j hj⟩

theorem nd_cells {w : World} {b : Nat} {x : Src} {t : Addr} {r l : Option Addr} {m : Int} (h : w.heap[b]? = some (itmObj x t r l m)) :
    (∀ o v, (#[.string x.lo, .string x.hi, .bool x.all, .pointer none, .pointer r, .pointer l, .int .u64 m, .int .u64 x.seq, .pointer (if x.has then some t else none), .int .u8 3, .int .u32 0, .pointer none] : Array Value)[o]? = some v → w.cell? ⟨b, o, none⟩ = some v) ∧ ∀ o, w.frozen? ⟨b, o, none⟩ = false := by
  unfold itmObj at h
  exact ⟨fun o v hv => by simp [World.cell?, h, hv], fun o => by simp [World.frozen?, h]⟩

theorem ndAt_of_block {w : World} {b : Nat} {x : Src} {t : Addr} {r : Option Addr} {m : Int} (h : w.heap[b]? = some (itmObj x t r (some ⟨b, 0, none⟩) m)) : NdAt w b (toItm x t) r m := by
  have hc := (nd_cells h).1
  exact ⟨hc 0 _ rfl, hc 1 _ rfl, hc 2 _ rfl, hc 3 _ rfl, hc 4 _ rfl, hc 5 _ rfl, hc 6 _ rfl, hc 7 _ rfl, hc 8 _ rfl⟩

set_option maxRecDepth 100000 in
set_option maxHeartbeats 1000000 in
theorem tree_small (a0 : Option Addr) (n cap0 : Nat) (X : Nat → Src) (w : World) (h0 : n ≤ 300) (i0 : IsItems w a0 n X) (hs : ∀ i, i < n → (X i).seq ≤ mxu) :
    Calls Yba.prog 6 #[.slice a0 n cap0] w fun e w' => e = .returned (.bool true) ∧ Below w.heap.size w w' := by
  have I0 : Hid (IsItems w a0 n X) := i0
  have HS : Hid (∀ i, i < n → (X i).seq ≤ mxu) := hs
  have B0 := hid (Below.refl w.heap.size w)
  clear i0 hs
  go_enter Yba.func6, Yba.ntmps6
  go_wp2_with fail
  refine (build_any a0 n cap0 X _ _ (by omega) (I0.out.later (B0.out.alloc (Nat.le_refl _) _))).mono ?_
  rintro e w2 ⟨rfl, hI⟩
  have HT := hid (tinv_start hI ((Below.refl w.heap.size w).alloc (Nat.le_refl _) _))
  clear hI
  rw [World.size_alloc] at HT
  rw [World.size_alloc]
  obtain ⟨g, hg⟩ : ∃ g, g = w.heap.size + 1 := ⟨_, rfl⟩
  rw [← hg] at HT ⊢
  have HG := hid hg
  clear hg
  go_wp2_with fail
  go_loopw [20] (fun i wr => ∃ k : Nat, k ≤ n ∧ i = .int .i64 k ∧ TInv w wr g n k X ⟨w.heap.size, 0, none⟩) (fun i _ => n - (intOf i).toNat)
  case atStart => exact ⟨0, Nat.zero_le _, rfl, HT.out⟩
  case round =>
    obtain ⟨k, hk, rfl, hI⟩ := hrel
    by_cases hlt : k < n
    · have hc := nd_cells (hI.todo k (Nat.le_refl _) hlt)
      have c0 : wr.cell? ⟨g, k, none⟩ = some (.pointer (some ⟨nodeAt g k, 0, none⟩)) := hI.top.cell hlt
      have c4 := hc.1 4 _ rfl
      have c5 := hc.1 5 _ rfl
      have c6 := hc.1 6 _ rfl
      have c7 := hc.1 7 _ rfl
      have f4 := hc.2 4
      have f5 := hc.2 5
      have f6 := hc.2 6
      have ne1 : g ≠ nodeAt g k := by unfold nodeAt; omega
      have ne2 := ne1.symm
      clear hc
      by_cases hl : k + 1 < n
      · have c1 : wr.cell? ⟨g, k + 1, none⟩ = some (.pointer (some ⟨nodeAt g (k + 1), 0, none⟩)) := hI.top.cell hl
        have HI := hid (tinv_step hI hl)
        clear hI
        go_wp2_with fail
        go_roundw
        case rel => exact ⟨k + 1, by omega, by go_num, HI.out⟩
        case measure => simp [intOf]; omega
      · have HI := hid (tinv_last hI hlt hl)
        clear hI
        go_wp2_with fail
        go_roundw
        case rel => exact ⟨k + 1, by omega, by go_num, HI.out⟩
        case measure => simp [intOf]; omega
    · have hkn : k = n := by omega
      subst hkn
      have HI := hid hI
      clear hI
      by_cases hz : 0 < k
      · have cz : ∀ o, (wr.alloc o).cell? ⟨g, 0, none⟩ = some (.pointer (some ⟨nodeAt g 0, 0, none⟩)) := fun o => (HI.out.top.alloc o).cell hz
        go_wp2_with fail
        go_region
        go_wp2_with fail
        refine (auto_tree wr.heap.size k (nodeAt g) (fun j => toItm (X j) ⟨w.heap.size, 0, none⟩) (fun j => (X j).seq) hz _ (by simp) (by simp) (fun j hj => ?_)).mono ?_
        · refine ndAt_of_block (t := ⟨w.heap.size, 0, none⟩) ?_
          exact (Go.Deep.blk_alloc_lt _ _ _ (Array.getElem?_eq_some_iff.1 (HI.out.done j hj)).1).trans (HI.out.done j hj)
        rintro e w4 ⟨hb4, hc4⟩
        have B4 : Hid (Below w.heap.size w w4) := (HI.out.below.alloc HI.out.below.size _).drew.trans (hb4.mono (by rw [World.size_drew, World.size_alloc]; have := HI.out.below.size; omega))
        have K4 : Hid (w4.rowIs g 25 k (fun j => .pointer (some ⟨nodeAt g j, 0, none⟩))) :=
          ((HI.out.top.alloc _).drew).of_block (hb4.block _ (by rw [World.size_drew, World.size_alloc]; have := HI.out.top.lt; omega))
        clear hb4
        rcases hc4 with ⟨hno, rfl⟩ | ⟨i, hi, hok, hno, rfl⟩
        · have HNo : Hid (∀ j, j < k → srcOk (X j) = false) := fun j hj => by rw [← ok_same _ (HS.out j hj)]; exact hno j hj
          clear hno
          go_wp2_with fail
          refine (expect_any a0 k cap0 X _ (by omega) (I0.out.later B4.out)).mono ?_
          rintro e w5 ⟨hb5, hc5⟩
          have B5 : Hid (Below w.heap.size w w5) := B4.out.trans (hb5.mono B4.out.size)
          clear hb5
          rcases hc5 with ⟨_, rfl⟩ | ⟨i, hi, hok, _, _⟩
          · go_wp2_with fail
            go_ret
            exact ⟨rfl, B5.out⟩
          · rw [HNo.out i hi] at hok; cases hok
        · have HNo : Hid (srcOk (X i) = true ∧ ∀ j, j < i → srcOk (X j) = false) := ⟨by rw [← ok_same _ (HS.out i hi)]; exact hok, fun j hj => by rw [← ok_same _ (HS.out j (by omega))]; exact hno j hj⟩
          clear hno hok
          go_wp2_with fail
          refine (expect_any a0 k cap0 X _ (by omega) (I0.out.later B4.out)).mono ?_
          rintro e w5 ⟨hb5, hc5⟩
          have B5 : Hid (Below w.heap.size w w5) := B4.out.trans (hb5.mono B4.out.size)
          have c5 : w5.cell? ⟨g, i, none⟩ = some (.pointer (some ⟨nodeAt g i, 0, none⟩)) := (K4.out.of_block (hb5.block _ K4.out.lt)).cell hi
          clear hb5
          rcases hc5 with ⟨hn, rfl⟩ | ⟨i', hi', hok', hno', rfl⟩
          · rw [hn i hi] at HNo; cases HNo.out.1
          · have e : i' = i := by
              rcases Nat.lt_trichotomy i' i with h | h | h
              · rw [HNo.out.2 i' h] at hok'; cases hok'
              · exact h
              · have h2 := HNo.out.1; rw [hno' i h] at h2; cases h2
            subst e
            clear hok' hno' hi'
            have heq := eqP25
            go_wp2_with fail
            go_ret
            exact ⟨rfl, B5.out⟩
      · have hk0 : k = 0 := by omega
        subst hk0
        go_wp2_with fail
        refine (auto_empty wr.heap.size (nodeAt g) (fun j => toItm (X j) ⟨w.heap.size, 0, none⟩) _ (by simp) (by simp) (by simp)).mono ?_
        rintro e w4 ⟨hb4, hc4⟩
        have B4 : Hid (Below w.heap.size w w4) := (HI.out.below.alloc HI.out.below.size _).trans (hb4.mono (by rw [World.size_alloc]; have := HI.out.below.size; omega))
        have K4 : Hid (w4.rowIs g 25 0 (fun j => .pointer (some ⟨nodeAt g j, 0, none⟩))) :=
          (HI.out.top.alloc _).of_block (hb4.block _ (by rw [World.size_alloc]; have := HI.out.top.lt; omega))
        clear hb4
        rcases hc4 with ⟨hno, rfl⟩ | ⟨i, hi, hok, hno, rfl⟩
        · have HNo : Hid (∀ j, j < 0 → srcOk (X j) = false) := fun j hj => by rw [← ok_same _ (HS.out j hj)]; exact hno j hj
          clear hno
          go_wp2_with fail
          refine (expect_any a0 0 cap0 X _ (by omega) (I0.out.later B4.out)).mono ?_
          rintro e w5 ⟨hb5, hc5⟩
          have B5 : Hid (Below w.heap.size w w5) := B4.out.trans (hb5.mono B4.out.size)
          clear hb5
          rcases hc5 with ⟨_, rfl⟩ | ⟨i, hi, hok, _, _⟩
          · go_wp2_with fail
            go_ret
            exact ⟨rfl, B5.out⟩
          · rw [HNo.out i hi] at hok; cases hok
        · exact absurd hi (Nat.not_lt_zero _)

set_option maxRecDepth 100000 in
set_option maxHeartbeats 1000000 in
theorem tree_any (a0 : Option Addr) (n cap0 : Nat) (X : Nat → Src) (w : World) (i0 : IsItems w a0 n X) (hs : ∀ i, i < n → (X i).seq ≤ mxu) :
    Calls Yba.prog 6 #[.slice a0 n cap0] w fun e w' => e = .returned (.bool true) ∧ Below w.heap.size w w' := by
  by_cases h0 : n ≤ 300
  · exact tree_small a0 n cap0 X w h0 i0 hs
  · have g0 : (300 : Int) < (n : Int) := by omega
    clear i0 hs
    go_enter Yba.func6, Yba.ntmps6
    go_wp2_with fail
    go_ret
    exact ⟨rfl, Below.refl _ _⟩
end Go.Proofs.Ybulkdfqa
