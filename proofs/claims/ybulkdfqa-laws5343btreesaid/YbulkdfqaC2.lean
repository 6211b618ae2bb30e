/-
  WALKS OF (*keySet).each AND autoIncrement OVER A CHAIN, AND OVER AN EMPTY SET.
-/
import Derived.Test.YbulkdfqaC1
namespace Go.Proofs.Ybulkdfqa
open Go.RowKit
set_option linter.unusedVariables false
set_option linter.unusedSimpArgs false

theorem EachPost.weaken {n i hb : Nat} {N : Nat → Nat} {X : Nat → Itm} {w0 w w' : World} {r : Bool} (h : EachPost n i hb N X w r w') (hb0 : Below w0.heap.size w0 w) : EachPost n i hb N X w0 r w' := by
  rcases h with ⟨h1, h2, h3⟩ | ⟨h1, j, w1, h2, h3, h4, h5, h6, h7⟩
  · exact Or.inl ⟨h1, h2, hb0.trans (h3.mono hb0.size)⟩
  · exact Or.inr ⟨h1, j, w1, h2, h3, h4, h5, hb0.trans (h6.mono hb0.size), h7⟩

set_option maxHeartbeats 400000 in
theorem listed_tree (b o : Nat) (w : World) (r : Addr) (h2 : w.cell? ⟨b, o + 2, none⟩ = some (.pointer (some r))) :
    Calls Yba.prog 25 #[.pointer (some ⟨b, o, none⟩)] w fun e w' => e = .returned (.bool false) ∧ w' = w := by
  go_enter Yba.func25, Yba.ntmps25
  go_wp2
  go_ret
  exact ⟨rfl, rfl⟩

set_option maxHeartbeats 1000000 in
set_option maxRecDepth 100000 in
theorem each_tree (kb ko n hb : Nat) (N : Nat → Nat) (X : Nat → Itm) (MS : Nat → Int) (l2 h2 : ByteArray) (v0 : Value) (hne : ∀ j, j < n → N j ≠ hb) (hn : 0 < n) (w : World)
    (k2 : w.cell? ⟨kb, ko + 2, none⟩ = some (.pointer (some ⟨N 0, 0, none⟩))) (k3 : w.cell? ⟨kb, ko + 3, none⟩ = some (.bool false))
    (hnd : ∀ j, j < n → NdAt w (N j) (X j) (ptrAt n N (j + 1)) (MS j)) (hv : w.cell? ⟨hb, 0, none⟩ = some v0) (hf : w.frozen? ⟨hb, 0, none⟩ = false) :
    Calls Yba.prog 19 #[.pointer (some ⟨kb, ko, none⟩), rng l2 h2 true, .int .u64 18446744073709551615, .pointer none, .func (.func 20) #[] #[.pointer (some ⟨hb, 0, none⟩)]] w fun e w' =>
      ∃ r : Bool, e = .returned (.bool r) ∧ EachPost n 0 hb N X w r w' := by
  unfold rng
  have kbl : kb < w.heap.size := World.block_lt_of_cell? _ _ k2
  have al : ∀ (a : Addr) (v : Value) (o : Obj), w.cell? a = some v → (w.alloc o).cell? a = some v := fun a v o h => by
    rw [World.cell?_alloc_lt _ _ _ (World.block_lt_of_cell? _ _ h)]; exact h
  have q2 := fun o => al _ _ o k2
  have q3 := fun o => al _ _ o k3
  have hb0 := (Below.refl w.heap.size w).alloc (Nat.le_refl _) (.cells #[.string l2, .string h2, .bool true] 29)
  have E := each_chain n hb N X MS l2 h2 v0 hne n 0 (by omega) (w.alloc (.cells #[.string l2, .string h2, .bool true] 29)).drew (fun j _ hj => by
    have h := hnd j hj
    exact ⟨al _ _ _ h.c0, al _ _ _ h.c1, al _ _ _ h.c2, al _ _ _ h.c3, al _ _ _ h.c4, al _ _ _ h.c5, al _ _ _ h.c6, al _ _ _ h.c7, al _ _ _ h.c8⟩) (al _ _ _ hv)
    ((World.frozen?_alloc_old _ _ _ (Nat.ne_of_lt (World.block_lt_of_cell? _ _ hv))).trans hf)
  have e0 : ptrAt n N 0 = some ⟨N 0, 0, none⟩ := by unfold ptrAt; rw [if_pos hn]
  rw [e0] at E
  have HE := hid E
  clear E e0 al hnd hv hf hne k2 k3
  go_enter Yba.func19, Yba.ntmps19
  go_wp2_with (go_at_call 25; refine (listed_tree kb ko _ ⟨N 0, 0, none⟩ (q2 _)).mono ?_; rintro e w' ⟨rfl, rfl⟩)
  (first | go_region_with (first | (go_at_call 28; refine HE.out.mono ?_; rintro e w' ⟨r, rfl, hr⟩)) | fail)
  all_goals
    go_wp2_with fail
    go_ret
    refine ⟨_, rfl, EachPost.weaken ‹_› hb0.drew⟩

set_option maxHeartbeats 1000000 in
set_option maxRecDepth 100000 in
theorem each_empty (kb ko : Nat) (l2 h2 : ByteArray) (f : Value) (w : World)
    (k0 : w.cell? ⟨kb, ko, none⟩ = some (.slice none 0 0)) (k1 : w.cell? ⟨kb, ko + 1, none⟩ = some (.map none)) (k2 : w.cell? ⟨kb, ko + 2, none⟩ = some (.pointer none)) :
    Calls Yba.prog 19 #[.pointer (some ⟨kb, ko, none⟩), rng l2 h2 true, .int .u64 18446744073709551615, .pointer none, f] w fun e w' => e = .returned (.bool false) ∧ Below w.heap.size w w' := by
  unfold rng
  have al : ∀ (a : Addr) (v : Value) (o : Obj), w.cell? a = some v → (w.alloc o).cell? a = some v := fun a v o h => by
    rw [World.cell?_alloc_lt _ _ _ (World.block_lt_of_cell? _ _ h)]; exact h
  have q0 := fun o => al _ _ o k0
  have q1 := fun o => al _ _ o k1
  have q2 := fun o => al _ _ o k2
  have hb0 := (Below.refl w.heap.size w).alloc (Nat.le_refl _) (.cells #[.string l2, .string h2, .bool true] 29)
  clear al
  go_enter Yba.func19, Yba.ntmps19
  go_wp2_with (go_at_call 25; refine (listed_list kb ko _ (q1 _) (q2 _)).mono ?_; rintro e w' ⟨rfl, rfl⟩)
  refine wp_loop_rounds 1 ?_
  rw [rounds_succ]
  go_wp2_with fail
  go_ret
  exact ⟨rfl, hb0⟩

/-- what autoIncrement leaves: the address of the first item that is met, or nil -/
def AutoPost (n : Nat) (N : Nat → Nat) (X : Nat → Itm) (e : Ending) : Prop :=
  ((∀ j, j < n → okB mxu (X j) = false) ∧ e = .returned (.pointer none)) ∨
  (∃ i, i < n ∧ okB mxu (X i) = true ∧ (∀ j, j < i → okB mxu (X j) = false) ∧ e = .returned (.pointer (some ⟨N i, 0, none⟩)))

set_option maxHeartbeats 1000000 in
theorem auto_empty (kb : Nat) (N : Nat → Nat) (X : Nat → Itm) (w : World)
    (k0 : w.cell? ⟨kb, 12, none⟩ = some (.slice none 0 0)) (k1 : w.cell? ⟨kb, 13, none⟩ = some (.map none)) (k2 : w.cell? ⟨kb, 14, none⟩ = some (.pointer none)) :
    Calls Yba.prog 11 #[.pointer (some ⟨kb, 0, none⟩)] w fun e w' => Below w.heap.size w w' ∧ AutoPost 0 N X e := by
  have al : ∀ (a : Addr) (v : Value) (o : Obj), w.cell? a = some v → (w.alloc o).cell? a = some v := fun a v o h => by
    rw [World.cell?_alloc_lt _ _ _ (World.block_lt_of_cell? _ _ h)]; exact h
  have HE := hid (each_empty kb 12 ⟨#[]⟩ ⟨#[]⟩ (.func (.func 20) #[] #[.pointer (some ⟨w.heap.size, 0, none⟩)]) (w.alloc (.cells #[.pointer none] 25)) (al _ _ _ k0) (al _ _ _ k1) (al _ _ _ k2))
  clear al k0 k1 k2
  go_enter Yba.func11, Yba.ntmps11
  go_wp2_with fail
  refine HE.out.mono ?_
  rintro e w' ⟨rfl, hb⟩
  have c := (hb.cell (p := ⟨w.heap.size, 0, none⟩) (by simp)).trans (show _ = some (.pointer none) by simp)
  have hb' : Below w.heap.size w w' := ((Below.refl w.heap.size w).alloc (Nat.le_refl _) (.cells #[.pointer none] 25)).trans (hb.mono (by simp))
  clear hb
  go_wp2_with fail
  go_ret
  exact ⟨hb', Or.inl ⟨fun j hj => absurd hj (Nat.not_lt_zero _), rfl⟩⟩

set_option maxHeartbeats 1000000 in
theorem auto_tree (kb n : Nat) (N : Nat → Nat) (X : Nat → Itm) (MS : Nat → Int) (hn : 0 < n) (w : World)
    (k2 : w.cell? ⟨kb, 14, none⟩ = some (.pointer (some ⟨N 0, 0, none⟩))) (k3 : w.cell? ⟨kb, 15, none⟩ = some (.bool false))
    (hnd : ∀ j, j < n → NdAt w (N j) (X j) (ptrAt n N (j + 1)) (MS j)) :
    Calls Yba.prog 11 #[.pointer (some ⟨kb, 0, none⟩)] w fun e w' => Below w.heap.size w w' ∧ AutoPost n N X e := by
  have al : ∀ (a : Addr) (v : Value) (o : Obj), w.cell? a = some v → (w.alloc o).cell? a = some v := fun a v o h => by
    rw [World.cell?_alloc_lt _ _ _ (World.block_lt_of_cell? _ _ h)]; exact h
  have HE := hid (each_tree kb 12 n w.heap.size N X MS ⟨#[]⟩ ⟨#[]⟩ (.pointer none) (fun j hj => Nat.ne_of_lt (World.block_lt_of_cell? _ _ (hnd j hj).c0)) hn (w.alloc (.cells #[.pointer none] 25))
    (al _ _ _ k2) (al _ _ _ k3) (fun j hj => by
      have h := hnd j hj
      exact ⟨al _ _ _ h.c0, al _ _ _ h.c1, al _ _ _ h.c2, al _ _ _ h.c3, al _ _ _ h.c4, al _ _ _ h.c5, al _ _ _ h.c6, al _ _ _ h.c7, al _ _ _ h.c8⟩) (by simp) (by simp))
  clear al k2 k3 hnd
  go_enter Yba.func11, Yba.ntmps11
  go_wp2_with fail
  refine HE.out.mono ?_
  have B0 := (Below.refl w.heap.size w).alloc (Nat.le_refl _) (.cells #[.pointer none] 25)
  rintro e w' ⟨r, rfl, (⟨_, hno, hb⟩ | ⟨_, i, w1, _, hi, hok, hno, hb, rfl⟩)⟩
  · have c := (hb.cell (p := ⟨w.heap.size, 0, none⟩) (by simp)).trans (show _ = some (.pointer none) by simp)
    have HNo : Hid (∀ j, j < n → okB mxu (X j) = false) := fun j hj => hno j (Nat.zero_le _) hj
    have hb' : Below w.heap.size w w' := B0.trans (hb.mono (by simp))
    clear hno hb
    go_wp2_with fail
    go_ret
    exact ⟨hb', Or.inl ⟨HNo.out, rfl⟩⟩
  · have c := (hb.cell (p := ⟨w.heap.size, 0, none⟩) (by simp)).trans (show _ = some (.pointer none) by simp)
    have c2 := World.cell?_setCell_same w1 ⟨w.heap.size, 0, none⟩ (.pointer (some ⟨N i, 0, none⟩)) c
    have HNo : Hid (okB mxu (X i) = true ∧ ∀ j, j < i → okB mxu (X j) = false) := ⟨hok, fun j hj => hno j (Nat.zero_le _) hj⟩
    have hb' : Below w.heap.size w (w1.setCell ⟨w.heap.size, 0, none⟩ (.pointer (some ⟨N i, 0, none⟩))) := (B0.trans (hb.mono (by simp))).setCell (Nat.le_refl _) _
    clear hno hb hok c
    go_wp2_with fail
    go_ret
    exact ⟨hb', Or.inr ⟨i, hi, HNo.out.1, HNo.out.2, rfl⟩⟩
end Go.Proofs.Ybulkdfqa
