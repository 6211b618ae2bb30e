/-
  WALK OF LawS5343BList.
-/
import Derived.Test.YbulkdfqaB5
import Derived.LaidEqlPtr
namespace Go.Proofs.Ybulkdfqa
open Go.RowKit
set_option linter.unusedVariables false
set_option linter.unusedSimpArgs false

theorem IsItems.later {w w' : World} {a : Option Addr} {n : Nat} {X : Nat → Src} (h : IsItems w a n X) (hb : Below w.heap.size w w') : IsItems w' a n X := by
  rcases h with h | ⟨b, off, rfl, hc⟩
  · exact Or.inl h
  · refine Or.inr ⟨b, off, rfl, fun i hi => ?_⟩
    obtain ⟨c0, c1, c2, c3, c4⟩ := hc i hi
    have hbl : b < w.heap.size := World.block_lt_of_cell? _ _ c0
    exact ⟨(hb.cell (p := ⟨b, _, none⟩) hbl).trans c0, (hb.cell (p := ⟨b, _, none⟩) hbl).trans c1, (hb.cell (p := ⟨b, _, none⟩) hbl).trans c2, (hb.cell (p := ⟨b, _, none⟩) hbl).trans c3, (hb.cell (p := ⟨b, _, none⟩) hbl).trans c4⟩

theorem eqP25 (a : Addr) (w : World) : (binOp .eql 25 (.pointer (some a)) (.pointer (some a))).run Yba.prog w = .ok (.bool true) w := by
  have h : (Yba.prog.info? 35).isSome = true := by kernel_rfl
  obtain ⟨j, hj⟩ := Option.isSome_iff_exists.1 h
  exact run_eql_ptr_same w a Yba.underlying25 hj

def toItm (x : Src) (t : Addr) : Itm := ⟨x.lo, x.hi, x.all, x.seq, if x.has then some t else none⟩

theorem itAt_of_block {w : World} {b : Nat} {x : Src} {t : Addr} {r l : Option Addr} {m : Int} (h : w.heap[b]? = some (itmObj x t r l m)) : ItAt w b (toItm x t) := by
  unfold itmObj at h
  constructor <;> simp [World.cell?, h, toItm]

theorem ok_same {x : Src} (t : Addr) (h : x.seq ≤ mxu) : okB mxu (toItm x t) = srcOk x := by
  have e1 : decide (x.seq < mxu) = (x.seq != mxu) := by
    by_cases e : x.seq = mxu
    · simp [e]
    · have : x.seq < mxu := by omega
      simp [e, this]
  show (decide (x.seq < mxu) && (if x.has then some t else none).isSome && (x.all || leB x.lo x.hi)) = _
  rw [e1]
  unfold srcOk
  cases x.has <;> simp

set_option maxRecDepth 100000 in
set_option maxHeartbeats 1000000 in
theorem list_small (a0 a1 : Option Addr) (n0 cap0 n1 cap1 : Nat) (X0 X1 : Nat → Src) (w : World) (h0 : n0 ≤ 1024) (h1 : n1 ≤ 1024) (i0 : IsItems w a0 n0 X0) (i1 : IsItems w a1 n1 X1)
    (hs : ∀ i, i < n0 → (X0 i).seq ≤ mxu) :
    Calls Yba.prog 5 #[.slice a0 n0 cap0, .slice a1 n1 cap1] w fun e w' => e = .returned (.bool true) ∧ Below w.heap.size w w' := by
  go_enter Yba.func5, Yba.ntmps5
  go_wp2_with fail
  refine (auto_nil _).mono ?_
  rintro e w1 ⟨rfl, hb1⟩
  have B1 : Hid (Below w.heap.size w w1) := hb1
  have I0 : Hid (IsItems w a0 n0 X0) := i0
  have I1 : Hid (IsItems w a1 n1 X1) := i1
  have HS : Hid (∀ i, i < n0 → (X0 i).seq ≤ mxu) := hs
  clear hb1 i0 i1 hs
  go_wp2_with fail
  refine (build_any a0 n0 cap0 X0 _ _ h0 (I0.out.later (B1.out.alloc B1.out.size _))).mono ?_
  rintro e w2 ⟨rfl, hI⟩
  have B2 : Hid (Below w.heap.size w w2) := (B1.out.alloc B1.out.size _).trans (hI.below.mono (by have := B1.out.size; rw [World.size_alloc]; omega))
  obtain ⟨g, hg⟩ : ∃ g, g = (w1.heap.size + 1) := ⟨_, rfl⟩
  have K2 : Hid ((w2.rowIs (w1.heap.size + 1) 25 n0 (fun j => if j < n0 then .pointer (some ⟨w1.heap.size + 1 + 2 + 2 * j, 0, none⟩) else .pointer none)) ∧ ∀ j, j < n0 → w2.heap[w1.heap.size + 1 + 2 + 2 * j]? = some (itmObj (X0 j) ⟨w1.heap.size, 0, none⟩ none none 0)) := by
    have e : (w1.alloc (Obj.cells
        #[Value.pointer none, Value.int IntKind.u64 0, Value.int IntKind.u8 0, Value.bool false,
          Value.int IntKind.i32 0, Value.int IntKind.u32 0, Value.slice none 0 0, Value.slice none 0 0,
          Value.slice none 0 0, Value.pointer none, Value.bool false, Value.bool false, Value.int IntKind.u64 0,
          Value.pointer none, Value.int IntKind.u8 0, Value.pointer none, Value.int IntKind.u8 0, Value.pointer none,
          Value.int IntKind.u8 0, Value.slice none 0 0, Value.pointer none, Value.pointer none, Value.pointer none,
          Value.pointer none]
        72)).heap.size = w1.heap.size + 1 := World.size_alloc _ _
    have t1 := hI.top
    have t2 := hI.items
    rw [e] at t1 t2
    exact ⟨t1, t2⟩
  clear hI hg g
  go_wp2_with fail
  refine (build_any a1 n1 cap1 X1 _ _ h1 (I1.out.later B2.out)).mono ?_
  rintro e w3 ⟨rfl, hJ⟩
  have B3 : Hid (Below w.heap.size w w3) := B2.out.trans (hJ.below.mono B2.out.size)
  have K3 : Hid ((w3.rowIs (w1.heap.size + 1) 25 n0 (fun j => if j < n0 then .pointer (some ⟨w1.heap.size + 1 + 2 + 2 * j, 0, none⟩) else .pointer none)) ∧ ∀ j, j < n0 → w3.heap[w1.heap.size + 1 + 2 + 2 * j]? = some (itmObj (X0 j) ⟨w1.heap.size, 0, none⟩ none none 0)) :=
    ⟨K2.out.1.of_block (hJ.below.block _ K2.out.1.lt), fun j hj => (hJ.below.block _ (Array.getElem?_eq_some_iff.1 (K2.out.2 j hj)).1).trans (K2.out.2 j hj)⟩
  clear hJ
  go_wp2_with fail
  refine (auto_list w3.heap.size (w1.heap.size + 1) n0 n0 (fun j => w1.heap.size + 1 + 2 + 2 * j) (fun j => toItm (X0 j) ⟨w1.heap.size, 0, none⟩) _ h0 (by simp) (by simp) (by simp) (fun i hi => ?_) (fun i hi => ?_)).mono ?_
  · have hc := (K3.out.1.alloc (.cells #[] 0)).cell hi
    rw [World.cell?_alloc_lt _ _ _ K3.out.1.lt]
    have := K3.out.1.cell hi
    rw [if_pos hi] at this
    exact this
  · refine itAt_of_block ((Go.Deep.blk_alloc_lt _ _ _ (Array.getElem?_eq_some_iff.1 (K3.out.2 i hi)).1).trans (K3.out.2 i hi))
  rintro e w4 ⟨hb4, hc4⟩
  have B4 : Hid (Below w.heap.size w w4) := (B3.out.alloc B3.out.size _).trans (hb4.mono (by rw [World.size_alloc]; have := B3.out.size; omega))
  have K4 : Hid (w4.rowIs (w1.heap.size + 1) 25 n0 (fun j => if j < n0 then .pointer (some ⟨w1.heap.size + 1 + 2 + 2 * j, 0, none⟩) else .pointer none)) :=
    (K3.out.1.alloc _).of_block (hb4.block _ (by rw [World.size_alloc]; have := K3.out.1.lt; omega))
  clear hb4 
  rcases hc4 with ⟨hno, rfl⟩ | ⟨i, hi, hok, hno, rfl⟩
  · have HNo : Hid (∀ j, j < n0 → srcOk (X0 j) = false) := fun j hj => by rw [← ok_same _ (HS.out j hj)]; exact hno j hj
    clear hno
    go_wp2_with fail
    refine (expect_any a0 n0 cap0 X0 _ h0 (I0.out.later B4.out)).mono ?_
    rintro e w5 ⟨hb5, hc5⟩
    have B5 : Hid (Below w.heap.size w w5) := B4.out.trans (hb5.mono B4.out.size)
    clear hb5
    rcases hc5 with ⟨_, rfl⟩ | ⟨i, hi, hok, _, _⟩
    · go_wp2_with fail
      go_ret
      exact ⟨rfl, B5.out⟩
    · rw [HNo.out i hi] at hok; cases hok
  · have HNo : Hid (srcOk (X0 i) = true ∧ ∀ j, j < i → srcOk (X0 j) = false) := ⟨by rw [← ok_same _ (HS.out i hi)]; exact hok, fun j hj => by rw [← ok_same _ (HS.out j (by omega))]; exact hno j hj⟩
    clear hno hok
    go_wp2_with fail
    refine (expect_any a0 n0 cap0 X0 _ h0 (I0.out.later B4.out)).mono ?_
    rintro e w5 ⟨hb5, hc5⟩
    have B5 : Hid (Below w.heap.size w w5) := B4.out.trans (hb5.mono B4.out.size)
    have c5 : w5.cell? ⟨w1.heap.size + 1, i, none⟩ = some (.pointer (some ⟨w1.heap.size + 1 + 2 + 2 * i, 0, none⟩)) := by
      have := (K4.out.of_block (hb5.block _ K4.out.lt)).cell hi
      rw [if_pos hi] at this
      exact this
    clear hb5
    rcases hc5 with ⟨hn, rfl⟩ | ⟨i', hi', hok', hno', rfl⟩
    · rw [hn i hi] at HNo; cases HNo.out.1
    · have e : i' = i := by
        rcases Nat.lt_trichotomy i' i with h | h | h
        · rw [HNo.out.2 i' h] at hok'; cases hok'
        · exact h
        · have h2 := HNo.out.1; rw [hno' i h] at h2; cases h2
      subst e
      clear hok' hno' hi'
      have heq := eqP25
      go_wp2_with fail
      go_ret
      exact ⟨rfl, B5.out⟩
set_option maxRecDepth 100000 in
set_option maxHeartbeats 1000000 in
theorem list_any (a0 a1 : Option Addr) (n0 cap0 n1 cap1 : Nat) (X0 X1 : Nat → Src) (w : World) (i0 : IsItems w a0 n0 X0) (i1 : IsItems w a1 n1 X1)
    (hs : ∀ i, i < n0 → (X0 i).seq ≤ mxu) :
    Calls Yba.prog 5 #[.slice a0 n0 cap0, .slice a1 n1 cap1] w fun e w' => e = .returned (.bool true) ∧ Below w.heap.size w w' := by
  by_cases h0 : n0 ≤ 1024
  · by_cases h1 : n1 ≤ 1024
    · exact list_small a0 a1 n0 cap0 n1 cap1 X0 X1 w h0 h1 i0 i1 hs
    · have g0 : (n0 : Int) ≤ 1024 := by omega
      have g1 : (1024 : Int) < (n1 : Int) := by omega
      clear i0 i1 hs
      go_enter Yba.func5, Yba.ntmps5
      go_wp2_with fail
      go_ret
      exact ⟨rfl, Below.refl _ _⟩
  · have g0 : (1024 : Int) < (n0 : Int) := by omega
    clear i0 i1 hs
    go_enter Yba.func5, Yba.ntmps5
    go_wp2_with fail
    go_ret
    exact ⟨rfl, Below.refl _ _⟩
end Go.Proofs.Ybulkdfqa
