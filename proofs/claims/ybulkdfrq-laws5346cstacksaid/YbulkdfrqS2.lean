/-
  LawS5346CStack: THE STATE OF ITS LOOP, AND ITS STEPS.
-/
import Derived.Test.YbulkdfrqS1
namespace Go.Proofs.Ybulkdfrq
open Go.RowKit
set_option linter.unusedVariables false
set_option linter.unusedSimpArgs false

def ptr (x : Nat × Int) : Value := .pointer (some ⟨x.1, 0, none⟩)
def num (z : Int) : Value := .int .i64 z

/-- THE HEAP HOLDS READERS OF THE ITEMS xs (block, number), THE MODEL THE NUMBERS ms -/
structure SInv (w wx : World) (n : Nat) (ao : Option Addr) (cap : Nat) (xs : List (Nat × Int)) (ms : List Int) : Prop where
  below : Below w.heap.size w wx
  big : w.heap.size + 2 ≤ wx.heap.size
  head : wx.heap[w.heap.size]? = some (.cells #[.slice ao xs.length cap, .nilFunc] 39 (0, 0))
  own : wx.ownsRow (w.heap.size + 2) 30 1 (.slice ao xs.length cap) xs.length (xs.map ptr)
  model : wx.ownsRow (w.heap.size + 1) 3 1 (.slice (some ⟨w.heap.size + 1, 0, none⟩) ms.length n) ms.length (ms.map num)
  nodes : ∀ x ∈ xs, w.heap.size + 2 ≤ x.1 ∧ wx.heap[x.1]? = some (rdObj x.2)

theorem getElem?_lt {w : World} {k : Nat} {o : Obj} (h : w.heap[k]? = some o) : k < w.heap.size := (Array.getElem?_eq_some_iff.1 h).1

theorem ownsRow_of_block {w w' : World} {base e size n : Nat} {v : Value} {xs : List Value} (h : w.ownsRow base e size v n xs) (hb : ∀ k, v.ownBlock = some k → w'.heap[k]? = w.heap[k]?) : w'.ownsRow base e size v n xs := by
  refine ⟨h.1, ?_⟩
  rcases h.2 with hn | ⟨g, cap, cur, rfl, hb', hgg, rest⟩
  · exact .inl hn
  · exact .inr ⟨g, cap, cur, rfl, hb', (hb g rfl).trans hgg, rest⟩

theorem ownsRow_pop {w : World} {base e n cap : Nat} {ao : Option Addr} {xs : List Value} {x : Value} (h : w.ownsRow base e 1 (.slice ao (n + 1) cap) (n + 1) (xs ++ [x])) : w.ownsRow base e 1 (.slice ao n cap) n xs := by
  have hl : xs.length = n := by have := h.1; simp at this; omega
  refine ⟨by omega, ?_⟩
  rcases h.2 with ⟨_, hn⟩ | ⟨g, cap', cur, hv, hb', hgg, h1, h2, h3, h4⟩
  · omega
  · cases hv
    refine .inr ⟨g, cap, cur, rfl, hb', hgg, by omega, h2, h3, ?_⟩
    have : (cur.toList.take ((n + 1) * 1)).take (n * 1) = (xs ++ [x]).take (n * 1) := by rw [h4]
    rw [List.take_take] at this
    rw [Nat.min_eq_left (by omega)] at this
    rw [this]
    simp [← hl]

theorem SInv.step {w wx wy : World} {n cap : Nat} {ao : Option Addr} {xs : List (Nat × Int)} {ms : List Int} (h : SInv w wx n ao cap xs ms) (hb : ∀ k, k < wx.heap.size → wy.heap[k]? = wx.heap[k]?) (hB : Below wx.heap.size wx wy) : SInv w wy n ao cap xs ms :=
  ⟨h.below.trans ⟨hB.os, hB.tape, hB.output, hB.size, fun k hk => hB.block k (by have := h.big; omega)⟩, Nat.le_trans h.big hB.size, (hb _ (getElem?_lt h.head)).trans h.head,
    ownsRow_of_block h.own (fun k hk => hb k (h.own.lt k hk).2), ownsRow_of_block h.model (fun k hk => hb k (h.model.lt k hk).2), fun x hx => ⟨(h.nodes x hx).1, (hb _ (getElem?_lt (h.nodes x hx).2)).trans (h.nodes x hx).2⟩⟩

theorem SInv.alloc {w wx : World} {n cap : Nat} {ao : Option Addr} {xs : List (Nat × Int)} {ms : List Int} (h : SInv w wx n ao cap xs ms) (o : Obj) : SInv w (wx.alloc o) n ao cap xs ms :=
  h.step (fun k hk => Go.Deep.blk_alloc_lt _ _ _ hk) ((Below.refl _ _).alloc (Nat.le_refl _) _)

theorem SInv.drewN {w wx : World} {n cap : Nat} {ao : Option Addr} {xs : List (Nat × Int)} {ms : List Int} (h : SInv w wx n ao cap xs ms) (m : Nat) : SInv w (wx.drewN m) n ao cap xs ms :=
  ⟨⟨h.below.os, h.below.tape, h.below.output, h.below.size, h.below.block⟩, h.big, h.head, h.own, h.model, h.nodes⟩

theorem SInv.lens {w wx : World} {n cap : Nat} {ao : Option Addr} {xs : List (Nat × Int)} {ms : List Int} (h : SInv w wx n ao cap xs ms) : ms.length ≤ n := by
  rcases h.model.2 with ⟨hv, _⟩ | ⟨g, c, cur, hv, _, _, h1, _⟩
  · cases hv
  · cases hv; exact h1

theorem sinv_push {w wx wp : World} {n cap g cap' : Nat} {ao : Option Addr} {xs : List (Nat × Int)} {ms : List Int} {z : Int} (h : SInv w wx n ao cap xs ms)
    (h1 : wp.ownsRow (w.heap.size + 2) 30 1 (.slice (some ⟨g, 0, none⟩) (xs.length + 1) cap') (xs.length + 1) (xs.map ptr ++ [.pointer (some ⟨wx.heap.size, 0, none⟩)]))
    (h2 : wp.heap[w.heap.size]? = some (.cells #[.slice (some ⟨g, 0, none⟩) (xs.length + 1) cap', .nilFunc] 39 (0, 0))) (h3 : Left (wx.alloc (rdObj z)) wp w.heap.size (Value.slice ao xs.length cap).ownBlock) :
    SInv w wp n (some ⟨g, 0, none⟩) cap' (xs ++ [(wx.heap.size, z)]) ms := by
  have hrow : ∀ k, (Value.slice ao xs.length cap).ownBlock = some k → w.heap.size + 2 ≤ k ∧ k < wx.heap.size := h.own.lt
  have hsz : (wx.alloc (rdObj z)).heap.size = wx.heap.size + 1 := World.size_alloc _ _
  have hbig := h.big
  have hs3 := h3.size
  have hblk : ∀ k, k < wx.heap.size → k ≠ w.heap.size → some k ≠ (Value.slice ao xs.length cap).ownBlock → wp.heap[k]? = wx.heap[k]? := fun k hk h4 h5 =>
    (h3.block k (by omega) h4 h5).trans (Go.Deep.blk_alloc_lt _ _ _ hk)
  refine ⟨⟨h3.os.trans h.below.os, h3.tape.trans h.below.tape, h3.output.trans h.below.output, by have := h.below.size; omega, fun k hk => ?_⟩, by omega, ?_, ?_, ?_, ?_⟩
  · refine (hblk k (by omega) (by omega) (fun e => ?_)).trans (h.below.block k hk)
    have := hrow k e.symm; omega
  · rw [h2]; simp
  · simpa [ptr] using h1
  · refine ownsRow_of_block h.model (fun k hk => ?_)
    obtain rfl : w.heap.size + 1 = k := by simpa [Value.ownBlock] using hk
    exact hblk _ (by omega) (by omega) (fun e => by have := hrow _ e.symm; omega)
  · intro x hx
    rcases List.mem_append.1 hx with hx | hx
    · obtain ⟨a1, a2⟩ := h.nodes x hx
      refine ⟨a1, (hblk x.1 (getElem?_lt a2) (by omega) (fun e => ?_)).trans a2⟩
      rcases h.own.2 with ⟨hv, _⟩ | ⟨g0, c0, cur, hv, _, hgg, _⟩
      · rw [hv] at e; simp [Value.ownBlock] at e
      · rw [hv] at e
        obtain rfl : x.1 = g0 := by simpa [Value.ownBlock] using e
        rw [a2] at hgg
        simp [rdObj] at hgg
    · obtain rfl : x = (wx.heap.size, z) := by simpa using hx
      refine ⟨by show w.heap.size + 2 ≤ wx.heap.size; omega, ?_⟩
      refine (h3.block wx.heap.size (by omega) (by omega) (fun e => ?_)).trans (Go.Deep.blk_alloc_new _ _)
      have := hrow _ e.symm; omega

theorem sinv_app {w wx wy : World} {n cap : Nat} {ao : Option Addr} {xs : List (Nat × Int)} {ms : List Int} {z : Int} {o : Obj} (h : SInv w wx n ao cap xs ms)
    (h1 : wy.ownsRow (w.heap.size + 1) 3 1 (.slice (some ⟨w.heap.size + 1, 0, none⟩) (ms.length + 1) n) (ms.length + 1) (ms.map num ++ [.int .i64 z])) (h2 : (wx.alloc o).grownBy wy (some (w.heap.size + 1))) :
    SInv w wy n ao cap xs (ms ++ [z]) := by
  have hbig := h.big
  have hsz : (wx.alloc o).heap.size = wx.heap.size + 1 := World.size_alloc _ _
  have hs2 := h2.size
  have hblk : ∀ k, k < wx.heap.size → k ≠ w.heap.size + 1 → wy.heap[k]? = wx.heap[k]? := fun k hk h4 => (h2.block k (by omega) (by simpa using h4)).trans (Go.Deep.blk_alloc_lt _ _ _ hk)
  refine ⟨⟨h2.os.trans h.below.os, h2.tape.trans h.below.tape, h2.output.trans h.below.output, by have := h.below.size; omega, fun k hk => (hblk k (by omega) (by omega)).trans (h.below.block k hk)⟩, by omega,
    (hblk _ (by omega) (by omega)).trans h.head, ownsRow_of_block h.own (fun k hk => ?_), ?_, fun x hx => ⟨(h.nodes x hx).1, (hblk _ (getElem?_lt (h.nodes x hx).2) (by have := (h.nodes x hx).1; omega)).trans (h.nodes x hx).2⟩⟩
  · have := h.own.lt k hk
    exact hblk k this.2 (by omega)
  · simpa [num] using h1

theorem sinv_pop {w wx : World} {n cap : Nat} {ao : Option Addr} {xs : List (Nat × Int)} {x : Nat × Int} {ms : List Int} (h : SInv w wx n ao cap (xs ++ [x]) ms) :
    SInv w (wx.setCell ⟨w.heap.size, 0, none⟩ (.slice ao xs.length cap)) n ao cap xs ms := by
  have hbig := h.big
  have hblk : ∀ k, k ≠ w.heap.size → (wx.setCell ⟨w.heap.size, 0, none⟩ (.slice ao xs.length cap)).heap[k]? = wx.heap[k]? := fun k hk => Go.Deep.blk_setCell_other _ _ _ _ hk
  have hown : wx.ownsRow (w.heap.size + 2) 30 1 (.slice ao xs.length cap) xs.length (xs.map ptr) := by
    have := h.own
    rw [List.length_append, List.map_append] at this
    exact ownsRow_pop this
  refine ⟨h.below.setCell (Nat.le_refl _) _, by rw [World.size_setCell]; exact hbig, set_head h.head, ownsRow_of_block hown (fun k hk => ?_), ownsRow_of_block h.model (fun k hk => ?_), fun y hy => ?_⟩
  · have := hown.lt k hk
    exact hblk k (by omega)
  · have := h.model.lt k hk
    exact hblk k (by omega)
  · obtain ⟨a1, a2⟩ := h.nodes y (by simp [hy])
    exact ⟨a1, (hblk _ (by omega)).trans a2⟩

theorem SInv.mpop {w wx : World} {n cap : Nat} {ao : Option Addr} {xs : List (Nat × Int)} {z : Int} {ms : List Int} (h : SInv w wx n ao cap xs (ms ++ [z])) : SInv w wx n ao cap xs ms := by
  refine ⟨h.below, h.big, h.head, h.own, ?_, h.nodes⟩
  have := h.model
  rw [List.length_append, List.map_append] at this
  exact ownsRow_pop this

/-- the cells that the walk reads -/
theorem SInv.form {w wx : World} {n cap : Nat} {ao : Option Addr} {xs : List (Nat × Int)} {ms : List Int} (h : SInv w wx n ao cap xs ms) (h0 : 0 < xs.length) : ∃ g, ao = some ⟨g, 0, none⟩ ∧ xs.length ≤ cap ∧ w.heap.size + 2 ≤ g := by
  rcases h.own.2 with ⟨_, hv⟩ | ⟨g, c, cur, hv, hb, _, h1, _⟩
  · omega
  · cases hv; exact ⟨g, rfl, h1, hb⟩

theorem SInv.cellH {w wx : World} {n cap g : Nat} {xs : List (Nat × Int)} {ms : List Int} (h : SInv w wx n (some ⟨g, 0, none⟩) cap xs ms) {j : Nat} {x : Nat × Int} (hx : xs[j]? = some x) : wx.cell? ⟨g, j, none⟩ = some (.pointer (some ⟨x.1, 0, none⟩)) := by
  have := h.own.cells (g := g) rfl j (ptr x) (by simp [hx])
  rw [Addr.add_lit, Nat.zero_add] at this
  exact this

theorem SInv.cellM {w wx : World} {n cap : Nat} {ao : Option Addr} {xs : List (Nat × Int)} {ms : List Int} (h : SInv w wx n ao cap xs ms) {j : Nat} {z : Int} (hx : ms[j]? = some z) : wx.cell? ⟨w.heap.size + 1, j, none⟩ = some (.int .i64 z) := by
  have := h.model.cells (g := w.heap.size + 1) rfl j (num z) (by simp [hx])
  rw [Addr.add_lit, Nat.zero_add] at this
  exact this

theorem SInv.cellN {w wx : World} {n cap : Nat} {ao : Option Addr} {xs : List (Nat × Int)} {ms : List Int} (h : SInv w wx n ao cap xs ms) {j : Nat} {x : Nat × Int} (hx : xs[j]? = some x) : wx.cell? ⟨x.1, 3, none⟩ = some (.int .i64 x.2) := by
  have := (h.nodes x (List.mem_of_getElem? hx)).2
  simp [World.cell?, this, rdObj]

end Go.Proofs.Ybulkdfrq
