/-
  LawS5346CStack: Push, Pop AND Len OVER A HEAP WHOSE ROW THE CALL ITSELF MADE.
-/
import Derived.Test.YbulkdfrqN2
import Derived.Deep.AppendLies
import Derived.Deep.RegionLawGrows
import Derived.Deep.RegionLaw
import Derived.Laws.OwnMore
namespace Go.Proofs.Ybulkdfrq
open Go.RowKit
set_option linter.unusedVariables false
set_option linter.unusedSimpArgs false

theorem assert30f (v : Value) (w : World) : (Instr.typeAssert (.iface 30 v) 20 30 false).run Yba.prog w = .ok v w := by kernel_rfl

/-- WHAT A CALL ON THE HEAP LEAVES: all blocks but the heap object and its row are as they were -/
structure Left (w w' : World) (hb : Nat) (row : Option Nat) : Prop where
  os : w'.os = w.os
  tape : w'.tape = w.tape
  output : w'.output = w.output
  size : w.heap.size ≤ w'.heap.size
  block : ∀ k, k < w.heap.size → k ≠ hb → some k ≠ row → w'.heap[k]? = w.heap[k]?

theorem c_far {w w1 : World} {o : Obj} {row : Option Nat} {hb : Nat} {u : Obj} (h2 : (w.alloc o).drew.grownBy w1 row) (hne : some hb ≠ row) (hblt : hb < w.heap.size) (hw : w.heap[hb]? = some u) : w1.heap[hb]? = some u :=
  (h2.block hb (by show hb < (w.alloc o).heap.size; rw [World.size_alloc]; omega) hne).trans ((Go.Deep.blk_alloc_lt w o hb hblt).trans hw)
theorem c_cell {w1 : World} {hb : Nat} {v f : Value} {t : TypeId} (h : w1.heap[hb]? = some (.cells #[v, f] t (0, 0))) : w1.cell? ⟨hb, 0, none⟩ = some v := by simp [World.cell?, h]
theorem c_cell1 {w1 : World} {hb : Nat} {v f : Value} {t : TypeId} (h : w1.heap[hb]? = some (.cells #[v, f] t (0, 0))) : w1.cell? ⟨hb, 1, none⟩ = some f := by simp [World.cell?, h]
theorem c_frz {w1 : World} {hb : Nat} {c : Array Value} {t : TypeId} (h : w1.heap[hb]? = some (.cells c t (0, 0))) (i : Nat) : w1.frozen? ⟨hb, i, none⟩ = false := by simp [World.frozen?, h]

theorem ownsRow_setOther {w : World} {base e size n : Nat} {v : Value} {xs : List Value} {hb : Nat} (h : w.ownsRow base e size v n xs) (hne : hb < base) (u : Value) : (w.setCell ⟨hb, 0, none⟩ u).ownsRow base e size v n xs := by
  refine ⟨h.1, ?_⟩
  rcases h.2 with hn | ⟨g, cap, cur, rfl, hb', hgg, rest⟩
  · exact .inl hn
  · exact .inr ⟨g, cap, cur, rfl, hb', (Go.Deep.blk_setCell_other _ _ _ _ (by show g ≠ hb; omega)).trans hgg, rest⟩

theorem set_head {w1 : World} {hb : Nat} {v f u : Value} {t : TypeId} (h : w1.heap[hb]? = some (.cells #[v, f] t (0, 0))) : (w1.setCell ⟨hb, 0, none⟩ u).heap[hb]? = some (.cells #[u, f] t (0, 0)) := by
  simp [World.setCell, Array.getElem?_modify, h]

theorem push_left {w w1 : World} {o : Obj} {base len cap g cap' hb : Nat} {ao : Option Addr} {xs : List Value} (h1 : w1.ownsRow base 30 1 (.slice (some ⟨g, 0, none⟩) (len + 1) cap') (len + 1) xs)
    (h2 : (w.alloc o).drew.grownBy w1 (Value.slice ao len cap).ownBlock) (h3 : (Value.slice ao len cap).ownBlock = some g ∨ g = w.heap.size + 1) (hbb : hb < base) (hbs : base ≤ w.heap.size) (hne : some hb ≠ (Value.slice ao len cap).ownBlock)
    (hblt : hb < w.heap.size) (c1 : w1.heap[hb]? = some (.cells #[.slice ao len cap, .nilFunc] 39 (0, 0))) :
    (w1.setCell ⟨hb, 0, none⟩ (.slice (some ⟨g, 0, none⟩) (len + 1) cap')).ownsRow base 30 1 (.slice (some ⟨g, 0, none⟩) (len + 1) cap') (len + 1) xs ∧
      (w1.setCell ⟨hb, 0, none⟩ (.slice (some ⟨g, 0, none⟩) (len + 1) cap')).heap[hb]? = some (.cells #[.slice (some ⟨g, 0, none⟩) (len + 1) cap', .nilFunc] 39 (0, 0)) ∧
      Left w (w1.setCell ⟨hb, 0, none⟩ (.slice (some ⟨g, 0, none⟩) (len + 1) cap')) hb (Value.slice ao len cap).ownBlock ∧ ((Value.slice ao len cap).ownBlock = some g ∨ w.heap.size ≤ g) := by
  have hs : w.heap.size + 1 ≤ w1.heap.size := by
    have := h2.size
    rw [show (w.alloc o).drew.heap.size = (w.alloc o).heap.size from rfl, World.size_alloc] at this
    exact this
  refine ⟨ownsRow_setOther h1 hbb _, set_head c1, ⟨h2.os, h2.tape, h2.output, by rw [World.size_setCell]; omega, fun k hk hkb hkr => ?_⟩, h3.imp id (by omega)⟩
  rw [Go.Deep.blk_setCell_other _ _ _ _ hkb, h2.block k (by show k < (w.alloc o).heap.size; rw [World.size_alloc]; omega) hkr]
  exact Go.Deep.blk_alloc_lt w o k hk

set_option maxHeartbeats 1000000 in
set_option maxRecDepth 100000 in
theorem push_any (hb len cap base : Nat) (ao : Option Addr) (p : Addr) (ps : List Value) (w : World) (hlen : len ≤ 1024) (hbb : hb < base) (hbs : base ≤ w.heap.size)
    (hh : w.heap[hb]? = some (.cells #[.slice ao len cap, .nilFunc] 39 (0, 0))) (ho : w.ownsRow base 30 1 (.slice ao len cap) len ps) :
    Calls Yba.prog 12 #[.pointer (some ⟨hb, 0, none⟩), .iface 30 (.pointer (some p))] w fun e w' => e = .returned (.tuple #[]) ∧ ∃ g cap', w'.ownsRow base 30 1 (.slice (some ⟨g, 0, none⟩) (len + 1) cap') (len + 1) (ps ++ [.pointer (some p)]) ∧
      w'.heap[hb]? = some (.cells #[.slice (some ⟨g, 0, none⟩) (len + 1) cap', .nilFunc] 39 (0, 0)) ∧ Left w w' hb (Value.slice ao len cap).ownBlock ∧ ((Value.slice ao len cap).ownBlock = some g ∨ w.heap.size ≤ g) := by
  obtain ⟨i0, hi, hz0, hz1, hz2⟩ := info_parts Yba.info30
  have c0 : w.cell? ⟨hb, 0, none⟩ = some (.slice ao len cap) := by simp [World.cell?, hh]
  have hta := assert30f
  have HO := hid ho
  have HH := hid hh
  clear ho hh
  go_enter Yba.func12, Yba.ntmps12
  go_wp2_with fail
  have hnews : Hid (∀ j u, [Value.pointer (some p)][j]? = some u → (w.drew.alloc (.cells #[.pointer (some p)] 30)).cell? ((⟨w.heap.size, 0, none⟩ : Addr).add j) = some u) :=
    World.news_of_block (cs := #[.pointer (some p)]) (Go.Deep.blk_alloc_new w.drew _)
  have hown : Hid ((w.drew.alloc (.cells #[.pointer (some p)] 30)).ownsRow base 30 1 (.slice ao len cap) len ps) := hid ((show w.drew.ownsRow base 30 1 _ len ps from HO.out).alloc _)
  have hbase2 : Hid (base ≤ (w.drew.alloc (.cells #[.pointer (some p)] 30)).heap.size) := by rw [World.size_alloc]; exact Nat.le_succ_of_le hbs
  have hmx : Hid (len + 1 ≤ maxLen) := by show len + 1 ≤ maxLen; unfold maxLen; omega
  have hby : Hid ((len + 1) * 8 ≤ 140737488355328) := by show (len + 1) * 8 ≤ 140737488355328; omega
  have hne : some hb ≠ (Value.slice ao len cap).ownBlock := fun e => by have := HO.out.lt hb e.symm; omega
  have hw : w.heap[hb]? = some (.cells #[.slice ao len cap, .nilFunc] 39 (0, 0)) := HH.out
  have hblt : hb < w.heap.size := Nat.lt_of_lt_of_le hbb hbs
  have HW := hid hw
  clear hw
  go_region_law (refine step_append_lies _ rfl (.tmp 8) (.tmp 11) 29 rfl base 30 i0 (.pointer none) 1 8 Yba.underlying29 hi hz0 hz1 hz2 rfl (by decide) (.slice ao len cap) len ps (by simp [Act.eval, Act.put]) hown.out ⟨w.heap.size, 0, none⟩ 1 1 [.pointer (some p)] (by simp [Act.eval, Act.put]) rfl hnews.out (by intro u hu; simp at hu; subst hu; rfl) (by decide) hmx.out hby.out hbase2.out (w.heap.size + 1) (by simp) ?_; intro g cap' w1 h1 h2 h3 h4; have H1 := hid (And.intro h1 (And.intro h2 (And.intro h3 h4))); have c1 := c_far h2 hne hblt HW.out; have HC1 := hid c1; have d1 := c_cell c1; have f1 := c_frz c1 0; clear h1 h2 h3 h4 c1)
  all_goals
    obtain ⟨h1, h2, h3, h4⟩ := H1.out
    have h5 := push_left h1 h2 h3 hbb hbs hne hblt HC1.out
    clear H1 HC1 h1 h2 h3 h4 hown hnews HO HH HW
    go_end0
    exact ⟨rfl, g, cap', h5⟩

set_option maxHeartbeats 1000000 in
set_option maxRecDepth 100000 in
theorem len_any (ao : Option Addr) (n cap : Nat) (f : Value) (w : World) :
    Calls Yba.prog 13 #[.agg #[.slice ao n cap, .nilFunc]] w fun e w' => e = .returned (.int .i64 n) ∧ w' = w.alloc (.cells #[.slice ao n cap, .nilFunc] 39) := by
  go_enter Yba.func13, Yba.ntmps13
  go_wp2
  go_ret
  exact ⟨rfl, rfl⟩

end Go.Proofs.Ybulkdfrq
