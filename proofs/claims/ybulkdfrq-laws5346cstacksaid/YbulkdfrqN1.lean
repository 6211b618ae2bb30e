/-
  LawS5346CLastOut: THE STATE OF ITS LOOPS, AND Pop's CONTRACT.
-/
import Derived.Test.YbulkdfrqRows
import Derived.WalkKit
import Derived.WalkSpells
import Derived.WalkLawsBesides
import Derived.Deep.OwnRows
import Derived.Deep.QuietTactic
import Derived.BigQuiet
import Derived.Laws.CopyOwn
import Derived.Lib.Builder
namespace Go.Proofs.Ybulkdfrq
open Go.RowKit
set_option linter.unusedVariables false
set_option linter.unusedSimpArgs false

theorem Yba.info30 : (Yba.prog.info? 30).map (fun i => (i.zero, i.size, i.bytes)) = some (some (.pointer none), 1, 8) := by kernel_rfl
theorem Yba.size30 : (Yba.prog.info? 30).map (·.size) = some 1 := by kernel_rfl

/-- THE READER OF ITEM z -/
def rdObj (z : Int) : Obj := .cells #[.pointer none, .slice none 0 0, .nilFunc, .int .i64 z, .bool false] 35
/-- THE POINTER TO THE READER j -/
def nd (B j : Nat) : Value := .pointer (some ⟨B + 1 + j, 0, none⟩)

/-- THE FIRST LOOP's STATE, k READERS MADE -/
structure LInv (w wr : World) (n k : Nat) (zs : List Int) : Prop where
  below : Below w.heap.size w wr
  size : wr.heap.size = w.heap.size + 1 + k
  top : wr.rowIs w.heap.size 30 n (fun j => if j < k then nd w.heap.size j else .pointer none)
  nodes : ∀ j, j < k → wr.heap[w.heap.size + 1 + j]? = some (rdObj (zs.getD j 0))

theorem linv_start (w : World) (n : Nat) (zs : List Int) : LInv w (w.alloc (.cells (madeCells #[.pointer none] n) 30)) n 0 zs :=
  ⟨(Below.refl _ _).alloc (Nat.le_refl _) _, by simp, (World.rowIs_made w _ n 30).congr (fun j _ => by simp), fun j hj => absurd hj (Nat.not_lt_zero _)⟩

theorem linv_step {w wr : World} {n k : Nat} {zs : List Int} (h : LInv w wr n k zs) :
    LInv w ((wr.alloc (rdObj (zs.getD k 0))).setCell ⟨w.heap.size, k, none⟩ (.pointer (some ⟨wr.heap.size, 0, none⟩))) n (k + 1) zs := by
  have hs := h.size
  refine ⟨(h.below.alloc (by omega) _).setCell (Nat.le_refl _) _, by rw [World.size_setCell, World.size_alloc]; omega, ((h.top.alloc _).set k _).congr (fun j _ => ?_), fun j hj => ?_⟩
  · by_cases e : j = k
    · subst e; simp [nd, hs]
    · rw [if_neg e]
      by_cases hlt : j < k
      · rw [if_pos hlt, if_pos (by omega)]
      · rw [if_neg hlt, if_neg (by omega)]
  · rw [Go.Deep.blk_setCell_other _ _ _ _ (by show w.heap.size + 1 + j ≠ w.heap.size; omega)]
    by_cases e : j = k
    · subst e
      have := Go.Deep.blk_alloc_new wr (rdObj (zs.getD j 0))
      rw [hs] at this
      exact this
    · rw [Go.Deep.blk_alloc_lt _ _ _ (by omega)]
      exact h.nodes j (by omega)

/-- WHAT STANDS BEHIND Pop -/
structure LFin (w wr : World) (x : Addr) (m g hb : Nat) (zs : List Int) : Prop where
  below : Below w.heap.size w wr
  head : wr.cell? ⟨hb, 0, none⟩ = some (.slice (some ⟨g, 0, none⟩) m (m + 1))
  cmp : wr.cell? ⟨hb, 1, none⟩ = some .nilFunc
  row1 : ∀ j, j < m + 1 → wr.cell? ⟨w.heap.size, j, none⟩ = some (nd w.heap.size j)
  row2 : ∀ j, j < m + 1 → wr.cell? ⟨g, j, none⟩ = some (nd w.heap.size j)
  nodes : ∀ j, j < m + 1 → wr.cell? ⟨w.heap.size + 1 + j, 3, none⟩ = some (.int .i64 (zs.getD j 0))
  src : ∀ j, j < m + 1 → wr.cell? (x.add j) = some (.int .i64 (zs.getD j 0))

theorem LFin.drew {w wr : World} {x : Addr} {m g hb : Nat} {zs : List Int} (h : LFin w wr x m g hb zs) : LFin w wr.drew x m g hb zs :=
  ⟨h.below.drew, h.head, h.cmp, h.row1, h.row2, h.nodes, h.src⟩

theorem neq_rd (w : World) (a : Addr) : (binOp .neq 30 (.pointer (some a)) (.pointer (some a))).run Yba.prog w = .ok (.bool false) w := by
  have h : (Yba.prog.info? 35).isSome = true := by kernel_rfl
  obtain ⟨j, hj⟩ := Option.isSome_iff_exists.1 h
  exact Go.Lib.run_neq_ptr_same w a Yba.underlying30 hj

theorem neq_cell (w : World) (a : Addr) : (binOp .neq 42 (.pointer (some a)) (.pointer (some a))).run Yba.prog w = .ok (.bool false) w := by
  have h : (Yba.prog.info? 30).isSome = true := by kernel_rfl
  obtain ⟨j, hj⟩ := Option.isSome_iff_exists.1 h
  exact Go.Lib.run_neq_ptr_same w a Yba.underlying42 hj

set_option maxHeartbeats 1000000 in
set_option maxRecDepth 100000 in
/-- Pop OF A HEAP THAT IS NOT EMPTY -/
theorem pop_any (hb g n cap : Nat) (p : Option Addr) (w : World) (hn : n + 1 ≤ 1024) (hcap : n + 1 ≤ cap) (h0 : w.cell? ⟨hb, 0, none⟩ = some (.slice (some ⟨g, 0, none⟩) (n + 1) cap)) (hf : w.frozen? ⟨hb, 0, none⟩ = false)
    (hg : w.cell? ⟨g, n, none⟩ = some (.pointer p)) :
    Calls Yba.prog 11 #[.pointer (some ⟨hb, 0, none⟩)] w fun e w' => e = .returned (.iface 30 (.pointer p)) ∧ w' = w.setCell ⟨hb, 0, none⟩ (.slice (some ⟨g, 0, none⟩) n cap) := by
  go_enter Yba.func11, Yba.ntmps11
  go_wp2
  go_ret
  exact ⟨rfl, rfl⟩

end Go.Proofs.Ybulkdfrq
