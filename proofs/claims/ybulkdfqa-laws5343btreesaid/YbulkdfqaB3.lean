/-
  WALK OF zzs5343bbuild.
-/
import Derived.Test.YbulkdfqaB1
namespace Go.Proofs.Ybulkdfqa
open Go.RowKit

/-- an item of the input -/
structure Src where
  seq : Int
  has : Bool
  all : Bool
  lo : ByteArray
  hi : ByteArray

/-- THE n ITEMS X LIE IN w FROM THE ADDRESS a ON (five cells each) -/
def IsItems (w : World) (a : Option Addr) (n : Nat) (X : Nat → Src) : Prop :=
  n = 0 ∨ ∃ b off, a = some ⟨b, off, none⟩ ∧ ∀ i, i < n →
    w.cell? ⟨b, off + i * 5, none⟩ = some (.int .u64 (X i).seq) ∧ w.cell? ⟨b, off + i * 5 + 1, none⟩ = some (.bool (X i).has) ∧ w.cell? ⟨b, off + i * 5 + 2, none⟩ = some (.bool (X i).all) ∧
    w.cell? ⟨b, off + i * 5 + 3, none⟩ = some (.string (X i).lo) ∧ w.cell? ⟨b, off + i * 5 + 4, none⟩ = some (.string (X i).hi)

theorem Yba.info25 : (Yba.prog.info? 25).map (fun i => (i.zero, i.size, i.bytes)) = some (some (.pointer none), 1, 8) := by kernel_rfl
theorem Yba.info92 : (Yba.prog.info? 92).map (fun i => (i.zero, i.size, i.bytes)) = some (some (.agg #[.int .u64 0, .bool false, .bool false, .string ByteArray.empty, .string ByteArray.empty]), 5, 48) := by kernel_rfl

def srcObj (x : Src) : Obj := .cells #[.int .u64 x.seq, .bool x.has, .bool x.all, .string x.lo, .string x.hi] 92
/-- the twelve cells of a keyItem that a search meets: its own keys, seq and transaction, and the three links, the subtree's lowest seq -/
def itmObj (x : Src) (t : Addr) (right last : Option Addr) (ms : Int) : Obj :=
  .cells #[.string x.lo, .string x.hi, .bool x.all, .pointer none, .pointer right, .pointer last, .int .u64 ms, .int .u64 x.seq, .pointer (if x.has then some t else none), .int .u8 3, .int .u32 0, .pointer none] 35

/-- THE STATE OF zzs5343bbuild, k ITEMS MADE -/
structure BInv (w wr : World) (n k : Nat) (X : Nat → Src) (t : Addr) : Prop where
  below : Below w.heap.size w wr
  size : wr.heap.size = w.heap.size + 1 + 2 * k
  top : wr.rowIs w.heap.size 25 n (fun j => if j < k then .pointer (some ⟨w.heap.size + 2 + 2 * j, 0, none⟩) else .pointer none)
  items : ∀ j, j < k → wr.heap[w.heap.size + 2 + 2 * j]? = some (itmObj (X j) t none none 0)

theorem binv_start (w : World) (n : Nat) (X : Nat → Src) (t : Addr) : BInv w (w.alloc (.cells (madeCells #[.pointer none] n) 25)) n 0 X t :=
  ⟨(Below.refl _ _).alloc (Nat.le_refl _) _, by simp, (World.rowIs_made w _ n 25).congr (fun j _ => by simp), fun j hj => absurd hj (Nat.not_lt_zero _)⟩

theorem binv_step {w wr : World} {n k : Nat} {X : Nat → Src} {t : Addr} (h : BInv w wr n k X t) (o : Obj) :
    BInv w (((wr.alloc o).alloc (itmObj (X k) t none none 0)).setCell ⟨w.heap.size, k, none⟩ (.pointer (some ⟨wr.heap.size + 1, 0, none⟩))) n (k + 1) X t := by
  have hs := h.size
  refine ⟨((h.below.alloc (by omega) _).alloc (by rw [World.size_alloc]; omega) _).setCell (Nat.le_refl _) _, by rw [World.size_setCell, World.size_alloc, World.size_alloc]; omega, (((h.top.alloc _).alloc _).set k _).congr (fun j _ => ?_), fun j hj => ?_⟩
  · by_cases e : j = k
    · subst e; simp
    · rw [if_neg e]
      by_cases hlt : j < k
      · rw [if_pos hlt, if_pos (by omega)]
      · rw [if_neg hlt, if_neg (by omega)]
  · rw [Go.Deep.blk_setCell_other _ _ _ _ (by show w.heap.size + 2 + 2 * j ≠ w.heap.size; omega)]
    by_cases e : j = k
    · subst e
      have := Go.Deep.blk_alloc_new (wr.alloc o) (itmObj (X j) t none none 0)
      rw [World.size_alloc, hs] at this
      rw [show w.heap.size + 2 + 2 * j = w.heap.size + 1 + 2 * j + 1 by omega]
      exact this
    · rw [Go.Deep.blk_alloc_lt _ _ _ (by rw [World.size_alloc]; omega), Go.Deep.blk_alloc_lt _ _ _ (by omega)]
      exact h.items j (by omega)

set_option maxHeartbeats 1000000 in
set_option maxRecDepth 100000 in
theorem build_any (a : Option Addr) (n cap : Nat) (X : Nat → Src) (t : Addr) (w : World) (hn : n ≤ 1024) (hX : IsItems w a n X) :
    Calls Yba.prog 12 #[.slice a n cap, .pointer (some t)] w fun e w' => e = .returned (.slice (some ⟨w.heap.size, 0, none⟩) n n) ∧ BInv w w' n n X t := by
  have hmk := run_make_row' (P := Yba.prog) 38 25 (.pointer none) 8 Yba.underlying38 Yba.info25 rfl .i64 .i64 n (by omega) (by omega)
  have HX : Hid (IsItems w a n X) := hX
  clear hX
  go_enter Yba.func12, Yba.ntmps12
  go_wp2
  go_loopw [14] (fun i wr => ∃ k : Nat, k ≤ n ∧ i = .int .i64 k ∧ BInv w wr n k X t) (fun i _ => n - (intOf i).toNat)
  case atStart => exact ⟨0, Nat.zero_le _, rfl, binv_start w n X t⟩
  case round =>
    obtain ⟨k, hk, rfl, hI⟩ := hrel
    by_cases hlt : k < n
    · rcases HX.out with h0 | ⟨b, off, rfl, hc⟩
      · omega
      obtain ⟨c0, c1, c2, c3, c4⟩ := hc k hlt
      have hbl : b < w.heap.size := World.block_lt_of_cell? _ _ c0
      have d0 := (hI.below.cell (p := ⟨b, off + k * 5, none⟩) hbl).trans c0
      have d1 := (hI.below.cell (p := ⟨b, off + k * 5 + 1, none⟩) hbl).trans c1
      have d2 := (hI.below.cell (p := ⟨b, off + k * 5 + 2, none⟩) hbl).trans c2
      have d3 := (hI.below.cell (p := ⟨b, off + k * 5 + 3, none⟩) hbl).trans c3
      have d4 := (hI.below.cell (p := ⟨b, off + k * 5 + 4, none⟩) hbl).trans c4
      have f1 : ∀ o1 o2, ((wr.alloc o1).alloc o2).frozen? ⟨w.heap.size, k, none⟩ = false := fun o1 o2 => ((hI.top.alloc o1).alloc o2).frozen k
      have g1 : ∀ o1 o2, ∃ v, ((wr.alloc o1).alloc o2).cell? ⟨w.heap.size, k, none⟩ = some v := fun o1 o2 => ⟨_, ((hI.top.alloc o1).alloc o2).cell hlt⟩
      have HI : Hid (BInv w wr n k X t) := hI
      have HS := binv_step hI (srcObj (X k))
      clear hI c0 c1 c2 c3 c4 hc
      obtain ⟨x, hx⟩ : ∃ x, x = X k := ⟨_, rfl⟩
      rw [← hx] at d0 d1 d2 d3 d4 HS
      have HXX : Hid (x = X k) := hx
      clear hx
      obtain ⟨seq, has, all, lo, hi⟩ := x
      simp only at d0 d1 d2 d3 d4
      cases has with
      | true =>
        obtain ⟨v, g2⟩ := g1 (srcObj ⟨seq, true, all, lo, hi⟩) (itmObj ⟨seq, true, all, lo, hi⟩ t none none 0)
        have HS' : Hid (BInv w (((wr.alloc (srcObj ⟨seq, true, all, lo, hi⟩)).alloc (itmObj ⟨seq, true, all, lo, hi⟩ t none none 0)).setCell ⟨w.heap.size, k, none⟩ (.pointer (some ⟨wr.heap.size + 1, 0, none⟩))) n (k + 1) X t) := HS
        clear HS g1
        simp only [srcObj, itmObj, if_true] at g2
        go_wp2
        go_roundw
        case rel => exact ⟨k + 1, by omega, by go_num, HS'.out⟩
        case measure => simp [intOf]; omega
      | false =>
        obtain ⟨v, g2⟩ := g1 (srcObj ⟨seq, false, all, lo, hi⟩) (itmObj ⟨seq, false, all, lo, hi⟩ t none none 0)
        have HS' : Hid (BInv w (((wr.alloc (srcObj ⟨seq, false, all, lo, hi⟩)).alloc (itmObj ⟨seq, false, all, lo, hi⟩ t none none 0)).setCell ⟨w.heap.size, k, none⟩ (.pointer (some ⟨wr.heap.size + 1, 0, none⟩))) n (k + 1) X t) := HS
        clear HS g1
        simp only [srcObj, itmObj, if_neg Bool.false_ne_true] at g2
        go_wp2
        go_roundw
        case rel => exact ⟨k + 1, by omega, by go_num, HS'.out⟩
        case measure => simp [intOf]; omega
    · have hkn : k = n := by omega
      subst hkn
      go_wp2
      go_ret
      exact ⟨rfl, hI⟩

end Go.Proofs.Ybulkdfqa
