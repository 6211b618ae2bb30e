/-
  WALK OF (*keySet).each OVER A SET THAT KEEPS A LIST, asked about every key (LawS5343BList).
-/
import Derived.Test.YbulkdfqaB1
import Derived.Deep.QuietTactic
import Derived.BigQuiet
namespace Go.Proofs.Ybulkdfqa
open Go.RowKit
attribute [local go_sem ↓] Go.wp_at_zero Go.wp_at_succ

set_option maxHeartbeats 400000 in
theorem listed_list (b o : Nat) (w : World) (h1 : w.cell? ⟨b, o + 1, none⟩ = some (.map none)) (h2 : w.cell? ⟨b, o + 2, none⟩ = some (.pointer none)) :
    Calls Yba.prog 25 #[.pointer (some ⟨b, o, none⟩)] w fun e w' => e = .returned (.bool true) ∧ w' = w := by
  go_enter Yba.func25, Yba.ntmps25
  go_wp2
  go_ret
  exact ⟨rfl, rfl⟩

theorem cell_two {w : World} {a : Addr} {v : Value} (o1 o2 : Obj) (h : w.cell? a = some v) : ((w.alloc o1).alloc o2).cell? a = some v := by
  have hl := World.block_lt_of_cell? _ _ h
  rw [World.cell?_alloc_lt _ _ _ (by rw [World.size_alloc]; omega), World.cell?_alloc_lt _ _ _ hl, h]
theorem frozen_two {w : World} {a : Addr} {v : Value} {f : Bool} (o1 o2 : Obj) (h : w.cell? a = some v) (hf : w.frozen? a = f) : ((w.alloc o1).alloc o2).frozen? a = f := by
  have hl := World.block_lt_of_cell? _ _ h
  rw [World.frozen?_alloc_old _ _ _ (by rw [World.size_alloc]; omega), World.frozen?_alloc_old _ _ _ (by omega), hf]
theorem overlaps_true (lo hi l2 h2 : ByteArray) (all : Bool) (w : World) (h : (all || leB lo hi) = true) :
    Calls Yba.prog 26 #[rng lo hi all, rng l2 h2 true] w fun e w' => e = .returned (.bool true) ∧ w' = (w.alloc (rngObj lo hi all)).alloc (rngObj l2 h2 true) :=
  (overlaps_all lo hi l2 h2 all w).mono fun e w' ⟨he, hw⟩ => ⟨by rw [he, h], hw⟩

theorem overlaps_false (lo hi l2 h2 : ByteArray) (all : Bool) (w : World) (h : (all || leB lo hi) = false) :
    Calls Yba.prog 26 #[rng lo hi all, rng l2 h2 true] w fun e w' => e = .returned (.bool false) ∧ w' = (w.alloc (rngObj lo hi all)).alloc (rngObj l2 h2 true) :=
  (overlaps_all lo hi l2 h2 all w).mono fun e w' ⟨he, hw⟩ => ⟨by rw [he, h], hw⟩

/-- WHAT A SEARCH READS OF AN ITEM -/
structure Itm where
  lo : ByteArray
  hi : ByteArray
  all : Bool
  seq : Int
  txn : Option Addr

/-- ITEM x's CELLS LIE AT BLOCK b, those that a search reads -/
structure ItAt (w : World) (b : Nat) (x : Itm) : Prop where
  c0 : w.cell? ⟨b, 0, none⟩ = some (.string x.lo)
  c1 : w.cell? ⟨b, 1, none⟩ = some (.string x.hi)
  c2 : w.cell? ⟨b, 2, none⟩ = some (.bool x.all)
  c7 : w.cell? ⟨b, 7, none⟩ = some (.int .u64 x.seq)
  c8 : w.cell? ⟨b, 8, none⟩ = some (.pointer x.txn)

def okB (before : Int) (x : Itm) : Bool := decide (x.seq < before) && x.txn.isSome && (x.all || leB x.lo x.hi)

theorem no_step {before : Int} {X : Nat → Itm} {k : Nat} (h : ∀ j, j < k → okB before (X j) = false) (hk : okB before (X k) = false) : ∀ j, j < k + 1 → okB before (X j) = false := by
  intro j hj
  by_cases e : j = k
  · rw [e]; exact hk
  · exact h j (by omega)

theorem low {w wr : World} {o : Obj} (h : Below (w.heap.size + 1) (w.alloc o) wr) : Below w.heap.size w wr :=
  (((Below.refl w.heap.size w).alloc (Nat.le_refl _) o)).trans (h.mono (by omega))
theorem le_size {w wr : World} {o : Obj} (h : Below (w.heap.size + 1) (w.alloc o) wr) : w.heap.size + 1 ≤ wr.heap.size := by
  have := h.size; rw [World.size_alloc] at this; exact this
theorem le_size1 {w wr : World} {o o1 : Obj} (h : Below (w.heap.size + 1) (w.alloc o) wr) : w.heap.size + 1 ≤ (wr.alloc o1).heap.size := by
  have := h.size; rw [World.size_alloc] at this; rw [World.size_alloc]; omega

set_option maxHeartbeats 1000000 in
set_option maxRecDepth 100000 in
theorem each_list (kb ko g n cap hb : Nat) (N : Nat → Nat) (X : Nat → Itm) (before : Int) (l2 h2 : ByteArray) (v0 : Value) (w : World)
    (hn : n ≤ 1024)
    (k0 : w.cell? ⟨kb, ko, none⟩ = some (.slice (some ⟨g, 0, none⟩) n cap)) (k1 : w.cell? ⟨kb, ko + 1, none⟩ = some (.map none)) (k2 : w.cell? ⟨kb, ko + 2, none⟩ = some (.pointer none))
    (hg : ∀ i, i < n → w.cell? ⟨g, i, none⟩ = some (.pointer (some ⟨N i, 0, none⟩))) (hx : ∀ i, i < n → ItAt w (N i) (X i))
    (hne : ∀ i, i < n → N i ≠ hb) (hv : w.cell? ⟨hb, 0, none⟩ = some v0) (hf : w.frozen? ⟨hb, 0, none⟩ = false) :
    Calls Yba.prog 19 #[.pointer (some ⟨kb, ko, none⟩), rng l2 h2 true, .int .u64 before, .pointer none, .func (.func 20) #[] #[.pointer (some ⟨hb, 0, none⟩)]] w fun e w' =>
      ((∀ j, j < n → okB before (X j) = false) ∧ e = .returned (.bool false) ∧ Below w.heap.size w w') ∨
      (∃ i w1, i < n ∧ okB before (X i) = true ∧ (∀ j, j < i → okB before (X j) = false) ∧ e = .returned (.bool true) ∧ Below w.heap.size w w1 ∧ w' = w1.setCell ⟨hb, 0, none⟩ (.pointer (some ⟨N i, 0, none⟩))) := by
  unfold rng
  have kbl : kb < w.heap.size := World.block_lt_of_cell? _ _ k0
  have hbl : hb < w.heap.size := World.block_lt_of_cell? _ _ hv
  have q0 : ∀ o, (w.alloc o).cell? ⟨kb, ko, none⟩ = some (.slice (some ⟨g, 0, none⟩) n cap) := fun o => by rw [World.cell?_alloc_lt _ _ _ kbl]; exact k0
  have q1 : ∀ o, (w.alloc o).cell? ⟨kb, ko + 1, none⟩ = some (.map none) := fun o => by rw [World.cell?_alloc_lt _ _ _ kbl]; exact k1
  have q2 : ∀ o, (w.alloc o).cell? ⟨kb, ko + 2, none⟩ = some (.pointer none) := fun o => by rw [World.cell?_alloc_lt _ _ _ kbl]; exact k2
  have hB := (Below.refl w.heap.size w).alloc (Nat.le_refl _) (.cells #[.string l2, .string h2, .bool true] 29)
  go_enter Yba.func19, Yba.ntmps19
  go_wp2_with (go_at_call 25; refine (listed_list kb ko _ (q1 _) (q2 _)).mono ?_; rintro e w' ⟨rfl, rfl⟩)
  go_loopw [23] (fun i wr => ∃ k : Nat, k ≤ n ∧ i = .int .i64 k ∧ Below (w.heap.size + 1) (w.alloc (.cells #[.string l2, .string h2, .bool true] 29)) wr ∧ ∀ j, j < k → okB before (X j) = false) (fun i _ => n - (intOf i).toNat)
  case atStart => exact ⟨0, Nat.zero_le _, rfl, Below.refl _ _, fun j hj => absurd hj (Nat.not_lt_zero _)⟩
  case round =>
    obtain ⟨k, hk, rfl, hb1, hno⟩ := hrel
    have HN : Hid (∀ j, j < k → okB before (X j) = false) := hno
    clear hno
    by_cases hlt : k < n
    · have hNl : N k < w.heap.size := World.block_lt_of_cell? _ _ (hx k hlt).c0
      have hgl : g < w.heap.size := World.block_lt_of_cell? _ _ (hg k hlt)
      have hxk := hx k hlt
      have old : ∀ b o, b < w.heap.size → wr.cell? ⟨b, o, none⟩ = w.cell? ⟨b, o, none⟩ := fun b o h => (hb1.cell (p := ⟨b, o, none⟩) (by show b < _; omega)).trans (World.cell?_alloc_lt _ _ _ h)
      have r0 : wr.cell? ⟨g, k, none⟩ = some (.pointer (some ⟨N k, 0, none⟩)) := (old _ _ hgl).trans (hg k hlt)
      have i0 := (old _ 0 hNl).trans hxk.c0
      have i1 := (old _ 1 hNl).trans hxk.c1
      have i2 := (old _ 2 hNl).trans hxk.c2
      have i7 := (old _ 7 hNl).trans hxk.c7
      have i8 := (old _ 8 hNl).trans hxk.c8
      have z0 : wr.cell? ⟨w.heap.size, 0, none⟩ = some (.string l2) := (hb1.cell (p := ⟨w.heap.size, 0, none⟩) (by show w.heap.size < _; omega)).trans (by simp)
      have z1 : wr.cell? ⟨w.heap.size, 1, none⟩ = some (.string h2) := (hb1.cell (p := ⟨w.heap.size, 1, none⟩) (by show w.heap.size < _; omega)).trans (by simp)
      have z2 : wr.cell? ⟨w.heap.size, 2, none⟩ = some (.bool true) := (hb1.cell (p := ⟨w.heap.size, 2, none⟩) (by show w.heap.size < _; omega)).trans (by simp)
      have OLD : Hid (∀ b o, b < w.heap.size → wr.cell? ⟨b, o, none⟩ = w.cell? ⟨b, o, none⟩) := old
      clear old hxk
      obtain ⟨x, hX⟩ : ∃ x, x = X k := ⟨_, rfl⟩
      rw [← hX] at i0 i1 i2 i7 i8
      have HX : Hid (x = X k) := hX
      clear hX
      obtain ⟨lo, hi, all, seq, txn⟩ := x
      simp only at i0 i1 i2 i7 i8
      by_cases hs : seq < before
      · cases txn with
        | none =>
          go_wp2_with fail
          go_quiet (fail)
          go_wp2
          go_roundw
          case rel => exact ⟨k + 1, by omega, by go_num, below_drewN hb1 _, no_step HN.out (by rw [← HX.out]; simp [okB])⟩
          case measure => simp [intOf]; omega
        | some t =>
          by_cases hov : (all || leB lo hi) = true
          · have HOV : Hid ((all || leB lo hi) = true) := hov
            clear hov
            have fr : wr.frozen? ⟨hb, 0, none⟩ = false := (hb1.frozen (p := ⟨hb, 0, none⟩) (by show hb < _; omega)).trans ((World.frozen?_alloc_old _ _ _ (by show hb ≠ _; omega)).trans hf)
            have cv : wr.cell? ⟨hb, 0, none⟩ = some v0 := (hb1.cell (p := ⟨hb, 0, none⟩) (by show hb < _; omega)).trans ((World.cell?_alloc_lt _ _ _ hbl).trans hv)
            have ne1 : N k ≠ hb := hne k hlt
            have ne2 : w.heap.size ≠ hb := by omega
            have ne3 := ne1.symm
            have ne4 := ne2.symm
            go_wp2_with fail
            go_region_held3 (fun w' => w'.cell? ⟨N k, 0, none⟩ = some (.string lo) ∧ w'.cell? ⟨N k, 1, none⟩ = some (.string hi) ∧ w'.cell? ⟨N k, 2, none⟩ = some (.bool all) ∧ w'.cell? ⟨N k, 7, none⟩ = some (.int .u64 seq) ∧ w'.cell? ⟨N k, 8, none⟩ = some (.pointer (some t)) ∧
               w'.cell? ⟨w.heap.size, 0, none⟩ = some (.string l2) ∧  w'.cell? ⟨w.heap.size, 1, none⟩ = some (.string h2) ∧ w'.cell? ⟨w.heap.size, 2, none⟩ = some (.bool true)) (go_keep)
              (first | (go_at_call 26; refine (overlaps_true lo hi l2 h2 all _ HOV.out).mono ?_; rintro e w' ⟨rfl, rfl⟩) | (go_at_call 20; refine (closure_any _ hb 0 v0 _ ?_ ?_ _ rfl).mono ?_; (exact cell_two _ _ cv); (exact frozen_two _ _ cv fr); rintro e w' ⟨rfl, rfl⟩))
            go_wp2
            go_ret
            refine Or.inr ⟨k, ((wr.alloc (rngObj lo hi all)).alloc (rngObj l2 h2 true)).drew, hlt, ?_, HN.out, rfl, ?_, rfl⟩
            · rw [← HX.out]
              have h := HOV.out
              simp only [okB, hs, decide_true, Option.isSome_some, Bool.and_self, Bool.true_and]
              exact h
            · exact (low (Below.alloc (Below.alloc hb1 (le_size hb1) _) (le_size1 hb1) _)).drew
          · have hov' : (all || leB lo hi) = false := by simpa using hov
            have HOV : Hid ((all || leB lo hi) = false) := hov'
            clear hov hov'
            go_wp2_with fail
            (first | go_region_with (first | (go_at_call 26; refine (overlaps_false lo hi l2 h2 all _ HOV.out).mono ?_; rintro e w' ⟨rfl, rfl⟩)) | fail)
            all_goals go_wp2
            all_goals
              go_roundw
              case rel =>
                refine ⟨k + 1, by omega, by go_num, ?_, no_step HN.out ?_⟩
                · exact Below.drew (Below.alloc (Below.alloc hb1 (le_size hb1) _) (le_size1 hb1) _)
                · rw [← HX.out]; have h := HOV.out; simp only [okB, h, Bool.and_false]
              case measure => simp [intOf]; omega
      · have hd : decide (seq < before) = false := by simpa using hs
        go_wp2_with fail
        go_quiet (fail)
        go_wp2
        go_roundw
        case rel => exact ⟨k + 1, by omega, by go_num, below_drewN hb1 _, no_step HN.out (by rw [← HX.out]; simp only [okB, hd, Bool.false_and])⟩
        case measure => simp [intOf]; omega
    · have hkn : k = n := by omega
      go_wp2
      go_ret
      exact Or.inl ⟨fun j hj => HN.out j (by omega), rfl, low hb1⟩
end Go.Proofs.Ybulkdfqa
