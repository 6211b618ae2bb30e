/-
  LawS5346CLastOut: THE WALK.
-/
import Derived.Test.YbulkdfrqN1
import Derived.Deep.WholeRow
namespace Go.Proofs.Ybulkdfrq
open Go.RowKit
set_option linter.unusedVariables false
set_option linter.unusedSimpArgs false

theorem hid {p : Prop} (h : p) : Hid p := h


/-- THE COPY's ROW -/
def rdRow (B n : Nat) : Obj := .cells ((List.range n).map (nd B)).toArray 30

theorem cell_rdRow (wr : World) (B n j : Nat) (h : j < n) : (wr.alloc (rdRow B n)).cell? ⟨wr.heap.size, j, none⟩ = some (nd B j) := by
  have := (World.rowIs_alloc wr ((List.range n).map (nd B)).toArray 30 (nd B) (by intro i hi; simp at hi; simp [hi])).cell (i := j) (by simpa using h)
  exact this

theorem copy_rd {w wr : World} {n : Nat} {zs : List Int} (h : LInv w wr n n zs) :
    (Builtin.copy_ #[29, 29] 3 #[.slice (some ⟨wr.heap.size, 0, none⟩) n n, .slice (some ⟨w.heap.size, 0, none⟩) n n]).run Yba.prog (wr.alloc (.cells (madeCells #[.pointer none] n) 30)) =
      .ok (.int .i64 n) (wr.alloc (rdRow w.heap.size n)) := by
  have := run_copy_row (P := Yba.prog) (wr.alloc (.cells (madeCells #[.pointer none] n) 30)) 29 29 3 30 wr.heap.size 0 n n ⟨w.heap.size, 0, none⟩ n n (madeCells #[.pointer none] n) 30 ((List.range n).map (nd w.heap.size))
    Yba.underlying29 Yba.size30 (Go.Deep.blk_alloc_new _ _) (by simp) (fun j v hv => ?_) (by simp [size_madeCells]) (fun v hv => ?_)
  · rw [this, World.setRow_alloc_new]
    simp [goInt, rdRow, List.drop_eq_nil_of_le, size_madeCells]
  · have hj : j < n := by
      rcases Nat.lt_or_ge j n with h | h
      · exact h
      · simp [List.getElem?_eq_none, h] at hv
    obtain rfl : nd w.heap.size j = v := by simpa [hj] using hv
    have := (h.top.alloc (.cells (madeCells #[.pointer none] n) 30)).cell hj
    rw [if_pos hj] at this
    rw [← this]
    congr 1
    unfold Addr.add; split
    · simp_all
    · simp
  · obtain ⟨j, _, rfl⟩ := List.mem_map.1 hv
    rfl

/-- THE HEAP OBJECT -/
def hpObj (g n cap : Nat) : Obj := .cells #[.slice (some ⟨g, 0, none⟩) n cap, .nilFunc] 39

theorem lfin_of {w wr : World} {x : Addr} {m : Nat} {zs : List Int} (h : LInv w wr (m + 1) (m + 1) zs) (hz : ∀ i, i < m + 1 → w.cell? (x.add i) = some (.int .i64 (zs.getD i 0))) :
    LFin w (((wr.alloc (rdRow w.heap.size (m + 1))).alloc (hpObj wr.heap.size (m + 1) (m + 1))).setCell ⟨wr.heap.size + 1, 0, none⟩ (.slice (some ⟨wr.heap.size, 0, none⟩) m (m + 1))) x m wr.heap.size (wr.heap.size + 1) zs := by
  have hs := h.size
  have hbel : Below w.heap.size w (((wr.alloc (rdRow w.heap.size (m + 1))).alloc (hpObj wr.heap.size (m + 1) (m + 1))).setCell ⟨wr.heap.size + 1, 0, none⟩ (.slice (some ⟨wr.heap.size, 0, none⟩) m (m + 1))) :=
    ((h.below.alloc (by omega) _).alloc (by rw [World.size_alloc]; omega) _).setCell (by show w.heap.size ≤ wr.heap.size + 1; omega) _
  have hold : ∀ k, k < wr.heap.size → (((wr.alloc (rdRow w.heap.size (m + 1))).alloc (hpObj wr.heap.size (m + 1) (m + 1))).setCell ⟨wr.heap.size + 1, 0, none⟩ (.slice (some ⟨wr.heap.size, 0, none⟩) m (m + 1))).heap[k]? = wr.heap[k]? := by
    intro k hk
    rw [Go.Deep.blk_setCell_other _ _ _ _ (by show k ≠ wr.heap.size + 1; omega), Go.Deep.blk_alloc_lt _ _ _ (by rw [World.size_alloc]; omega), Go.Deep.blk_alloc_lt _ _ _ hk]
  have hnew : ((wr.alloc (rdRow w.heap.size (m + 1))).alloc (hpObj wr.heap.size (m + 1) (m + 1))).heap[wr.heap.size + 1]? = some (hpObj wr.heap.size (m + 1) (m + 1)) := by
    have := Go.Deep.blk_alloc_new (wr.alloc (rdRow w.heap.size (m + 1))) (hpObj wr.heap.size (m + 1) (m + 1))
    rw [World.size_alloc] at this
    exact this
  have hrow : ((wr.alloc (rdRow w.heap.size (m + 1))).alloc (hpObj wr.heap.size (m + 1) (m + 1))).rowIs (wr.heap.size + 1) 39 2 (fun j => if j = 0 then .slice (some ⟨wr.heap.size, 0, none⟩) (m + 1) (m + 1) else .nilFunc) :=
    ⟨_, hnew, rfl, fun i hi => by rcases (by omega : i = 0 ∨ i = 1) with rfl | rfl <;> rfl⟩
  have hset := hrow.set 0 (.slice (some ⟨wr.heap.size, 0, none⟩) m (m + 1))
  refine ⟨hbel, by simpa using hset.cell (i := 0) (by omega), by simpa using hset.cell (i := 1) (by omega), fun j hj => ?_, fun j hj => ?_, fun j hj => ?_, fun j hj => ?_⟩
  · have := (h.top.of_block (hold w.heap.size (by omega))).cell hj
    rw [if_pos hj] at this
    exact this
  · have := cell_rdRow wr w.heap.size (m + 1) j hj
    have e : (((wr.alloc (rdRow w.heap.size (m + 1))).alloc (hpObj wr.heap.size (m + 1) (m + 1))).setCell ⟨wr.heap.size + 1, 0, none⟩ (.slice (some ⟨wr.heap.size, 0, none⟩) m (m + 1))).heap[wr.heap.size]? = (wr.alloc (rdRow w.heap.size (m + 1))).heap[wr.heap.size]? := by
      rw [Go.Deep.blk_setCell_other _ _ _ _ (by show wr.heap.size ≠ wr.heap.size + 1; omega), Go.Deep.blk_alloc_lt _ _ _ (by rw [World.size_alloc]; omega)]
    rw [← this]
    simp only [World.cell?, e]
  · have := (hold (w.heap.size + 1 + j) (by omega)).trans (h.nodes j hj)
    simp [World.cell?, this, rdObj]
  · exact (hbel.cell (World.block_lt_of_cell? _ _ (hz j hj))).trans (hz j hj)

theorem pop_of (wr : World) (B m : Nat) (hm : m + 1 ≤ 1024) :
    Calls Yba.prog 11 #[.pointer (some ⟨wr.heap.size + 1, 0, none⟩)] ((wr.alloc (rdRow B (m + 1))).alloc (hpObj wr.heap.size (m + 1) (m + 1))) fun e w' => e = .returned (.iface 30 (nd B m)) ∧
      w' = ((wr.alloc (rdRow B (m + 1))).alloc (hpObj wr.heap.size (m + 1) (m + 1))).setCell ⟨wr.heap.size + 1, 0, none⟩ (.slice (some ⟨wr.heap.size, 0, none⟩) m (m + 1)) := by
  have hnew : ((wr.alloc (rdRow B (m + 1))).alloc (hpObj wr.heap.size (m + 1) (m + 1))).heap[wr.heap.size + 1]? = some (hpObj wr.heap.size (m + 1) (m + 1)) := by
    have := Go.Deep.blk_alloc_new (wr.alloc (rdRow B (m + 1))) (hpObj wr.heap.size (m + 1) (m + 1))
    rw [World.size_alloc] at this
    exact this
  have hrow : ((wr.alloc (rdRow B (m + 1))).alloc (hpObj wr.heap.size (m + 1) (m + 1))).rowIs (wr.heap.size + 1) 39 2 (fun j => if j = 0 then .slice (some ⟨wr.heap.size, 0, none⟩) (m + 1) (m + 1) else .nilFunc) :=
    ⟨_, hnew, rfl, fun i hi => by rcases (by omega : i = 0 ∨ i = 1) with rfl | rfl <;> rfl⟩
  have e : ((wr.alloc (rdRow B (m + 1))).alloc (hpObj wr.heap.size (m + 1) (m + 1))).heap[wr.heap.size]? = (wr.alloc (rdRow B (m + 1))).heap[wr.heap.size]? :=
    Go.Deep.blk_alloc_lt _ _ _ (by rw [World.size_alloc]; omega)
  refine pop_any (wr.heap.size + 1) wr.heap.size m (m + 1) (some ⟨B + 1 + m, 0, none⟩) _ hm (Nat.le_refl _) (by simpa using hrow.cell (i := 0) (by omega)) (hrow.frozen 0) ?_
  have := cell_rdRow wr B (m + 1) m (by omega)
  refine Eq.trans ?_ this
  simp only [World.cell?, e]

theorem LFin.drewN {w wr : World} {x : Addr} {m g hb : Nat} {zs : List Int} (h : LFin w wr x m g hb zs) (n : Nat) : LFin w (wr.drewN n) x m g hb zs := by
  induction n with
  | zero => exact h
  | succ n ih => exact ih.drew

theorem eql_nilFunc (w : World) : (binOp .eql 37 .nilFunc .nilFunc).run Yba.prog w = .ok (.bool true) w := by kernel_rfl

theorem assert30 (v : Value) (w : World) : (Instr.typeAssert (.iface 30 v) 20 30 true).run Yba.prog w = .ok (.tuple #[v, .bool true]) w := by kernel_rfl

set_option maxHeartbeats 1000000 in
set_option maxRecDepth 100000 in
theorem last_some (x : Addr) (m cap : Nat) (zs : List Int) (w : World) (hn : m + 1 ≤ 1024) (hz : ∀ i, i < m + 1 → w.cell? (x.add i) = some (.int .i64 (zs.getD i 0))) :
    Calls Yba.prog 5 #[.slice (some x) (m + 1) cap] w fun e w' => e = .returned (.bool true) ∧ Below w.heap.size w w' := by
  obtain ⟨n, hnm⟩ : ∃ n, n = m + 1 := ⟨_, rfl⟩
  have hn0 : 0 < n := by omega
  have HNM : Hid (n = m + 1) := hnm
  rw [← hnm] at hn hz ⊢
  clear hnm
  have hz0 : ((n : Int) == 0) = false := by simp; omega
  have hz2 : (n : Int) ≤ 1024 := by omega
  have hmk := run_make_row' (P := Yba.prog) 29 30 (.pointer none) 8 Yba.underlying29 Yba.info30 rfl .i64 .i64 n (by omega) (by omega)
  go_enter Yba.func5, Yba.ntmps5
  go_wp2
  go_loopw [5] (fun i wr => ∃ k : Nat, k ≤ n ∧ i = .int .i64 k ∧ LInv w wr n k zs) (fun i _ => n - (intOf i).toNat)
  case atStart => exact ⟨0, Nat.zero_le _, rfl, linv_start w n zs⟩
  case round =>
    obtain ⟨k, hk, rfl, hr⟩ := hrel
    by_cases hlt : k < n
    · have hbl : (x.add k).block < w.heap.size := World.block_lt_of_cell? _ _ (hz k hlt)
      have c0 := (hr.below.cell hbl).trans (hz k hlt)
      have f1 : ∀ o1, (wr.alloc o1).frozen? ⟨w.heap.size, k, none⟩ = false := fun o1 => (hr.top.alloc o1).frozen k
      have g1 : ∀ o1, ∃ v, (wr.alloc o1).cell? ⟨w.heap.size, k, none⟩ = some v := fun o1 => ⟨_, (hr.top.alloc o1).cell hlt⟩
      obtain ⟨z, hzk⟩ : ∃ z, z = zs.getD k 0 := ⟨_, rfl⟩
      rw [← hzk] at c0
      obtain ⟨v, g2⟩ := g1 (rdObj z)
      have f2 := f1 (rdObj z)
      have HS := linv_step hr
      rw [← hzk] at HS
      have HZ : Hid (z = zs.getD k 0) := hzk
      clear g1 f1 hzk hr
      have HS' : Hid (LInv w ((wr.alloc (rdObj z)).setCell ⟨w.heap.size, k, none⟩ (.pointer (some ⟨wr.heap.size, 0, none⟩))) n (k + 1) zs) := HS
      clear HS
      simp only [rdObj] at f2 g2
      go_wp2
      go_roundw
      case rel => exact ⟨k + 1, by omega, by go_num, HS'.out⟩
      case measure => simp [intOf]; omega
    · have hkn : k = n := by omega
      subst hkn
      have hcp := copy_rd hr
      have HF := lfin_of (x := x) (m := m) (zs := zs) (w := w) (wr := wr) (by rw [← HNM.out]; exact hr) (by rw [← HNM.out]; exact hz)
      have hpop := pop_of wr w.heap.size m (by have := HNM.out; omega)
      rw [← HNM.out] at HF hpop
      simp only [hpObj] at hpop
      have hkm : (k : Int) - 1 = m := by have := HNM.out; omega
      have HF' := hid HF
      have HP := hid hpop
      clear HF hpop hr
      go_wp2_with fail
      refine HP.out.mono ?_
      rintro e wq ⟨rfl, hwq⟩
      have hF := HF'.out
      simp only [hpObj] at hF
      rw [← hwq] at hF
      obtain ⟨g, hg⟩ : ∃ g, g = wr.heap.size := ⟨_, rfl⟩
      rw [← hg] at hF ⊢
      have HQ := hid (And.intro hwq hg)
      clear HP HF' hwq hcp hg
      have hmk : m < k := by have := HNM.out; omega
      have a1 := hF.row1 m (by omega)
      have a2 := hF.nodes m (by omega)
      have a3 := hF.src m (by omega)
      have a4 := hF.head
      rw [← HNM.out] at a4
      obtain ⟨z, hzm⟩ : ∃ z, z = zs.getD m 0 := ⟨_, rfl⟩
      rw [← hzm] at a2 a3
      have HZ := hid hzm
      have HFF := hid hF
      have hneq := neq_rd
      have hneq2 := neq_cell
      have hta := assert30
      clear hF hzm
      simp only [nd] at a1 ⊢
      go_wp2_with fail
      go_quiet (fail)
      go_wp2_with fail
      have h2 := HFF.out.drewN nq
      obtain ⟨wd, hwd⟩ : ∃ wd, wd = wq.drewN nq := ⟨_, rfl⟩
      rw [← hwd] at h2 ⊢
      clear hwd HFF a1 a2 a3 a4
      go_loopw [11] (fun i wx => ∃ j : Nat, j ≤ m ∧ i = .int .i64 j ∧ LFin w wx x m g (g + 1) zs) (fun i _ => m - (intOf i).toNat)
      case atStart => exact ⟨0, Nat.zero_le _, rfl, h2⟩
      case round =>
        obtain ⟨j, hj, rfl, hF⟩ := hrel
        by_cases hjm : j < m
        · have hjk : j < k := by omega
          have a1 := hF.row1 j (by omega)
          have a2 := hF.nodes j (by omega)
          have a3 := hF.src j (by omega)
          have a4 := hF.head
          have a5 := hF.row2 j (by omega)
          rw [← HNM.out] at a4
          obtain ⟨zz, hzm⟩ : ∃ z, z = zs.getD j 0 := ⟨_, rfl⟩
          rw [← hzm] at a2 a3
          have HFF := hid hF
          clear hF hzm
          simp only [nd] at a1 a5
          go_wp2_with fail
          go_quiet (fail)
          go_wp2_with fail
          go_roundw
          case rel => exact ⟨j + 1, by omega, by go_num, HFF.out.drewN nq⟩
          case measure => simp [intOf]; omega
        · have hjm' : j = m := by omega
          subst hjm'
          have a4 := hF.head
          rw [← HNM.out] at a4
          have HFF := hid hF
          clear hF
          by_cases hone : j = 0
          · have hd : decide (1 < (k : Int)) = false := by have := HNM.out; simp; omega
            go_wp2_with fail
            go_quiet (fail)
            go_wp2_with fail
            have h3 := HFF.out.drewN nq
            obtain ⟨we, hwe⟩ : ∃ we, we = wr.drewN nq := ⟨_, rfl⟩
            rw [← hwe] at h3 ⊢
            clear hwe HFF a4
            go_loopw [12] (fun i wx => ∃ i' : Nat, i' ≤ k ∧ i = .int .i64 i' ∧ LFin w wx x j g (g + 1) zs) (fun i _ => k - (intOf i).toNat)
            case atStart => exact ⟨0, Nat.zero_le _, rfl, h3⟩
            case round =>
              obtain ⟨i, hi, rfl, hF⟩ := hrel
              by_cases hik : i < k
              · have hij : i < j + 1 := by have := HNM.out; omega
                have a1 := hF.row1 i hij
                have a5 := hF.row2 i hij
                have HFF := hid hF
                clear hF hij
                simp only [nd] at a1 a5
                go_wp2_with fail
                go_quiet (fail)
                go_wp2_with fail
                go_roundw
                case rel => exact ⟨i + 1, by omega, by go_num, HFF.out.drewN nq⟩
                case measure => simp [intOf]; omega
              · have hi' : i = k := by omega
                subst hi'
                have a6 := hF.cmp
                have HB := hF.below
                have hnf := eql_nilFunc
                clear hF
                go_wp2_with fail
                go_ret
                exact ⟨rfl, HB⟩
          · have hd : decide (1 < (k : Int)) = true := by have := HNM.out; simp; omega
            have hj0 : 0 < j := by omega
            go_wp2_with fail
            go_quiet (fail)
            go_wp2_with fail
            have h3 := HFF.out.drewN nq
            obtain ⟨we, hwe⟩ : ∃ we, we = wr.drewN nq := ⟨_, rfl⟩
            rw [← hwe] at h3 ⊢
            clear hwe HFF a4
            go_loopw [12] (fun i wx => ∃ i' : Nat, i' ≤ k ∧ i = .int .i64 i' ∧ LFin w wx x j g (g + 1) zs) (fun i _ => k - (intOf i).toNat)
            case atStart => exact ⟨0, Nat.zero_le _, rfl, h3⟩
            case round =>
              obtain ⟨i, hi, rfl, hF⟩ := hrel
              by_cases hik : i < k
              · have hij : i < j + 1 := by have := HNM.out; omega
                have a1 := hF.row1 i hij
                have a5 := hF.row2 i hij
                have HFF := hid hF
                clear hF hij
                simp only [nd] at a1 a5
                go_wp2_with fail
                go_quiet (fail)
                go_wp2_with fail
                go_roundw
                case rel => exact ⟨i + 1, by omega, by go_num, HFF.out.drewN nq⟩
                case measure => simp [intOf]; omega
              · have hi' : i = k := by omega
                subst hi'
                have a6 := hF.cmp
                have HB := hF.below
                have hnf := eql_nilFunc
                clear hF
                go_wp2_with fail
                go_ret
                exact ⟨rfl, HB⟩

set_option maxHeartbeats 1000000 in
set_option maxRecDepth 100000 in
theorem last_any (a : Option Addr) (n cap : Nat) (zs : List Int) (w : World) (h : n = 0 ∨ ∃ x, a = some x ∧ ∀ i, i < n → w.cell? (x.add i) = some (.int .i64 (zs.getD i 0))) :
    Calls Yba.prog 5 #[.slice a n cap] w fun e w' => e = .returned (.bool true) ∧ Below w.heap.size w w' := by
  by_cases h0 : n = 0
  · subst h0
    go_enter Yba.func5, Yba.ntmps5
    go_wp2
    go_ret
    exact ⟨rfl, Below.refl _ _⟩
  · rcases h with rfl | ⟨x, rfl, hc⟩
    · exact absurd rfl h0
    · obtain ⟨m, rfl⟩ : ∃ m, n = m + 1 := ⟨n - 1, by omega⟩
      by_cases hbig : m + 1 ≤ 1024
      · exact last_some x m cap zs w hbig hc
      · obtain ⟨k, hk⟩ : ∃ k, k = m + 1 := ⟨_, rfl⟩
        rw [← hk] at hbig ⊢
        have hb0 : ((k : Int) == 0) = false := by simp; omega
        have hb1 : decide (1024 < (k : Int)) = true := by simp; omega
        clear hk hc h0
        go_enter Yba.func5, Yba.ntmps5
        go_wp2
        go_ret
        exact ⟨rfl, Below.refl _ _⟩
end Go.Proofs.Ybulkdfrq
