/-
  LawS5346CStack: THE WALK.
-/
import Derived.Test.YbulkdfrqS2
import Derived.OwnWalk
import Derived.Deep.DeepCutAuto
namespace Go.Proofs.Ybulkdfrq
open Go.RowKit
set_option linter.unusedVariables false
set_option linter.unusedSimpArgs false

theorem Yba.infoS3 : (Yba.prog.info? 3).map (fun i => (i.zero, i.size, i.bytes)) = some (some (.int .i64 0), 1, 8) := by kernel_rfl

/-- the number of round k -/
def itemOf (zs : List Int) (m k : Nat) : Int := if k < m then zs.getD k 0 else k

def RowOf (ik : IntKind) (w : World) (a : Option Addr) (n : Nat) (zs : List Int) : Prop := n = 0 ∨ ∃ x, a = some x ∧ ∀ i, i < n → w.cell? (x.add i) = some (.int ik (zs.getD i 0))

theorem sinv_start {w w3 : World} {n : Nat} (h1 : w3.ownsRow (w.heap.size + 1) 3 1 (.slice (some ⟨w.heap.size + 1, 0, none⟩) 0 n) 0 []) (h2 : (w.alloc (.cells #[.slice none 0 0, .nilFunc] 39)).grownBy w3 none) : SInv w w3 n none 0 [] [] := by
  have hsz : (w.alloc (.cells #[.slice none 0 0, .nilFunc] 39)).heap.size = w.heap.size + 1 := World.size_alloc _ _
  have hs2 := (h1.lt (w.heap.size + 1) rfl).2
  have hs := h2.size
  refine ⟨⟨h2.os, h2.tape, h2.output, by omega, fun k hk => (h2.block k (by omega) (by simp)).trans (Go.Deep.blk_alloc_lt _ _ _ hk)⟩, by omega, (h2.block _ (by omega) (by simp)).trans (Go.Deep.blk_alloc_new _ _), World.ownsRow_nil _ _ _ _, h1, by simp⟩

theorem last_of {α : Type} {xs ys : List α} {x : α} (h : xs = ys ++ [x]) : xs[ys.length]? = some x := by rw [h]; simp

theorem pop_of2 {w wx : World} {n cap g : Nat} {xs ys : List (Nat × Int)} {x : Nat × Int} {ms : List Int} (h : SInv w wx n (some ⟨g, 0, none⟩) cap xs ms) (hxy : xs = ys ++ [x]) (hL : ys.length + 1 ≤ 1024) :
    Calls Yba.prog 11 #[.pointer (some ⟨w.heap.size, 0, none⟩)] wx fun e w' => e = .returned (.iface 30 (.pointer (some ⟨x.1, 0, none⟩))) ∧ w' = wx.setCell ⟨w.heap.size, 0, none⟩ (.slice (some ⟨g, 0, none⟩) ys.length cap) := by
  have hl : xs.length = ys.length + 1 := by rw [hxy]; simp
  obtain ⟨g', hg, hcap, _⟩ := h.form (by omega)
  have c0 := c_cell h.head
  rw [hl] at c0 hcap
  exact pop_any w.heap.size g ys.length cap (some ⟨x.1, 0, none⟩) wx hL hcap c0 (c_frz h.head 0) (h.cellH (last_of hxy))

theorem sinv_pop2 {w wx : World} {n cap : Nat} {ao : Option Addr} {xs ys : List (Nat × Int)} {x : Nat × Int} (h : SInv w wx n ao cap xs (xs.map (·.2))) (hxy : xs = ys ++ [x]) :
    SInv w (wx.setCell ⟨w.heap.size, 0, none⟩ (.slice ao ys.length cap)) n ao cap ys (ys.map (·.2)) ∧ (wx.setCell ⟨w.heap.size, 0, none⟩ (.slice ao ys.length cap)).cell? ⟨x.1, 3, none⟩ = some (.int .i64 x.2) ∧
      (wx.setCell ⟨w.heap.size, 0, none⟩ (.slice ao ys.length cap)).cell? ⟨w.heap.size + 1, ys.length, none⟩ = some (.int .i64 x.2) := by
  subst hxy
  have h1 := sinv_pop h
  refine ⟨?_, ?_, ?_⟩
  · rw [List.map_append] at h1
    exact h1.mpop
  · obtain ⟨a1, a2⟩ := h.nodes x (by simp)
    have := (Go.Deep.blk_setCell_other wx ⟨w.heap.size, 0, none⟩ (.slice ao ys.length cap) x.1 (by show x.1 ≠ w.heap.size; omega)).trans a2
    simp only [World.cell?, this, rdObj]
    rfl
  · exact h1.cellM (by simp)

set_option maxHeartbeats 1000000 in
set_option maxRecDepth 100000 in
theorem stack_some (a0 a1 : Option Addr) (n c0 m c1 : Nat) (os zs : List Int) (w : World) (hn : n ≤ 1024) (h0 : RowOf .u8 w a0 n os) (h1 : RowOf .i64 w a1 m zs) (hos : ∀ i, i < n → 0 ≤ os.getD i 0 ∧ os.getD i 0 ≤ 255) :
    Calls Yba.prog 6 #[.slice a0 n c0, .slice a1 m c1] w fun e w' => e = .returned (.bool true) ∧ Below w.heap.size w w' := by
  obtain ⟨i0, hi, hz0, hz1, hz2⟩ := info_parts Yba.infoS3
  have hn2 : (n : Int) ≤ 1024 := by omega
  have H0 := hid h0
  have H1 := hid h1
  clear h0 h1
  go_enter Yba.func6, Yba.ntmps6
  go_wp2_with (at_make; refine wpList_make_own _ rfl _ _ 28 rfl (w.heap.size + 1) 3 i0 (.int .i64 0) 1 Yba.underlying28 hi hz0 hz1 .i64 .i64 _ n rfl rfl (by omega) (by rw [hz2]; omega) (by unfold maxLen; omega) (by rw [World.size_alloc]; exact Nat.le_refl _) ?_)
  intro w3 hown3 hgrow3
  have hS : SInv w w3 n none 0 [] [] := sinv_start hown3 hgrow3
  have HS := hid hS
  clear hS hown3 hgrow3
  go_wp2_with fail
  go_loopw [7, 6] (fun i v wx => ∃ k : Nat, ∃ xs : List (Nat × Int), ∃ ao cap, k ≤ n ∧ i = .int .i64 k ∧ v = .slice (some ⟨w.heap.size + 1, 0, none⟩) xs.length n ∧ xs.length ≤ k ∧ SInv w wx n ao cap xs (xs.map (·.2))) (fun i _ _ => n - (intOf i).toNat)
  case atStart => exact ⟨0, [], none, 0, Nat.zero_le _, rfl, rfl, Nat.le_refl _, HS.out⟩
  case round =>
    obtain ⟨k, xs, ao, cap, hk, rfl, rfl, hlen, hI⟩ := hrel
    by_cases hlt : k < n
    · have HI := hid hI
      have hL : xs.length ≤ 1024 := by omega
      have hLn : xs.length < n := by omega
      clear hI HS
      obtain ⟨x0, rfl, hc0⟩ : ∃ x, a0 = some x ∧ ∀ i, i < n → w.cell? (x.add i) = some (.int .u8 (os.getD i 0)) := by
        rcases H0.out with h | h
        · omega
        · exact h
      have d0 := (HI.out.below.cell (World.block_lt_of_cell? _ _ (hc0 k hlt))).trans (hc0 k hlt)
      obtain ⟨o, ho⟩ : ∃ o, o = os.getD k 0 := ⟨_, rfl⟩
      rw [← ho] at d0
      have hob := hos k hlt
      rw [← ho] at hob
      clear ho hc0
      by_cases hkm : k < m
      · obtain ⟨x1, rfl, hc1⟩ : ∃ x, a1 = some x ∧ ∀ i, i < m → w.cell? (x.add i) = some (.int .i64 (zs.getD i 0)) := by
          rcases H1.out with h | h
          · omega
          · exact h
        have d1 := (HI.out.below.cell (World.block_lt_of_cell? _ _ (hc1 k hkm))).trans (hc1 k hkm)
        obtain ⟨z, hz⟩ : ∃ z, z = zs.getD k 0 := ⟨_, rfl⟩
        rw [← hz] at d1
        clear hc1 hz
        by_cases hev : o % 2 = 0
        · have hev' : (o % 2 == 0) = true := by simp [hev]
          have hpush := push_any w.heap.size xs.length cap (w.heap.size + 2) ao ⟨wr.heap.size, 0, none⟩ (xs.map ptr) (wr.alloc (rdObj z)) hL (by omega) (by rw [World.size_alloc]; have := HI.out.big; omega) (HI.out.alloc _).head (HI.out.alloc _).own
          have HP := hid hpush
          clear hpush
          go_wp2_with fail
          refine HP.out.mono ?_
          rintro e wp ⟨rfl, g, cap', q1, q2, q3, q4⟩
          have HJ := hid (sinv_push (z := z) HI.out q1 q2 q3)
          clear HP HI q1 q2 q3 q4
          have hm1 := (HJ.out.alloc (.cells #[.int .i64 z] 3)).model
          rw [List.length_map] at hm1
          have h1n : ∀ j u, [Value.int .i64 z][j]? = some u → (wp.alloc (.cells #[.int .i64 z] 3)).cell? ((⟨wp.heap.size, 0, none⟩ : Addr).add j) = some u := World.news_of_block (cs := #[.int .i64 z]) (Go.Deep.blk_alloc_new wp _)
          go_wp2_with (at_builtin; refine wpList_append_fits _ rfl (.tmp 48) (.tmp 50) 28 rfl (w.heap.size + 1) 3 i0 1 Yba.underlying28 hi hz1 (w.heap.size + 1) xs.length n ((xs.map (·.2)).map num) rfl hm1 ⟨wp.heap.size, 0, none⟩ 1 1 [.int .i64 z] rfl rfl h1n (by simp [Value.oneCell']) (by omega) ?_)
          intro w5 hown5 hgrow5
          have HJ2 := hid (sinv_app (z := z) HJ.out (by rw [List.length_map, List.map_map]; exact hown5) hgrow5)
          have t0 := c_cell HJ2.out.head
          have t1 := c_cell1 HJ2.out.head
          rw [List.length_append, show [(wr.heap.size, (z : Int))].length = 1 from rfl] at t0
          clear HJ hm1 h1n hown5 hgrow5
          have HL := hid (len_any (some ⟨g, 0, none⟩) (xs.length + 1) cap' .nilFunc w5)
          go_wp2_with fail
          refine HL.out.mono ?_
          rintro e wl ⟨rfl, rfl⟩
          go_wp2_with fail
          go_roundw
          case rel =>
            refine ⟨k + 1, xs ++ [(wr.heap.size, (z : Int))], some ⟨g, 0, none⟩, cap', by omega, by go_num, by simp, by simp; omega, ?_⟩
            rw [List.map_append]
            exact HJ2.out.alloc _
          case measure => simp [intOf]; omega
        · have hev' : (o % 2 == 0) = false := by simp [hev]
          by_cases hpos : 0 < xs.length
          · obtain ⟨ys, x, hxy⟩ : ∃ ys x, xs = ys ++ [x] := ⟨xs.dropLast, xs.getLast (by intro h; simp [h] at hpos), (List.dropLast_concat_getLast _).symm⟩
            obtain ⟨g, hg, hcap, hg2⟩ := HI.out.form hpos
            subst hg
            have HXY := hid hxy
            have hlen2 : xs.length = ys.length + 1 := by rw [hxy]; simp
            have HLL := hid hlen2
            have hx1 : (xs.length : Int) - 1 = ys.length := by omega
            have hyx : ys.length < xs.length := by omega
            have hyn : ys.length ≤ n := by omega
            have hpop := pop_of2 HI.out hxy (by omega)
            obtain ⟨hI2, n3, hmc⟩ := sinv_pop2 HI.out hxy
            have HP := hid hpop
            have HN := hid (And.intro hI2 (And.intro n3 hmc))
            clear hpop hxy hlen2 hI2 n3 hmc
            go_wp2_with fail
            refine HP.out.mono ?_
            rintro e wq ⟨rfl, hwq⟩
            obtain ⟨hI2, n3, hmc⟩ := HN.out
            rw [← hwq] at hI2 n3 hmc
            have HI2 := hid hI2
            have t0 := c_cell hI2.head
            have t1 := c_cell1 hI2.head
            have hta := assert30
            have HWQ := hid hwq
            clear HP HN hwq hI2
            go_wp2_with fail
            go_quiet (fail)
            have HL := hid (len_any (some ⟨g, 0, none⟩) ys.length cap .nilFunc (wq.drewN nq))
            go_wp2_with fail
            refine HL.out.mono ?_
            rintro e wl ⟨rfl, rfl⟩
            go_wp2_with fail
            go_roundw
            case rel => exact ⟨k + 1, ys, some ⟨g, 0, none⟩, cap, by omega, by go_num, by simp, by omega, (HI2.out.drewN nq).alloc _⟩
            case measure => simp [intOf]; omega
          · have t0 := c_cell HI.out.head
            have t1 := c_cell1 HI.out.head
            have HL := hid (len_any ao xs.length cap .nilFunc wr)
            go_wp2_with fail
            refine HL.out.mono ?_
            rintro e wl ⟨rfl, rfl⟩
            go_wp2_with fail
            go_roundw
            case rel => exact ⟨k + 1, xs, ao, cap, by omega, by go_num, rfl, by omega, HI.out.alloc _⟩
            case measure => simp [intOf]; omega
      · skip
        by_cases hev : o % 2 = 0
        · have hev' : (o % 2 == 0) = true := by simp [hev]
          have hpush := push_any w.heap.size xs.length cap (w.heap.size + 2) ao ⟨wr.heap.size, 0, none⟩ (xs.map ptr) (wr.alloc (rdObj (k : Int))) hL (by omega) (by rw [World.size_alloc]; have := HI.out.big; omega) (HI.out.alloc _).head (HI.out.alloc _).own
          have HP := hid hpush
          clear hpush
          go_wp2_with fail
          refine HP.out.mono ?_
          rintro e wp ⟨rfl, g, cap', q1, q2, q3, q4⟩
          have HJ := hid (sinv_push (z := (k : Int)) HI.out q1 q2 q3)
          clear HP HI q1 q2 q3 q4
          have hm1 := (HJ.out.alloc (.cells #[.int .i64 (k : Int)] 3)).model
          rw [List.length_map] at hm1
          have h1n : ∀ j u, [Value.int .i64 (k : Int)][j]? = some u → (wp.alloc (.cells #[.int .i64 (k : Int)] 3)).cell? ((⟨wp.heap.size, 0, none⟩ : Addr).add j) = some u := World.news_of_block (cs := #[.int .i64 (k : Int)]) (Go.Deep.blk_alloc_new wp _)
          go_wp2_with (at_builtin; refine wpList_append_fits _ rfl (.tmp 48) (.tmp 50) 28 rfl (w.heap.size + 1) 3 i0 1 Yba.underlying28 hi hz1 (w.heap.size + 1) xs.length n ((xs.map (·.2)).map num) rfl hm1 ⟨wp.heap.size, 0, none⟩ 1 1 [.int .i64 (k : Int)] rfl rfl h1n (by simp [Value.oneCell']) (by omega) ?_)
          intro w5 hown5 hgrow5
          have HJ2 := hid (sinv_app (z := (k : Int)) HJ.out (by rw [List.length_map, List.map_map]; exact hown5) hgrow5)
          have t0 := c_cell HJ2.out.head
          have t1 := c_cell1 HJ2.out.head
          rw [List.length_append, show [(wr.heap.size, ((k : Int) : Int))].length = 1 from rfl] at t0
          clear HJ hm1 h1n hown5 hgrow5
          have HL := hid (len_any (some ⟨g, 0, none⟩) (xs.length + 1) cap' .nilFunc w5)
          go_wp2_with fail
          refine HL.out.mono ?_
          rintro e wl ⟨rfl, rfl⟩
          go_wp2_with fail
          go_roundw
          case rel =>
            refine ⟨k + 1, xs ++ [(wr.heap.size, ((k : Int) : Int))], some ⟨g, 0, none⟩, cap', by omega, by go_num, by simp, by simp; omega, ?_⟩
            rw [List.map_append]
            exact HJ2.out.alloc _
          case measure => simp [intOf]; omega
        · have hev' : (o % 2 == 0) = false := by simp [hev]
          by_cases hpos : 0 < xs.length
          · obtain ⟨ys, x, hxy⟩ : ∃ ys x, xs = ys ++ [x] := ⟨xs.dropLast, xs.getLast (by intro h; simp [h] at hpos), (List.dropLast_concat_getLast _).symm⟩
            obtain ⟨g, hg, hcap, hg2⟩ := HI.out.form hpos
            subst hg
            have HXY := hid hxy
            have hlen2 : xs.length = ys.length + 1 := by rw [hxy]; simp
            have HLL := hid hlen2
            have hx1 : (xs.length : Int) - 1 = ys.length := by omega
            have hyx : ys.length < xs.length := by omega
            have hyn : ys.length ≤ n := by omega
            have hpop := pop_of2 HI.out hxy (by omega)
            obtain ⟨hI2, n3, hmc⟩ := sinv_pop2 HI.out hxy
            have HP := hid hpop
            have HN := hid (And.intro hI2 (And.intro n3 hmc))
            clear hpop hxy hlen2 hI2 n3 hmc
            go_wp2_with fail
            refine HP.out.mono ?_
            rintro e wq ⟨rfl, hwq⟩
            obtain ⟨hI2, n3, hmc⟩ := HN.out
            rw [← hwq] at hI2 n3 hmc
            have HI2 := hid hI2
            have t0 := c_cell hI2.head
            have t1 := c_cell1 hI2.head
            have hta := assert30
            have HWQ := hid hwq
            clear HP HN hwq hI2
            go_wp2_with fail
            go_quiet (fail)
            have HL := hid (len_any (some ⟨g, 0, none⟩) ys.length cap .nilFunc (wq.drewN nq))
            go_wp2_with fail
            refine HL.out.mono ?_
            rintro e wl ⟨rfl, rfl⟩
            go_wp2_with fail
            go_roundw
            case rel => exact ⟨k + 1, ys, some ⟨g, 0, none⟩, cap, by omega, by go_num, by simp, by omega, (HI2.out.drewN nq).alloc _⟩
            case measure => simp [intOf]; omega
          · have t0 := c_cell HI.out.head
            have t1 := c_cell1 HI.out.head
            have HL := hid (len_any ao xs.length cap .nilFunc wr)
            go_wp2_with fail
            refine HL.out.mono ?_
            rintro e wl ⟨rfl, rfl⟩
            go_wp2_with fail
            go_roundw
            case rel => exact ⟨k + 1, xs, ao, cap, by omega, by go_num, rfl, by omega, HI.out.alloc _⟩
            case measure => simp [intOf]; omega
    · have hkn : k = n := by omega
      subst hkn
      clear HS H0 H1
      have HI := hid hI
      have hL : xs.length ≤ 1024 := by omega
      have hLn : xs.length ≤ k := by omega
      clear hI
      go_wp2_with fail
      go_loopw [12] (fun i wx => ∃ j : Nat, j ≤ xs.length ∧ i = .int .i64 j ∧ SInv w wx k ao cap xs (xs.map (·.2))) (fun i _ => xs.length - (intOf i).toNat)
      case atStart => exact ⟨0, Nat.zero_le _, rfl, HI.out⟩
      case round =>
        obtain ⟨j, hj, rfl, hI⟩ := hrel
        by_cases hjl : j < xs.length
        · obtain ⟨g, hg, hcap, hg2⟩ := hI.form (by omega)
          subst hg
          obtain ⟨x, hx⟩ : ∃ x, xs[j]? = some x := ⟨_, List.getElem?_eq_getElem hjl⟩
          have t0 := c_cell hI.head
          have t2 := hI.cellH hx
          have t3 := hI.cellN hx
          have t4 := hI.cellM (j := j) (z := x.2) (by simp [hx])
          have HJ := hid hI
          have HX := hid hx
          obtain ⟨bx, zx⟩ := x
          simp only at t2 t3 t4
          clear hI hx
          go_wp2_with fail
          go_quiet (fail)
          go_wp2_with fail
          go_roundw
          case rel => exact ⟨j + 1, by omega, by go_num, HJ.out.drewN nq⟩
          case measure => simp [intOf]; omega
        · have HB := hI.below
          clear hI
          go_wp2_with fail
          go_ret
          exact ⟨rfl, HB⟩

set_option maxHeartbeats 1000000 in
set_option maxRecDepth 100000 in
theorem stack_any (a0 a1 : Option Addr) (n c0 m c1 : Nat) (os zs : List Int) (w : World) (h0 : RowOf .u8 w a0 n os) (h1 : RowOf .i64 w a1 m zs) (hos : ∀ i, i < n → 0 ≤ os.getD i 0 ∧ os.getD i 0 ≤ 255) :
    Calls Yba.prog 6 #[.slice a0 n c0, .slice a1 m c1] w fun e w' => e = .returned (.bool true) ∧ Below w.heap.size w w' := by
  by_cases hn : n ≤ 1024
  · exact stack_some a0 a1 n c0 m c1 os zs w hn h0 h1 hos
  · have hb1 : decide (1024 < (n : Int)) = true := by simp; omega
    clear h0 h1 hos
    go_enter Yba.func6, Yba.ntmps6
    go_wp2
    go_ret
    exact ⟨rfl, Below.refl _ _⟩

end Go.Proofs.Ybulkdfrq
