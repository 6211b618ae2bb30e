/-
  WALK OF fix.
-/
import Derived.Test.YbulkdfqaA4
namespace Go.Proofs.Ybulkdfqa
open Go.RowKit
set_option linter.unusedVariables false
set_option linter.unusedSimpArgs false

/-- a child that fix can look at -/
def ChOK (n : Nat) (S : St) (i : Nat) (p : Option Nat) : Prop := ∀ c, p = some c → c < n ∧ c ≠ i ∧ ∃ m, S.last c = some m ∧ m < n

def child (S : St) (i : Nat) : Nat → Option Nat
  | 0 => S.left i
  | _ => S.right i
def stM (D : Dat) (S : St) (i : Nat) : Nat → Nat
  | 0 => i
  | k + 1 => fixL D S (stM D S i k) (child S i k)
def stV (D : Dat) (S : St) (i : Nat) : Nat → Int
  | 0 => D.seq i
  | k + 1 => fixM S (stV D S i k) (child S i k)

/-- THE STATE OF fix's LOOP, k children looked at -/
structure FInv (g n : Nat) (D : Dat) (S : St) (i : Nat) (w wr : World) (k : Nat) : Prop where
  holds : Holds wr g n D ((S.setLast i (some (stM D S i k))).setMs i (stV D S i k))
  oth : Oth g g w wr
  mlt : stM D S i k < n

theorem run_index2 (x0 x1 : Value) (w : World) : (Instr.index 94 (.agg #[x0, x1]) (.int .i64 0)).run Yba.prog w = .ok x0 w ∧ (Instr.index 94 (.agg #[x0, x1]) (.int .i64 1)).run Yba.prog w = .ok x1 w := ⟨by kernel_rfl, by kernel_rfl⟩

theorem setSt_last (S : St) (i m : Nat) (v : Int) {c : Nat} (h : c ≠ i) : ((S.setLast i (some m)).setMs i v).last c = S.last c := upd_other _ _ h
theorem setSt_ms (S : St) (i m : Nat) (v : Int) {c : Nat} (h : c ≠ i) : ((S.setLast i (some m)).setMs i v).ms c = S.ms c := upd_other _ _ h
theorem setSt_last_same (S : St) (i m : Nat) (v : Int) : ((S.setLast i (some m)).setMs i v).last i = some m := upd_same _ _ _
theorem setSt_ms_same (S : St) (i m : Nat) (v : Int) : ((S.setLast i (some m)).setMs i v).ms i = v := upd_same _ _ _
theorem setSt_setSt (S : St) (i m m' : Nat) (v v' : Int) : (((S.setLast i (some m)).setMs i v).setLast i (some m')).setMs i v' = (S.setLast i (some m')).setMs i v' := by
  unfold St.setLast St.setMs
  congr 1
  · funext j; simp only [upd]; split <;> rfl
  · funext j; simp only [upd]; split <;> rfl
theorem setSt_setMs (S : St) (i m : Nat) (v v' : Int) : ((S.setLast i (some m)).setMs i v).setMs i v' = (S.setLast i (some m)).setMs i v' := by
  unfold St.setLast St.setMs
  congr 1
  funext j; simp only [upd]; split <;> rfl

/-- a child that is nil turns nothing -/
theorem finv_nil {g n : Nat} {D : Dat} {S : St} {i k : Nat} {w wr : World} (h : FInv g n D S i w wr k) (hc : child S i k = none) : FInv g n D S i w wr (k + 1) := by
  have e1 : stM D S i (k + 1) = stM D S i k := by show fixL _ _ _ _ = _; rw [hc]; rfl
  have e2 : stV D S i (k + 1) = stV D S i k := by show fixM _ _ _ = _; rw [hc]; rfl
  exact ⟨by rw [e1, e2]; exact h.holds, h.oth, by rw [e1]; exact h.mlt⟩

/-- a child that ends later -/
theorem finv_yes {g n : Nat} {D : Dat} {S : St} {i k c mc : Nat} {w wr wb : World} (h : FInv g n D S i w wr k) (hi : i < n) (hc : child S i k = some c) (hm : S.last c = some mc) (hml : mc < n) (hlt : 0 < cmpE (D.key mc) (D.key (stM D S i k)))
    (hb : Below wr.heap.size wr wb) : FInv g n D S i w ((wb.setCell ⟨g, i * 12 + 5, none⟩ (.pointer (some ⟨g, mc * 12, none⟩))).setCell ⟨g, i * 12 + 6, none⟩ (.int .u64 (if S.ms c < stV D S i k then S.ms c else stV D S i k))).drew (k + 1) := by
  have em : (if S.ms c < stV D S i k then S.ms c else stV D S i k) = min (stV D S i k) (S.ms c) := by split <;> omega
  rw [em]
  have e1 : stM D S i (k + 1) = mc := by show fixL _ _ _ _ = _; rw [hc]; simp [fixL, lastD, hm, hlt]
  have e2 : stV D S i (k + 1) = min (stV D S i k) (S.ms c) := by show fixM _ _ _ = _; rw [hc]; rfl
  have hw := h.holds.of_block (hb.block _ h.holds.lt)
  refine ⟨?_, ?_, by rw [e1]; exact hml⟩
  · rw [e1, e2]
    have := ((hw.setLast hi (some mc)).setMs hi (min (stV D S i k) (S.ms c)))
    rw [setSt_setSt] at this
    exact this
  · exact (((h.oth.trans (Oth.of_below hb)).setG _ _).setG _ _).drew

/-- one that does not -/
theorem finv_no {g n : Nat} {D : Dat} {S : St} {i k c mc : Nat} {w wr wb : World} (h : FInv g n D S i w wr k) (hi : i < n) (hc : child S i k = some c) (hm : S.last c = some mc) (hlt : ¬ 0 < cmpE (D.key mc) (D.key (stM D S i k)))
    (hb : Below wr.heap.size wr wb) : FInv g n D S i w (wb.setCell ⟨g, i * 12 + 6, none⟩ (.int .u64 (if S.ms c < stV D S i k then S.ms c else stV D S i k))).drew (k + 1) := by
  have em : (if S.ms c < stV D S i k then S.ms c else stV D S i k) = min (stV D S i k) (S.ms c) := by split <;> omega
  rw [em]
  have e1 : stM D S i (k + 1) = stM D S i k := by show fixL _ _ _ _ = _; rw [hc]; simp only [fixL, lastD, hm, Option.getD_some, if_neg hlt]
  have e2 : stV D S i (k + 1) = min (stV D S i k) (S.ms c) := by show fixM _ _ _ = _; rw [hc]; rfl
  have hw := h.holds.of_block (hb.block _ h.holds.lt)
  refine ⟨?_, ?_, by rw [e1]; exact h.mlt⟩
  · rw [e1, e2]
    have := (hw.setMs hi (min (stV D S i k) (S.ms c)))
    rw [setSt_setMs] at this
    exact this
  · exact ((h.oth.trans (Oth.of_below hb)).setG _ _).drew

set_option maxHeartbeats 2000000 in
set_option maxRecDepth 100000 in
theorem fix_any (g n : Nat) (D : Dat) (S : St) (i : Nat) (w : World) (h : Holds w g n D S) (hi : i < n) (hl : ChOK n S i (S.left i)) (hr : ChOK n S i (S.right i)) :
    Calls Yba.prog 17 #[.pointer (some ⟨g, i * 12, none⟩)] w fun e w' => e = .returned (.tuple #[]) ∧ Holds w' g n D (fixS D S i) ∧ Oth g g w w' := by
  have c5 := h.cell5 hi
  have c6 := h.cell6 hi
  have c7 := h.cell7 hi
  have f5 := h.frz (i * 12 + 5)
  have f6 := h.frz (i * 12 + 6)
  have H1 := hid ((h.setLast hi (some i)).setMs hi (D.seq i))
  have O1 := hid (((Oth.refl g g w).setG (i * 12 + 5) (ptrV g (some i))).setG (i * 12 + 6) (.int .u64 (D.seq i)))
  have HC := hid (And.intro hl hr)
  clear h hl hr
  obtain ⟨vl, hvl⟩ : ∃ v, v = adrO g (S.left i) := ⟨_, rfl⟩
  obtain ⟨vr, hvr⟩ : ∃ v, v = adrO g (S.right i) := ⟨_, rfl⟩
  have hgl : g < w.heap.size := World.block_lt_of_cell? _ _ c5
  have nb : Nonempty (Blw w.heap.size ((w.setCell ⟨g, i * 12 + 5, none⟩ (.pointer (some ⟨g, i * 12, none⟩))).setCell ⟨g, i * 12 + 6, none⟩ (.int .u64 (D.seq i)))) := ⟨⟨_, Below.refl _ _⟩⟩
  have d3 : ∀ x : Blw w.heap.size ((w.setCell ⟨g, i * 12 + 5, none⟩ (.pointer (some ⟨g, i * 12, none⟩))).setCell ⟨g, i * 12 + 6, none⟩ (.int .u64 (D.seq i))), x.val.cell? ⟨g, i * 12 + 3, none⟩ = some (.pointer vl) := fun x => by
    rw [hvl]; exact (x.prop.cell (p := ⟨g, _, none⟩) hgl).trans (H1.out.cell3 hi)
  have d4 : ∀ x : Blw w.heap.size ((w.setCell ⟨g, i * 12 + 5, none⟩ (.pointer (some ⟨g, i * 12, none⟩))).setCell ⟨g, i * 12 + 6, none⟩ (.int .u64 (D.seq i))), x.val.cell? ⟨g, i * 12 + 4, none⟩ = some (.pointer vr) := fun x => by
    rw [hvr]; exact (x.prop.cell (p := ⟨g, _, none⟩) hgl).trans (H1.out.cell4 hi)
  have HV := hid (And.intro hvl hvr)
  clear hvl hvr
  go_enter Yba.func17, Yba.ntmps17
  go_wp2_with fail
  refine wp_region_blw w.heap.size ((w.setCell ⟨g, i * 12 + 5, none⟩ (.pointer (some ⟨g, i * 12, none⟩))).setCell ⟨g, i * 12 + 6, none⟩ (.int .u64 (D.seq i))) (by kernel_rfl) (by kernel_rfl) (Below.refl _ _) ?_
  repeat (go_big_quiet_step (fail))
  refine wpQuiet_nil ?_
  rintro wa ⟨⟨_, hba⟩, rfl⟩
  have FI : Hid (FInv g n D S i w wa 0) := ⟨H1.out.of_block (hba.block _ hgl), O1.out.trans (Oth.of_below (hba.mono (by simp))), hi⟩
  clear d3 d4 nb c5 c6 c7 f5 f6 hba
  go_wp2_with fail
  go_loopw [24] (fun t wr => ∃ k : Nat, k ≤ 2 ∧ t = .int .i64 k ∧ FInv g n D S i w wr k) (fun t _ => 2 - (intOf t).toNat)
  case atStart => exact ⟨0, by omega, rfl, FI.out⟩
  case round =>
    obtain ⟨k, hk, rfl, hI⟩ := hrel
    have hix := fun x0 x1 w => (run_index2 x0 x1 w).1
    have hix1 := fun x0 x1 w => (run_index2 x0 x1 w).2
    by_cases hk2 : k = 2
    · subst hk2
      have HI := hid hI
      clear hI
      go_wp2_with fail
      go_end0
      exact ⟨rfl, HI.out.holds, HI.out.oth⟩
    · by_cases hk0 : k = 0
      · subst hk0
        cases hL : S.left i with
        | none =>
          have e : vl = none := by rw [HV.out.1, hL]; rfl
          subst e
          have HI := hid (finv_nil hI hL)
          clear hI hL
          go_wp2_with fail
          go_roundw
          case rel => exact ⟨1, by omega, rfl, HI.out⟩
          case measure => simp [intOf]
        | some c =>
          have e : vl = some ⟨g, c * 12, none⟩ := by rw [HV.out.1, hL]; rfl
          subst e
          obtain ⟨hcn, hci, mc, hmc, hmn⟩ := HC.out.1 c hL
          obtain ⟨m, hm⟩ : ∃ m, m = stM D S i 0 := ⟨_, rfl⟩
          obtain ⟨v, hv⟩ : ∃ v, v = stV D S i 0 := ⟨_, rfl⟩
          have hmm : m < n := by rw [hm]; exact hI.mlt
          have hH := hI.holds
          rw [← hm, ← hv] at hH
          have gw : g < wr.heap.size := hH.lt
          have a5 := hH.cell5 hcn
          rw [setSt_last _ _ _ _ hci, hmc] at a5
          have a6 := hH.cell6 hcn
          rw [setSt_ms _ _ _ _ hci] at a6
          have b5 := hH.cell5 hi
          rw [setSt_last_same] at b5
          have b6 := hH.cell6 hi
          rw [setSt_ms_same] at b6
          have k0 := hH.cell0 hmn
          have k1 := hH.cell1 hmn
          have k2 := hH.cell2 hmn
          have l0 := hH.cell0 hmm
          have l1 := hH.cell1 hmm
          have l2 := hH.cell2 hmm
          have fz := fun o => hH.frz o
          have HM := hid (And.intro hm hv)
          have HI := hid hI
          have HL := hid hL
          have HMC := hid hmc
          clear hm hv hI hH hL hmc
          have old : ∀ (x : Blw wr.heap.size wr) (o : Nat) (u : Value), wr.cell? ⟨g, o, none⟩ = some u → x.val.cell? ⟨g, o, none⟩ = some u := fun x o u hu => (x.prop.cell (p := ⟨g, o, none⟩) gw).trans hu
          have nb : Nonempty (Blw wr.heap.size wr) := ⟨⟨_, Below.refl _ _⟩⟩
          have A5 := fun x => old x _ _ a5
          have A6 := fun x => old x _ _ a6
          have B5 := fun x => old x _ _ b5
          have B6 := fun x => old x _ _ b6
          have K0 := fun x => old x _ _ k0
          have K1 := fun x => old x _ _ k1
          have K2 := fun x => old x _ _ k2
          have L0 := fun x => old x _ _ l0
          have L1 := fun x => old x _ _ l1
          have L2 := fun x => old x _ _ l2
          have FZ := fun (x : Blw wr.heap.size wr) o => (x.prop.frozen (p := ⟨g, o, none⟩) gw).trans (fz o)
          simp only [ptrV, adrO] at A5 B5
          clear old a5 a6 b5 b6 k0 k1 k2 l0 l1 l2 fz
          by_cases hlt : 0 < cmpE (D.key mc) (D.key m)
          · have HLT := hid hlt
            have hdt : decide (0 < cmpE (D.key mc) (D.key m)) = true := by simpa using hlt
            clear hlt
            go_wp2_with fail
            refine wp_region_blw wr.heap.size wr (by kernel_rfl) (by kernel_rfl) (Below.refl _ _) ?_
            repeat (go_big_quiet_step ((go_at_call 24; refine Calls.blw (v := .bool true) _ ((endsAfter_any (D.key mc) (D.key m) _).mono ?_); rintro e w' ⟨rfl, hb'⟩; exact ⟨by rw [hdt], hb'.mono (Blw.prop _).size⟩)))
            refine wpQuiet_nil ?_
            rintro wb ⟨⟨_, hbb⟩, rfl⟩
            have a6 := A6 ⟨wb, hbb⟩
            have a5 := A5 ⟨wb, hbb⟩
            have b5 := B5 ⟨wb, hbb⟩
            have b6 := B6 ⟨wb, hbb⟩
            have fz := FZ ⟨wb, hbb⟩
            simp only at a5 a6 b5 b6 fz
            have HB := hid hbb
            clear A5 A6 B5 B6 K0 K1 K2 L0 L1 L2 FZ nb hbb
            go_wp2_with fail
            go_region
            go_wp2_with fail
            go_roundw
            case rel =>
              refine ⟨1, by omega, rfl, ?_⟩
              have := finv_yes HI.out hi HL.out HMC.out hmn (by rw [← HM.out.1]; have := HLT.out; omega) HB.out
              rw [← HM.out.2] at this
              exact this
            case measure => simp [intOf]
          · have HLT := hid hlt
            have hdt : decide (0 < cmpE (D.key mc) (D.key m)) = false := by simpa using hlt
            clear hlt
            go_wp2_with fail
            refine wp_region_blw wr.heap.size wr (by kernel_rfl) (by kernel_rfl) (Below.refl _ _) ?_
            repeat (go_big_quiet_step ((go_at_call 24; refine Calls.blw (v := .bool false) _ ((endsAfter_any (D.key mc) (D.key m) _).mono ?_); rintro e w' ⟨rfl, hb'⟩; exact ⟨by rw [hdt], hb'.mono (Blw.prop _).size⟩)))
            refine wpQuiet_nil ?_
            rintro wb ⟨⟨_, hbb⟩, rfl⟩
            have a6 := A6 ⟨wb, hbb⟩
            have b6 := B6 ⟨wb, hbb⟩
            have fz := FZ ⟨wb, hbb⟩
            simp only at a6 b6 fz
            have HB := hid hbb
            clear A5 A6 B5 B6 K0 K1 K2 L0 L1 L2 FZ nb hbb
            go_wp2_with fail
            go_region
            go_wp2_with fail
            go_roundw
            case rel =>
              refine ⟨1, by omega, rfl, ?_⟩
              have := finv_no HI.out hi HL.out HMC.out (by rw [← HM.out.1]; have := HLT.out; omega) HB.out
              rw [← HM.out.2] at this
              exact this
            case measure => simp [intOf]
      · have e1 : k = 1 := by omega
        subst e1
        cases hL : S.right i with
        | none =>
          have e : vr = none := by rw [HV.out.2, hL]; rfl
          subst e
          have HI := hid (finv_nil hI hL)
          clear hI hL
          go_wp2_with fail
          go_roundw
          case rel => exact ⟨2, by omega, rfl, HI.out⟩
          case measure => simp [intOf]
        | some c =>
          have e : vr = some ⟨g, c * 12, none⟩ := by rw [HV.out.2, hL]; rfl
          subst e
          obtain ⟨hcn, hci, mc, hmc, hmn⟩ := HC.out.2 c hL
          obtain ⟨m, hm⟩ : ∃ m, m = stM D S i 1 := ⟨_, rfl⟩
          obtain ⟨v, hv⟩ : ∃ v, v = stV D S i 1 := ⟨_, rfl⟩
          have hmm : m < n := by rw [hm]; exact hI.mlt
          have hH := hI.holds
          rw [← hm, ← hv] at hH
          have gw : g < wr.heap.size := hH.lt
          have a5 := hH.cell5 hcn
          rw [setSt_last _ _ _ _ hci, hmc] at a5
          have a6 := hH.cell6 hcn
          rw [setSt_ms _ _ _ _ hci] at a6
          have b5 := hH.cell5 hi
          rw [setSt_last_same] at b5
          have b6 := hH.cell6 hi
          rw [setSt_ms_same] at b6
          have k0 := hH.cell0 hmn
          have k1 := hH.cell1 hmn
          have k2 := hH.cell2 hmn
          have l0 := hH.cell0 hmm
          have l1 := hH.cell1 hmm
          have l2 := hH.cell2 hmm
          have fz := fun o => hH.frz o
          have HM := hid (And.intro hm hv)
          have HI := hid hI
          have HL := hid hL
          have HMC := hid hmc
          clear hm hv hI hH hL hmc
          have old : ∀ (x : Blw wr.heap.size wr) (o : Nat) (u : Value), wr.cell? ⟨g, o, none⟩ = some u → x.val.cell? ⟨g, o, none⟩ = some u := fun x o u hu => (x.prop.cell (p := ⟨g, o, none⟩) gw).trans hu
          have nb : Nonempty (Blw wr.heap.size wr) := ⟨⟨_, Below.refl _ _⟩⟩
          have A5 := fun x => old x _ _ a5
          have A6 := fun x => old x _ _ a6
          have B5 := fun x => old x _ _ b5
          have B6 := fun x => old x _ _ b6
          have K0 := fun x => old x _ _ k0
          have K1 := fun x => old x _ _ k1
          have K2 := fun x => old x _ _ k2
          have L0 := fun x => old x _ _ l0
          have L1 := fun x => old x _ _ l1
          have L2 := fun x => old x _ _ l2
          have FZ := fun (x : Blw wr.heap.size wr) o => (x.prop.frozen (p := ⟨g, o, none⟩) gw).trans (fz o)
          simp only [ptrV, adrO] at A5 B5
          clear old a5 a6 b5 b6 k0 k1 k2 l0 l1 l2 fz
          by_cases hlt : 0 < cmpE (D.key mc) (D.key m)
          · have HLT := hid hlt
            have hdt : decide (0 < cmpE (D.key mc) (D.key m)) = true := by simpa using hlt
            clear hlt
            go_wp2_with fail
            refine wp_region_blw wr.heap.size wr (by kernel_rfl) (by kernel_rfl) (Below.refl _ _) ?_
            repeat (go_big_quiet_step ((go_at_call 24; refine Calls.blw (v := .bool true) _ ((endsAfter_any (D.key mc) (D.key m) _).mono ?_); rintro e w' ⟨rfl, hb'⟩; exact ⟨by rw [hdt], hb'.mono (Blw.prop _).size⟩)))
            refine wpQuiet_nil ?_
            rintro wb ⟨⟨_, hbb⟩, rfl⟩
            have a6 := A6 ⟨wb, hbb⟩
            have a5 := A5 ⟨wb, hbb⟩
            have b5 := B5 ⟨wb, hbb⟩
            have b6 := B6 ⟨wb, hbb⟩
            have fz := FZ ⟨wb, hbb⟩
            simp only at a5 a6 b5 b6 fz
            have HB := hid hbb
            clear A5 A6 B5 B6 K0 K1 K2 L0 L1 L2 FZ nb hbb
            go_wp2_with fail
            go_region
            go_wp2_with fail
            go_roundw
            case rel =>
              refine ⟨2, by omega, rfl, ?_⟩
              have := finv_yes HI.out hi HL.out HMC.out hmn (by rw [← HM.out.1]; have := HLT.out; omega) HB.out
              rw [← HM.out.2] at this
              exact this
            case measure => simp [intOf]
          · have HLT := hid hlt
            have hdt : decide (0 < cmpE (D.key mc) (D.key m)) = false := by simpa using hlt
            clear hlt
            go_wp2_with fail
            refine wp_region_blw wr.heap.size wr (by kernel_rfl) (by kernel_rfl) (Below.refl _ _) ?_
            repeat (go_big_quiet_step ((go_at_call 24; refine Calls.blw (v := .bool false) _ ((endsAfter_any (D.key mc) (D.key m) _).mono ?_); rintro e w' ⟨rfl, hb'⟩; exact ⟨by rw [hdt], hb'.mono (Blw.prop _).size⟩)))
            refine wpQuiet_nil ?_
            rintro wb ⟨⟨_, hbb⟩, rfl⟩
            have a6 := A6 ⟨wb, hbb⟩
            have b6 := B6 ⟨wb, hbb⟩
            have fz := FZ ⟨wb, hbb⟩
            simp only at a6 b6 fz
            have HB := hid hbb
            clear A5 A6 B5 B6 K0 K1 K2 L0 L1 L2 FZ nb hbb
            go_wp2_with fail
            go_region
            go_wp2_with fail
            go_roundw
            case rel =>
              refine ⟨2, by omega, rfl, ?_⟩
              have := finv_no HI.out hi HL.out HMC.out (by rw [← HM.out.1]; have := HLT.out; omega) HB.out
              rw [← HM.out.2] at this
              exact this
            case measure => simp [intOf]
end Go.Proofs.Ybulkdfqa
