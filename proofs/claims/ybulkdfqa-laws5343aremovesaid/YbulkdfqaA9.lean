/-
  WALK OF remove.
-/
import Derived.Test.YbulkdfqaA8
namespace Go.Proofs.Ybulkdfqa
open Go.RowKit
set_option linter.unusedVariables false
set_option linter.unusedSimpArgs false

/-- WHAT remove DOES -/
def RemPost (g n rb : Nat) (D : Dat) (k : Nat) (S : St) (xs : List Nat) (w : World) (e : Ending) (w' : World) : Prop :=
  ∃ S' r, e = .returned (.pointer (adrO g r)) ∧ Holds w' g n D S' ∧ RemOK D S S' xs k r ∧ Oth g rb w w' ∧ w'.cell? ⟨rb, 0, none⟩ = some (.pointer (some ⟨g, k * 12, none⟩)) ∧ w'.frozen? ⟨rb, 0, none⟩ = false

set_option maxHeartbeats 4000000 in
set_option maxRecDepth 100000 in
theorem remove_any (g n rb : Nat) (D : Dat) (k : Nat) (hrg : rb ≠ g) : ∀ (d : Nat) (S : St) (p : Option Nat) (xs : List Nat) (w : World), Holds w g n D S → Tr D S d p xs → k ∈ xs → Srt D xs → (∀ x ∈ xs, x < n) →
    ∀ v0, w.cell? ⟨rb, 0, none⟩ = some v0 → w.frozen? ⟨rb, 0, none⟩ = false →
    Calls Yba.prog 8 #[.pointer (adrO g p), kyV (D.key k), .int .u64 (D.seq k), .pointer (some ⟨rb, 0, none⟩)] w (RemPost g n rb D k S xs w) := by
  intro d
  induction d with
  | zero =>
    intro S p xs w h ht hk _ _ _ _ _
    obtain ⟨rfl, rfl⟩ := ht
    cases hk
  | succ d ih =>
    intro S p xs w h ht hk hs hX vr0 hvr0 hfr0
    rcases ht with ⟨rfl, rfl⟩ | ⟨i, ls, rs, rfl, hxs, tl, tr, hh, hnode⟩
    · cases hk
    have hin : i < n := hX i (by rw [hxs]; simp)
    have hkn : k < n := hX k hk
    have gw : g < w.heap.size := h.lt
    have rw' : rb < w.heap.size := World.block_lt_of_cell? _ _ hvr0
    simp only [adrO, kyV]
    have h1 := h.alloc (.cells #[.string (D.key k).lo, .string (D.key k).hi, .bool (D.key k).all] 29)
    have CO := order_any g (i * 12) (D.key k) (D.key i) (D.seq k) (D.seq i) _ (h1.cell0 hin) (h1.cell1 hin) (h1.cell2 hin) (h1.cell7 hin)
    simp only [kyV] at CO
    have CO' : Hid (Calls Yba.prog 15 #[.pointer (some ⟨g, i * 12, none⟩), .agg #[.string (D.key k).lo, .string (D.key k).hi, .bool (D.key k).all], .int .u64 (D.seq k)] (w.alloc (.cells #[.string (D.key k).lo, .string (D.key k).hi, .bool (D.key k).all] 29)) fun e w' => e = .returned (.int .i64 (D.ord k i)) ∧ Below (w.heap.size + 1) (w.alloc (.cells #[.string (D.key k).lo, .string (D.key k).hi, .bool (D.key k).all] 29)) w') :=
      CO.mono fun e w' ⟨he, hb⟩ => ⟨he, by rw [World.size_alloc] at hb; exact hb⟩
    have HH := hid h
    have HIH := hid ih
    have HT := hid (And.intro tl (And.intro tr (And.intro hh hxs)))
    have HD := hid (And.intro hk (And.intro hs hX))
    have HV := hid (And.intro hvr0 hfr0)
    clear CO h h1 ih tl tr hh hnode hxs hk hs hX hvr0 hfr0
    go_enter Yba.func8, Yba.ntmps8
    go_wp2_with fail
    refine CO'.out.mono ?_
    rintro e wa ⟨rfl, hba⟩
    have z0 : wa.cell? ⟨w.heap.size, 0, none⟩ = some (.string (D.key k).lo) := blw_new ⟨wa, hba⟩ 0 rfl
    have z1 : wa.cell? ⟨w.heap.size, 1, none⟩ = some (.string (D.key k).hi) := blw_new ⟨wa, hba⟩ 1 rfl
    have z2 : wa.cell? ⟨w.heap.size, 2, none⟩ = some (.bool (D.key k).all) := blw_new ⟨wa, hba⟩ 2 rfl
    have hbl := blow hba
    have H1 : Holds wa g n D S := HH.out.of_block (hbl.block _ gw)
    have O1 : Oth g rb w wa := Oth.of_below hbl
    obtain ⟨vr, hvr⟩ : ∃ v, wa.cell? ⟨rb, 0, none⟩ = some v := ⟨_, (hbl.cell (p := ⟨rb, 0, none⟩) rw').trans HV.out.1⟩
    have hfr : wa.frozen? ⟨rb, 0, none⟩ = false := (hbl.frozen (p := ⟨rb, 0, none⟩) rw').trans HV.out.2
    clear hba hbl CO'
    rcases Int.lt_trichotomy (D.ord k i) 0 with hlt | heq | hgt
    · have hk' : k ∈ ls := by
        have h1 := HD.out.1; have h2 := HD.out.2.1
        rw [HT.out.2.2.2] at h1 h2
        exact where_lt h2 h1 hlt
      have hsub : Srt D ls := by
        have h2 := HD.out.2.1
        rw [HT.out.2.2.2] at h2
        exact (srt_parts h2).1
      have CI := HIH.out S (S.left i) ls wa.drew (H1.drew) HT.out.1 hk' hsub (fun x hx => HD.out.2.2 x (by rw [HT.out.2.2.2]; simp [hx])) (vr) hvr hfr
      have c3 := H1.cell3 hin
      obtain ⟨u, hu⟩ : ∃ u, u = adrO g (S.left i) := ⟨_, rfl⟩
      simp only [ptrV, ← hu] at c3
      rw [← hu] at CI
      simp only [kyV] at CI
      have HCI := hid CI
      have HO1 := hid O1
      clear CI H1 O1 hu hk' hsub
      go_wp2_with fail
      (first | go_region_with (first | (go_at_call 8; refine HCI.out.mono ?_; rintro e w1 ⟨S1, r, rfl, hH1, hR1, hO1, hv1, hf1⟩; obtain ⟨ur, hur⟩ : ∃ u, u = adrO g r := ⟨_, rfl⟩; obtain ⟨ul, hul⟩ : ∃ u, u = adrO g (S1.left i) := ⟨_, rfl⟩; have c3' := hH1.cell3 hin; have fz := hH1.frz (i * 12 + 3); (simp only [ptrV, ← hul] at c3'); (rw [← hur]); have HR := hid (And.intro hH1 (And.intro hR1 (And.intro hO1 (And.intro hv1 (And.intro hf1 hur))))); clear hH1 hR1 hO1 hv1 hf1 hul hur)) | fail)
      all_goals
        obtain ⟨hH1, hR1, hO1, hv1, hf1, hur⟩ := HR.out
        have RL : Hid (RemOK D S (fixS D (S1.setLeft i r) i) xs k (some i) ∧ ChT D (S1.setLeft i r) i ((S1.setLeft i r).left i) xs ∧ ChT D (S1.setLeft i r) i ((S1.setLeft i r).right i) xs) := by
          have hnd := HD.out.2.1.nodup
          have hx := HT.out.2.2.2
          rw [hx] at hnd ⊢
          exact rem_left hnd ⟨d, HT.out.2.1⟩ HT.out.2.2.1 hR1
        have CF := fix_any g n D _ i _ (hH1.setLeft hin r) hin (chOK RL.out.2.1 HD.out.2.2) (chOK RL.out.2.2 HD.out.2.2)
        have O2 := ((HO1.out.drew).trans hO1).setG (i * 12 + 3) (ptrV g r)
        have v2 := (World.cell?_setCell_far w1 ⟨g, i * 12 + 3, none⟩ ⟨rb, 0, none⟩ (ptrV g r) (Ne.symm hrg)).trans hv1
        have f2 : (w1.setCell ⟨g, i * 12 + 3, none⟩ (ptrV g r)).frozen? ⟨rb, 0, none⟩ = false := by rw [World.frozen?_setCell]; exact hf1
        have rl : rb < (w1.setCell ⟨g, i * 12 + 3, none⟩ (ptrV g r)).heap.size := World.block_lt_of_cell? _ _ v2
        simp only [ptrV, ← hur] at CF O2 v2 f2 rl
        have HCF := hid CF
        have HO2 := hid (And.intro O2 (And.intro v2 (And.intro f2 rl)))
        clear CF O2 hH1 hR1 hO1 hv1 hf1 hur v2 f2 rl
        go_wp2_with fail
        refine HCF.out.mono ?_
        rintro e w4 ⟨rfl, hH4, hO4⟩
        have H4 := hid (And.intro hH4 hO4)
        clear hH4 hO4
        go_wp2_with fail
        go_ret
        exact ⟨_, some i, rfl, H4.out.1, RL.out.1, HO2.out.1.trans H4.out.2.widen, (H4.out.2.cell (a := ⟨rb, 0, none⟩) HO2.out.2.2.2 hrg hrg).trans HO2.out.2.1, (H4.out.2.frozen (a := ⟨rb, 0, none⟩) HO2.out.2.2.2 hrg hrg).trans HO2.out.2.2.1⟩
    · have hki : k = i := by
        have h1 := HD.out.1; have h2 := HD.out.2.1
        rw [HT.out.2.2.2] at h1 h2
        exact where_eq h2 h1 heq
      have HEQ := hid heq
      have t1 : ¬ D.ord k i < 0 := by omega
      have t2 : ¬ 0 < D.ord k i := by omega
      have HKI := hid hki
      clear heq hki
      have H2 : Holds (wa.setCell ⟨rb, 0, none⟩ (.pointer (some ⟨g, i * 12, none⟩))) g n D S := H1.other (Ne.symm hrg) _
      have O2 : Oth g rb w (wa.setCell ⟨rb, 0, none⟩ (.pointer (some ⟨g, i * 12, none⟩))) := O1.setR _ _
      have CJ := join_any g n D (d + d) d d (Nat.le_refl _) S (S.left i) (S.right i) ls rs (wa.setCell ⟨rb, 0, none⟩ (.pointer (some ⟨g, i * 12, none⟩))).drew H2.drew HT.out.1 HT.out.2.1
        (by have := HD.out.2.1.nodup; rw [HT.out.2.2.2] at this; obtain ⟨_, _, a1, a2, a3⟩ := nodup_parts this; exact List.nodup_append.2 ⟨a1, a2, fun x hx y hy e => a3 x hx (e ▸ hy)⟩)
        (fun x hx => HD.out.2.2 x (by rw [HT.out.2.2.2]; rcases List.mem_append.1 hx with h | h <;> simp [h]))
      have c3 := H2.cell3 hin
      have c4 := H2.cell4 hin
      obtain ⟨u, hu⟩ : ∃ u, u = adrO g (S.left i) := ⟨_, rfl⟩
      obtain ⟨v, hv⟩ : ∃ u, u = adrO g (S.right i) := ⟨_, rfl⟩
      simp only [ptrV, ← hu, ← hv] at c3 c4
      rw [← hu, ← hv] at CJ
      have HCJ := hid CJ
      have v2 := World.cell?_setCell_same wa ⟨rb, 0, none⟩ (.pointer (some ⟨g, i * 12, none⟩)) hvr
      have f2 : (wa.setCell ⟨rb, 0, none⟩ (.pointer (some ⟨g, i * 12, none⟩))).frozen? ⟨rb, 0, none⟩ = false := by rw [World.frozen?_setCell]; exact hfr
      have HO2 := hid (And.intro O2 (And.intro v2 (And.intro f2 (World.block_lt_of_cell? _ _ v2))))
      clear CJ H2 H1 O1 O2 hu hv v2 f2
      go_wp2_with fail
      (first | go_region_with (first | (go_at_call 16; refine HCJ.out.mono ?_; rintro e w1 ⟨S1, r, rfl, hH1, hJ1, hO1⟩; have HR := hid (And.intro hH1 (And.intro hJ1 hO1)); clear hH1 hJ1 hO1)) | fail)
      all_goals
        go_wp2_with fail
        go_ret
        obtain ⟨hH1, hJ1, hO1⟩ := HR.out
        have hki := HKI.out
        subst hki
        refine ⟨S1, r, rfl, hH1, ?_, (HO2.out.1.drew).trans hO1.widen, (hO1.cell (a := ⟨rb, 0, none⟩) HO2.out.2.2.2 hrg hrg).trans HO2.out.2.1, (hO1.frozen (a := ⟨rb, 0, none⟩) HO2.out.2.2.2 hrg hrg).trans HO2.out.2.2.1⟩
        have hx := HT.out.2.2.2
        rw [hx]
        exact rem_here ⟨hJ1.tree, hJ1.agree⟩
    · have t1 : ¬ D.ord k i < 0 := by omega
      have hk' : k ∈ rs := by
        have h1 := HD.out.1; have h2 := HD.out.2.1
        rw [HT.out.2.2.2] at h1 h2
        exact where_gt h2 h1 hgt
      have hsub : Srt D rs := by
        have h2 := HD.out.2.1
        rw [HT.out.2.2.2] at h2
        exact (srt_parts h2).2.1
      have CI := HIH.out S (S.right i) rs wa.drew (H1.drew) HT.out.2.1 hk' hsub (fun x hx => HD.out.2.2 x (by rw [HT.out.2.2.2]; simp [hx])) (vr) hvr hfr
      have c3 := H1.cell4 hin
      obtain ⟨u, hu⟩ : ∃ u, u = adrO g (S.right i) := ⟨_, rfl⟩
      simp only [ptrV, ← hu] at c3
      rw [← hu] at CI
      simp only [kyV] at CI
      have HCI := hid CI
      have HO1 := hid O1
      clear CI H1 O1 hu hk' hsub
      go_wp2_with fail
      (first | go_region_with (first | (go_at_call 8; refine HCI.out.mono ?_; rintro e w1 ⟨S1, r, rfl, hH1, hR1, hO1, hv1, hf1⟩; obtain ⟨ur, hur⟩ : ∃ u, u = adrO g r := ⟨_, rfl⟩; obtain ⟨ul, hul⟩ : ∃ u, u = adrO g (S1.right i) := ⟨_, rfl⟩; have c3' := hH1.cell4 hin; have fz := hH1.frz (i * 12 + 4); (simp only [ptrV, ← hul] at c3'); (rw [← hur]); have HR := hid (And.intro hH1 (And.intro hR1 (And.intro hO1 (And.intro hv1 (And.intro hf1 hur))))); clear hH1 hR1 hO1 hv1 hf1 hul hur)) | fail)
      all_goals
        obtain ⟨hH1, hR1, hO1, hv1, hf1, hur⟩ := HR.out
        have RL : Hid (RemOK D S (fixS D (S1.setRight i r) i) xs k (some i) ∧ ChT D (S1.setRight i r) i ((S1.setRight i r).left i) xs ∧ ChT D (S1.setRight i r) i ((S1.setRight i r).right i) xs) := by
          have hnd := HD.out.2.1.nodup
          have hx := HT.out.2.2.2
          rw [hx] at hnd ⊢
          exact rem_right hnd ⟨d, HT.out.1⟩ HT.out.2.2.1 hR1
        have CF := fix_any g n D _ i _ (hH1.setRight hin r) hin (chOK RL.out.2.1 HD.out.2.2) (chOK RL.out.2.2 HD.out.2.2)
        have O2 := ((HO1.out.drew).trans hO1).setG (i * 12 + 4) (ptrV g r)
        have v2 := (World.cell?_setCell_far w1 ⟨g, i * 12 + 4, none⟩ ⟨rb, 0, none⟩ (ptrV g r) (Ne.symm hrg)).trans hv1
        have f2 : (w1.setCell ⟨g, i * 12 + 4, none⟩ (ptrV g r)).frozen? ⟨rb, 0, none⟩ = false := by rw [World.frozen?_setCell]; exact hf1
        have rl : rb < (w1.setCell ⟨g, i * 12 + 4, none⟩ (ptrV g r)).heap.size := World.block_lt_of_cell? _ _ v2
        simp only [ptrV, ← hur] at CF O2 v2 f2 rl
        have HCF := hid CF
        have HO2 := hid (And.intro O2 (And.intro v2 (And.intro f2 rl)))
        clear CF O2 hH1 hR1 hO1 hv1 hf1 hur v2 f2 rl
        go_wp2_with fail
        refine HCF.out.mono ?_
        rintro e w4 ⟨rfl, hH4, hO4⟩
        have H4 := hid (And.intro hH4 hO4)
        clear hH4 hO4
        go_wp2_with fail
        go_ret
        exact ⟨_, some i, rfl, H4.out.1, RL.out.1, HO2.out.1.trans H4.out.2.widen, (H4.out.2.cell (a := ⟨rb, 0, none⟩) HO2.out.2.2.2 hrg hrg).trans HO2.out.2.1, (H4.out.2.frozen (a := ⟨rb, 0, none⟩) HO2.out.2.2.2 hrg hrg).trans HO2.out.2.2.1⟩
end Go.Proofs.Ybulkdfqa
