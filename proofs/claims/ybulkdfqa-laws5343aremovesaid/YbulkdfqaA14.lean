/-
  WALK OF LawS5343ARemove.
-/
import Derived.Test.YbulkdfqaA13
namespace Go.Proofs.Ybulkdfqa
open Go.RowKit
set_option linter.unusedVariables false
set_option linter.unusedSimpArgs false

theorem nodup_len : ∀ (n : Nat) (xs : List Nat), xs.Nodup → (∀ x, x ∈ xs ↔ x < n) → xs.length = n
  | 0, xs, _, h => by
    cases xs with
    | nil => rfl
    | cons a xs => have := (h a).1 (by simp); omega
  | n + 1, xs, hnd, h => by
    obtain ⟨la, lb, hx⟩ := List.append_of_mem ((h n).2 (by omega))
    subst hx
    obtain ⟨n1, n2, a1, a2, a3⟩ := nodup_parts hnd
    have ih := nodup_len n (la ++ lb) (List.nodup_append.2 ⟨a1, a2, fun x hx y hy e => a3 x hx (e ▸ hy)⟩) (fun x => by
      have hm := h x
      simp only [List.mem_append, List.mem_cons] at hm ⊢
      constructor
      · rintro (h1 | h1)
        · have h2 := hm.1 (Or.inl h1)
          have : x ≠ n := fun e => n1 (e ▸ h1)
          omega
        · have h2 := hm.1 (Or.inr (Or.inr h1))
          have : x ≠ n := fun e => n2 (e ▸ h1)
          omega
      · intro h1
        rcases hm.2 (by omega) with h2 | h2 | h2
        · exact Or.inl h2
        · omega
        · exact Or.inr h2)
    simp only [List.length_append, List.length_cons] at ih ⊢
    omega

theorem srt_adj {D : Dat} : ∀ {ys : List Nat} {j x y : Nat}, Srt D ys → ys[j]? = some x → ys[j + 1]? = some y → D.ord x y < 0
  | [], _, _, _, _, h, _ => by simp at h
  | a :: ys, 0, x, y, hs, h1, h2 => by
    unfold Srt at hs
    rw [List.pairwise_cons] at hs
    simp at h1
    subst h1
    exact hs.1 y (List.mem_of_getElem? (by simpa using h2))
  | a :: ys, j + 1, x, y, hs, h1, h2 => by
    unfold Srt at hs
    rw [List.pairwise_cons] at hs
    exact srt_adj (ys := ys) (j := j) hs.2 (by simpa using h1) (by simpa using h2)

set_option maxHeartbeats 4000000 in
set_option maxRecDepth 100000 in
theorem removeLaw_small (a : Option Addr) (n cap : Nat) (pick : Int) (X : Nat → SrcA) (w : World) (hn0 : 0 < n) (hn : n ≤ 1024) (hp0 : 0 ≤ pick) (hp1 : pick ≤ 18446744073709551615) (hX : IsItemsA w a n X) :
    Calls Yba.prog 3 #[.slice a n cap, .int .u64 pick] w fun e w' => e = .returned (.bool true) ∧ Below w.heap.size w w' := by
  have hz : ((n : Int) == 0) = false := by simp; omega
  have hz2 : (n : Int) ≤ 1024 := by omega
  have CB := hid (abuild_any a n cap X w hn hX)
  obtain ⟨k, hk⟩ : ∃ k : Nat, pick % (n : Int) = (k : Int) := ⟨(pick % (n : Int)).toNat, by have := Int.emod_nonneg pick (show (n : Int) ≠ 0 by omega); omega⟩
  have hkn : k < n := by have := Int.emod_lt_of_pos pick (show (0 : Int) < n by omega); omega
  clear hX
  go_enter Yba.func3, Yba.ntmps3
  go_wp2_with fail
  refine CB.out.mono ?_
  rintro e w1 ⟨p, S, xs, rfl, hI⟩
  obtain ⟨D, hD⟩ : ∃ D, D = Dz (datOf X) n := ⟨_, rfl⟩
  obtain ⟨g, hg⟩ : ∃ g, g = w.heap.size := ⟨_, rfl⟩
  have hI0 : Hid (Holds w1 g n D S ∧ Tree D S p xs ∧ Srt D xs ∧ (∀ x, x ∈ xs ↔ x < n) ∧ Below w.heap.size w w1) := by
    rw [hD, hg]; exact ⟨hI.holds, hI.tree, hI.srt, hI.mem, hI.below⟩
  have HG := hid hg
  rw [← hg]
  obtain ⟨u, hu⟩ : ∃ u, u = adrO g p := ⟨_, rfl⟩
  rw [← hu]
  have HU := hid hu
  clear hI hD hg hu
  have CR : Hid (∀ dt, Tr D S dt p xs → Calls Yba.prog 8 #[.pointer u, kyV (D.key k), .int .u64 (D.seq k), .pointer (some ⟨w1.heap.size, 0, none⟩)] (w1.alloc (.cells #[.pointer none] 25)).drew (RemPost g n w1.heap.size D k S xs (w1.alloc (.cells #[.pointer none] 25)).drew)) := by
    intro dt ht
    rw [HU.out]
    obtain ⟨i1, i2, i3, i4, i5⟩ := hI0.out
    have gw : g < w1.heap.size := i1.lt
    exact remove_any g n w1.heap.size D k (by omega) dt S p xs _ (i1.alloc _) ht ((i4 k).2 hkn) i3 (fun x hx => (i4 x).1 hx) (.pointer none)
      (by show (w1.alloc (.cells #[.pointer none] 25)).cell? _ = _; simp) (by show (w1.alloc (.cells #[.pointer none] 25)).frozen? _ = _; simp)
  obtain ⟨dt, hdt⟩ := hI0.out.2.1
  have CR2 := CR.out dt hdt
  simp only [kyV] at CR2
  have HCR := hid CR2
  have hH := hI0.out.1.alloc (.cells #[.pointer none] 25)
  have k0 := hH.cell0 hkn
  have k1 := hH.cell1 hkn
  have k2 := hH.cell2 hkn
  have k7 := hH.cell7 hkn
  clear CR CR2 hdt hH
  go_upto_region 7 with fail
  go_cut [6] (fun t wx => ∃ r S1, t = .pointer (adrO g r) ∧ Holds wx g n D S1 ∧ RemOK D S S1 xs k r ∧ wx.cell? ⟨w1.heap.size, 0, none⟩ = some (.pointer (some ⟨g, k * 12, none⟩)) ∧ Below w.heap.size w wx)
  case first =>
    (first | go_region_with (first | (go_at_call 8; refine HCR.out.mono ?_; rintro e wz ⟨S1, r, rfl, hH1, hR1, hO1, hv1, hf1⟩; obtain ⟨ur, hur⟩ : ∃ u, u = adrO g r := ⟨_, rfl⟩; (rw [← hur]); have HR := hid (And.intro hH1 (And.intro hR1 (And.intro hO1 (And.intro hv1 hur)))); clear hH1 hR1 hO1 hv1 hf1 hur)) | fail)
    all_goals
      go_wp2_with fail
      go_meet
      obtain ⟨hH1, hR1, hO1, hv1, hur⟩ := HR.out
      obtain ⟨i1, i2, i3, i4, i5⟩ := hI0.out
      have hb1 : Below w.heap.size w (w1.alloc (.cells #[.pointer none] 25)).drew := (i5.alloc i5.size _).drew
      exact ⟨r, S1, by rw [hur], hH1, hR1, hv1, hb1.trans (hO1.below hb1.size (by rw [HG.out]; exact Nat.le_refl _) i5.size)⟩
  case rest =>
  obtain ⟨r, S1, rfl, hH1, hR1, hv1, hb1⟩ := hcut
  obtain ⟨⟨la, lb, hx, ht⟩, hag⟩ := hR1
  obtain ⟨ys, hys⟩ : ∃ ys, ys = la ++ lb := ⟨_, rfl⟩
  rw [← hys] at ht
  have hfacts : Srt D ys ∧ k ∉ ys ∧ (∀ x ∈ ys, x < n) ∧ ys.length + 1 = n := by
    obtain ⟨i1, i2, i3, i4, i5⟩ := hI0.out
    have hl := nodup_len n xs i3.nodup i4
    have hnd := i3.nodup
    rw [hx] at i3 hnd hl
    obtain ⟨n1, n2, _, _, _⟩ := nodup_parts hnd
    rw [hys]
    refine ⟨srt_rem i3, ?_, fun x hx' => (i4 x).1 ?_, ?_⟩
    · intro hm
      rcases List.mem_append.1 hm with h | h
      · exact n1 h
      · exact n2 h
    · rw [hx]
      rcases List.mem_append.1 hx' with h | h <;> simp [h]
    · simp at hl ⊢; omega
  obtain ⟨dy, hdy⟩ := ht
  obtain ⟨f1, f2, f3, f4⟩ := hfacts
  have CC := check_any g n D S1 hn dy r ys wc hH1 hdy f3 (by omega)
  obtain ⟨ur, hur⟩ : ∃ u, u = adrO g r := ⟨_, rfl⟩
  rw [← hur] at CC ⊢
  have HCC := hid CC
  have HF := hid (And.intro f1 (And.intro f2 f3))
  have HW := hid (And.intro hH1 hb1)
  clear CC hys hx hag hdy f1 f2 f3 hur hH1 hb1 k0 k1 k2 k7
  have heq := neqP25
  go_wp2_with fail
  refine HCC.out.mono ?_
  rintro e w4 ⟨v, rfl, ⟨ao, cpl, rfl, hsl⟩, hb4⟩
  have H4 : Holds w4 g n D S1 := HW.out.1.of_block (hb4.block _ HW.out.1.lt)
  have B4 : Below w.heap.size w w4 := HW.out.2.trans (hb4.mono HW.out.2.size)
  have HS := hid (And.intro hsl (And.intro H4 B4))
  clear hsl H4 B4 hb4 hv1 heq
  obtain ⟨L, hL⟩ : ∃ L, L = ys.length := ⟨_, rfl⟩
  rw [← hL] at f4 ⊢
  have HL := hid hL
  have hneq : ((L : Int) != (n : Int) - 1) = false := by simp; omega
  clear hL
  go_wp2_with fail
  go_loopw [66] (fun t wr => ∃ j : Nat, j ≤ L ∧ t = .int .i64 j ∧ Below w4.heap.size w4 wr) (fun t _ => L - (intOf t).toNat)
  case atStart => exact ⟨0, Nat.zero_le _, rfl, Below.refl _ _⟩
  case round =>
    obtain ⟨j, hj, rfl, hbr⟩ := hrel
    by_cases hlt : j < L
    · obtain ⟨x, hxk⟩ : ∃ x, ys[j]? = some x := ⟨_, List.getElem?_eq_getElem (by rw [← HL.out]; exact hlt)⟩
      have hxn : x < n := HF.out.2.2 x (List.mem_of_getElem? hxk)
      have hxk' : x ≠ k := fun e => HF.out.2.1 (e ▸ List.mem_of_getElem? hxk)
      have Hr : Holds wr g n D S1 := HS.out.2.1.of_block (hbr.block _ HS.out.2.1.lt)
      have heq := eqP_any Hr x k
      have hd : decide (x = k) = false := by simpa using hxk'
      rw [hd] at heq
      rcases HS.out.1 with ⟨_, _, h0⟩ | ⟨b, rfl, hbl, hcell⟩
      · rw [h0] at hxk; simp at hxk
      have cellj : ∀ q y, ys[q]? = some y → wr.cell? ⟨b, q, none⟩ = some (.pointer (some ⟨g, y * 12, none⟩)) := fun q y hy =>
        (hbr.cell (p := ⟨b, q, none⟩) hbl).trans (hcell q _ (by simp [ptrs, hy]))
      have r0 := cellj j x hxk
      cases j with
      | zero =>
        have HBR := hid hbr
        clear hxk hxk' Hr hd hcell cellj hbr
        go_wp2_with fail
        go_roundw
        case rel => exact ⟨1, by omega, rfl, HBR.out⟩
        case measure => simp [intOf]; omega
      | succ j =>
        obtain ⟨y, hyk⟩ : ∃ y, ys[j]? = some y := ⟨_, List.getElem?_eq_getElem (by rw [← HL.out]; omega)⟩
        have hyn : y < n := HF.out.2.2 y (List.mem_of_getElem? hyk)
        have r1 := cellj j y hyk
        have CL := hid (less_any g n D S1 y x wr Hr hyn hxn (srt_adj HF.out.1 hyk hxk))
        have HBR := hid hbr
        clear hxk hyk hxk' Hr hd hcell cellj hbr
        go_wp2_with fail
        refine CL.out.mono ?_
        rintro e wz ⟨rfl, hbz⟩
        have HBZ := hid (HBR.out.trans (hbz.mono HBR.out.size))
        clear hbz
        go_wp2_with fail
        go_roundw
        case rel => first | exact ⟨j + 1 + 1, by omega, by go_num, HBZ.out⟩ | ((repeat apply Exists.intro); exact ⟨⟨j + 1 + 1, by omega, by go_num, HBZ.out⟩, rfl⟩)
        case measure => simp [intOf]; omega
    · have HBR := hid hbr
      clear hbr
      go_wp2_with fail
      go_ret
      exact ⟨rfl, HS.out.2.2.trans (HBR.out.mono HS.out.2.2.size)⟩

set_option maxHeartbeats 1000000 in
theorem removeLaw_any (a : Option Addr) (n cap : Nat) (pick : Int) (X : Nat → SrcA) (w : World) (hp0 : 0 ≤ pick) (hp1 : pick ≤ 18446744073709551615) (hX : IsItemsA w a n X) :
    Calls Yba.prog 3 #[.slice a n cap, .int .u64 pick] w fun e w' => e = .returned (.bool true) ∧ Below w.heap.size w w' := by
  by_cases h0 : n = 0
  · subst h0
    clear hX
    go_enter Yba.func3, Yba.ntmps3
    go_wp2_with fail
    go_ret
    exact ⟨rfl, Below.refl _ _⟩
  · by_cases h1 : n ≤ 1024
    · exact removeLaw_small a n cap pick X w (by omega) h1 hp0 hp1 hX
    · have hz : ((n : Int) == 0) = false := by simp; omega
      have hz2 : (1024 : Int) < n := by omega
      clear hX
      go_enter Yba.func3, Yba.ntmps3
      go_wp2_with fail
      go_ret
      exact ⟨rfl, Below.refl _ _⟩
end Go.Proofs.Ybulkdfqa
