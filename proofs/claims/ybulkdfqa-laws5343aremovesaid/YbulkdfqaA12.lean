/-
  WALKS OF zzs5343aless AND zzs5343aendsBefore.
-/
import Derived.Test.YbulkdfqaA11
namespace Go.Proofs.Ybulkdfqa
open Go.RowKit
set_option linter.unusedVariables false
set_option linter.unusedSimpArgs false

theorem eq_spell (a b : ByteArray) : (a.toList == b.toList) = decide (cmpS a b = 0) := by
  rw [ByteArray.toList_eq a, ByteArray.toList_eq b, eq_iff]; rfl
theorem lt_spell (a b : ByteArray) : Op.bytesLess a.toList b.toList = decide (cmpS a b < 0) := by
  rw [ByteArray.toList_eq a, ByteArray.toList_eq b, less_iff]; rfl

theorem bdr {w w' : World} (h : Below w.heap.size w w') (n : Nat) : Below w.heap.size w (w'.drewN n) := below_drewN h n

set_option maxHeartbeats 1000000 in
set_option maxRecDepth 100000 in
theorem less_any (g n : Nat) (D : Dat) (S : St) (i j : Nat) (w : World) (h : Holds w g n D S) (hi : i < n) (hj : j < n) (hlt : D.ord i j < 0) :
    Calls Yba.prog 10 #[.pointer (some ⟨g, i * 12, none⟩), .pointer (some ⟨g, j * 12, none⟩)] w fun e w' => e = .returned (.bool true) ∧ Below w.heap.size w w' := by
  have a0 := h.cell0 hi
  have a1 := h.cell1 hi
  have a2 := h.cell2 hi
  have a7 := h.cell7 hi
  have b0 := h.cell0 hj
  have b1 := h.cell1 hj
  have b2 := h.cell2 hj
  have b7 := h.cell7 hj
  have hb0 := Below.refl w.heap.size w
  have hQ : cmpQ (D.key i, D.seq i) (D.key j, D.seq j) < 0 := hlt
  clear h hlt
  generalize D.seq i = s1 at *
  generalize D.seq j = s2 at *
  obtain ⟨k1, e1⟩ : ∃ k, k = D.key i := ⟨_, rfl⟩
  obtain ⟨k2, e2⟩ : ∃ k, k = D.key j := ⟨_, rfl⟩
  rw [← e1] at a0 a1 a2 hQ
  rw [← e2] at b0 b1 b2 hQ
  clear e1 e2
  obtain ⟨lo, hi', all⟩ := k1
  obtain ⟨lo2, hi2, all2⟩ := k2
  simp only at a0 a1 a2 b0 b1 b2
  by_cases c1 : cmpS lo lo2 = 0
  · have f1 : (lo.toList == lo2.toList) = true := by rw [eq_spell]; simpa using c1
    by_cases c2 : all = all2
    · subst c2
      have hQ2 : (if cmpS hi' hi2 ≠ 0 then cmpS hi' hi2 else cmpI s1 s2) < 0 := by
        have : cmpK ⟨lo, hi', all⟩ ⟨lo2, hi2, all⟩ = cmpS hi' hi2 := by simp [cmpK, c1, cmpB]
        simpa [cmpQ, this] using hQ
      by_cases c3 : cmpS hi' hi2 = 0
      · have f3 : (hi'.toList == hi2.toList) = true := by rw [eq_spell]; simpa using c3
        have hs : s1 < s2 := by
          simp [c3] at hQ2
          unfold cmpI at hQ2
          split at hQ2
          · assumption
          · split at hQ2 <;> omega
        clear hQ hQ2 c1 c3
        cases all
        all_goals
          go_enter Yba.func10, Yba.ntmps10
          go_wp2_with fail
          go_quiet (fail)
          go_wp2_with fail
          go_quiet (fail)
          go_wp2_with fail
          go_quiet (fail)
          go_wp2_with fail
          go_quiet (fail)
          go_wp2_with fail
          go_ret
          exact ⟨rfl, by repeat (first | exact hb0 | apply bdr)⟩
      · have f3 : (hi'.toList == hi2.toList) = false := by rw [eq_spell]; simpa using c3
        have hlt : cmpS hi' hi2 < 0 := by simpa [c3] using hQ2
        have f4 : Op.bytesLess hi'.toList hi2.toList = true := by rw [lt_spell]; simpa using hlt
        clear hQ hQ2 c1 c3 hlt
        cases all
        all_goals
          go_enter Yba.func10, Yba.ntmps10
          go_wp2_with fail
          go_quiet (fail)
          go_wp2_with fail
          go_quiet (fail)
          go_wp2_with fail
          go_quiet (fail)
          go_wp2_with fail
          go_quiet (fail)
          go_wp2_with fail
          go_ret
          exact ⟨rfl, by repeat (first | exact hb0 | apply bdr)⟩
    · have hal : all = false ∧ all2 = true := by
        have : cmpK ⟨lo, hi', all⟩ ⟨lo2, hi2, all2⟩ = cmpB all all2 := by
          cases all <;> cases all2 <;> simp [cmpK, c1, cmpB] at c2 ⊢
        cases all <;> cases all2 <;> simp [cmpQ, this, cmpB] at c2 hQ ⊢
      obtain ⟨rfl, rfl⟩ := hal
      clear hQ c1 c2
      go_enter Yba.func10, Yba.ntmps10
      go_wp2_with fail
      go_quiet (fail)
      go_wp2_with fail
      go_quiet (fail)
      go_wp2_with fail
      go_ret
      exact ⟨rfl, by repeat (first | exact hb0 | apply bdr)⟩
  · have f1 : (lo.toList == lo2.toList) = false := by rw [eq_spell]; simpa using c1
    have hlt : cmpS lo lo2 < 0 := by
      have : cmpK ⟨lo, hi', all⟩ ⟨lo2, hi2, all2⟩ = cmpS lo lo2 := by simp [cmpK, c1]
      simpa [cmpQ, this, c1] using hQ
    have f4 : Op.bytesLess lo.toList lo2.toList = true := by rw [lt_spell]; simpa using hlt
    clear hQ c1 hlt
    go_enter Yba.func10, Yba.ntmps10
    go_wp2_with fail
    go_quiet (fail)
    go_wp2_with fail
    go_quiet (fail)
    go_wp2_with fail
    go_ret
    exact ⟨rfl, by repeat (first | exact hb0 | apply bdr)⟩

set_option maxHeartbeats 1000000 in
set_option maxRecDepth 100000 in
theorem endsB_any (g n : Nat) (D : Dat) (S : St) (m x : Nat) (w : World) (h : Holds w g n D S) (hm : m < n) (hx : x < n) (hle : cmpE (D.key x) (D.key m) ≤ 0) :
    Calls Yba.prog 18 #[.pointer (some ⟨g, m * 12, none⟩), .pointer (some ⟨g, x * 12, none⟩)] w fun e w' => e = .returned (.bool false) ∧ Below w.heap.size w w' := by
  have a1 := h.cell1 hm
  have a2 := h.cell2 hm
  have b1 := h.cell1 hx
  have b2 := h.cell2 hx
  have hb0 := Below.refl w.heap.size w
  clear h
  obtain ⟨k1, e1⟩ : ∃ k, k = D.key m := ⟨_, rfl⟩
  obtain ⟨k2, e2⟩ : ∃ k, k = D.key x := ⟨_, rfl⟩
  rw [← e1] at a1 a2 hle
  rw [← e2] at b1 b2 hle
  clear e1 e2
  obtain ⟨lo, hi', all⟩ := k1
  obtain ⟨lo2, hi2, all2⟩ := k2
  simp only at a1 a2 b1 b2
  cases all with
  | true =>
    clear hle
    go_enter Yba.func18, Yba.ntmps18
    go_wp2_with fail
    go_quiet (fail)
    go_wp2_with fail
    go_ret
    exact ⟨rfl, by repeat (first | exact hb0 | apply bdr)⟩
  | false =>
    cases all2 with
    | true => simp [cmpE, cmpB] at hle
    | false =>
      have hc : cmpS hi2 hi' ≤ 0 := by simpa [cmpE, cmpB] using hle
      have f4 : Op.bytesLess hi'.toList hi2.toList = false := by
        rw [lt_spell]
        have := cmpS_good.anti hi' hi2
        simp; omega
      clear hle hc
      go_enter Yba.func18, Yba.ntmps18
      go_wp2_with fail
      go_quiet (fail)
      go_wp2_with fail
      go_ret
      exact ⟨rfl, by repeat (first | exact hb0 | apply bdr)⟩
end Go.Proofs.Ybulkdfqa
