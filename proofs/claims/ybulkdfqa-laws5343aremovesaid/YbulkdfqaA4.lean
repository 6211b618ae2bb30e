/-
  WALKS: strings.Compare, compare, order, endsAfter.
-/
import Derived.Test.YbulkdfqaA3
namespace Go.Proofs.Ybulkdfqa
open Go.RowKit
set_option linter.unusedVariables false
set_option linter.unusedSimpArgs false

set_option maxHeartbeats 1000000 in
set_option maxRecDepth 100000 in
theorem cmpStr_any (a b : ByteArray) (w : World) : Calls Yba.prog 32 #[.string a, .string b] w fun e w' => e = .returned (.int .i64 (cmpS a b)) ∧ w' = w := by
  go_enter Yba.func32, Yba.ntmps32
  go_wp2
  rw [run_callFunc_extern Yba.func33 (by kernel_rfl) (by kernel_rfl) (by kernel_rfl) (e := Extern.BytealgCompare.compare) (by kernel_rfl), Lib.run_compareString]
  simp only [Result.andThen]
  rw [Oper.upon_value]
  go_wp2
  go_ret
  exact ⟨rfl, rfl⟩

theorem compare_any (a b : ByteArray) (w : World) : Calls Yba.prog 29 #[.string a, .string b] w fun e w' => e = .returned (.int .i64 (cmpS a b)) ∧ w' = w := by
  go_enter Yba.func29, Yba.ntmps29
  go_wp2_with (go_at_call 32; refine (cmpStr_any _ _ _).mono ?_; rintro e w' ⟨rfl, rfl⟩)
  go_ret
  exact ⟨rfl, rfl⟩

def kyV (k : Ky) : Value := .agg #[.string k.lo, .string k.hi, .bool k.all]

theorem blw2 (w : World) (o1 o2 : Obj) : Below w.heap.size w ((w.alloc o1).alloc o2) := ((Below.refl _ w).alloc (Nat.le_refl _) o1).alloc (by rw [World.size_alloc]; omega) o2

set_option maxHeartbeats 1000000 in
theorem cmpK_any (k o : Ky) (w : World) : Calls Yba.prog 23 #[kyV k, kyV o] w fun e w' => e = .returned (.int .i64 (cmpK k o)) ∧ Below w.heap.size w w' := by
  obtain ⟨lo, hi, all⟩ := k
  obtain ⟨lo2, hi2, all2⟩ := o
  unfold kyV
  simp only
  by_cases h : cmpS lo lo2 = 0
  · have h1 : (cmpS lo lo2 != 0) = false := by simp [h]
    have HK : Hid (∀ c, cmpB all all2 = c → cmpK ⟨lo, hi, all⟩ ⟨lo2, hi2, all2⟩ = if c ≠ 0 then c else cmpS hi hi2) := by
      intro c hc; subst hc; simp [cmpK, h]
    clear h
    cases all <;> cases all2
    all_goals
      go_enter Yba.func23, Yba.ntmps23
      go_wp2_with (go_at_call 29; refine (compare_any _ _ _).mono ?_; rintro e w' ⟨rfl, rfl⟩)
      go_ret
      refine ⟨?_, blw2 _ _ _⟩
      rw [HK.out _ rfl]
      rfl
  · have h1 : (cmpS lo lo2 != 0) = true := by simpa using h
    have HK : Hid (cmpK ⟨lo, hi, all⟩ ⟨lo2, hi2, all2⟩ = cmpS lo lo2) := by show cmpK _ _ = _; simp [cmpK, h]
    clear h
    go_enter Yba.func23, Yba.ntmps23
    go_wp2_with (go_at_call 29; refine (compare_any _ _ _).mono ?_; rintro e w' ⟨rfl, rfl⟩)
    go_ret
    exact ⟨by rw [HK.out]; rfl, blw2 _ _ _⟩


theorem blow {w wr : World} {o : Obj} (h : Below (w.heap.size + 1) (w.alloc o) wr) : Below w.heap.size w wr :=
  (((Below.refl w.heap.size w).alloc (Nat.le_refl _) o)).trans (h.mono (by omega))

/-- what a class of worlds behind one new block holds -/
theorem blw_old {w : World} {o : Obj} (x : Blw (w.heap.size + 1) (w.alloc o)) {a : Addr} {v : Value} (h : w.cell? a = some v) : x.val.cell? a = some v := by
  have hl := World.block_lt_of_cell? _ _ h
  exact (x.prop.cell (p := a) (by omega)).trans ((World.cell?_alloc_lt _ _ _ hl).trans h)
theorem blw_new {w : World} {c : Array Value} {t : TypeId} (x : Blw (w.heap.size + 1) (w.alloc (.cells c t))) (o : Nat) {v : Value} (h : c[o]? = some v) : x.val.cell? ⟨w.heap.size, o, none⟩ = some v :=
  (x.prop.cell (p := ⟨w.heap.size, o, none⟩) (by show w.heap.size < _; omega)).trans ((World.cell?_alloc_new _ _ _ _).trans h)
theorem blw_size {w : World} {o : Obj} (x : Blw (w.heap.size + 1) (w.alloc o)) : w.heap.size + 1 ≤ x.val.heap.size := by
  have := x.prop.size; rw [World.size_alloc] at this; exact this

set_option maxHeartbeats 1000000 in
set_option maxRecDepth 100000 in
theorem order_any (b o : Nat) (k nk : Ky) (s ns : Int) (w : World) (c0 : w.cell? ⟨b, o, none⟩ = some (.string nk.lo)) (c1 : w.cell? ⟨b, o + 1, none⟩ = some (.string nk.hi)) (c2 : w.cell? ⟨b, o + 2, none⟩ = some (.bool nk.all))
    (c7 : w.cell? ⟨b, o + 7, none⟩ = some (.int .u64 ns)) :
    Calls Yba.prog 15 #[.pointer (some ⟨b, o, none⟩), kyV k, .int .u64 s] w fun e w' => e = .returned (.int .i64 (cmpQ (k, s) (nk, ns))) ∧ Below w.heap.size w w' := by
  obtain ⟨lo, hi, all⟩ := k
  obtain ⟨nlo, nhi, nall⟩ := nk
  simp only [kyV] at c0 c1 c2 ⊢
  have d0 := fun x : Blw (w.heap.size + 1) (w.alloc (.cells #[.string lo, .string hi, .bool all] 29)) => blw_old x c0
  have d1 := fun x : Blw (w.heap.size + 1) (w.alloc (.cells #[.string lo, .string hi, .bool all] 29)) => blw_old x c1
  have d2 := fun x : Blw (w.heap.size + 1) (w.alloc (.cells #[.string lo, .string hi, .bool all] 29)) => blw_old x c2
  have d7 := fun x : Blw (w.heap.size + 1) (w.alloc (.cells #[.string lo, .string hi, .bool all] 29)) => blw_old x c7
  have e0 := fun x : Blw (w.heap.size + 1) (w.alloc (.cells #[.string lo, .string hi, .bool all] 29)) => blw_new x 0 rfl
  have e1 := fun x : Blw (w.heap.size + 1) (w.alloc (.cells #[.string lo, .string hi, .bool all] 29)) => blw_new x 1 rfl
  have e2 := fun x : Blw (w.heap.size + 1) (w.alloc (.cells #[.string lo, .string hi, .bool all] 29)) => blw_new x 2 rfl
  have hnon : Nonempty (Blw (w.heap.size + 1) (w.alloc (.cells #[.string lo, .string hi, .bool all] 29))) := ⟨⟨_, Below.refl _ _⟩⟩
  by_cases h : cmpK ⟨lo, hi, all⟩ ⟨nlo, nhi, nall⟩ = 0
  · have HK : Hid (cmpQ (⟨lo, hi, all⟩, s) (⟨nlo, nhi, nall⟩, ns) = if s < ns then -1 else if ns < s then 1 else 0) := by show cmpQ _ _ = _; simp [cmpQ, h, cmpI]
    have h1 : (cmpK ⟨lo, hi, all⟩ ⟨nlo, nhi, nall⟩ != 0) = false := by simp [h]
    clear h
    rcases Int.lt_trichotomy s ns with hs | hs | hs
    all_goals
      go_enter Yba.func15, Yba.ntmps15
      go_wp2_with fail
      refine wp_region_blw (w.heap.size + 1) (w.alloc (.cells #[.string lo, .string hi, .bool all] 29)) (by kernel_rfl) (by kernel_rfl) (Below.refl _ _) ?_
      repeat (go_big_quiet_step ((go_at_call 23; refine Calls.blw (v := .int .i64 (cmpK ⟨lo, hi, all⟩ ⟨nlo, nhi, nall⟩)) _ ((cmpK_any ⟨lo, hi, all⟩ ⟨nlo, nhi, nall⟩ _).mono ?_); rintro e w' ⟨rfl, hb'⟩; exact ⟨rfl, hb'.mono (blw_size _)⟩)))
      refine wpQuiet_nil ?_
      rintro wa ⟨⟨_, hba⟩, rfl⟩
      have f7 := d7 ⟨wa, hba⟩
      simp only at f7
      clear d0 d1 d2 d7 e0 e1 e2
      go_wp2_with fail
      go_ret
      refine ⟨?_, blow hba⟩
      rw [HK.out]
    · rw [if_pos hs]; rfl
    · rw [if_neg (by omega), if_neg (by omega)]; rfl
    · rw [if_neg (by omega), if_pos hs]; rfl
  · have HK : Hid (cmpQ (⟨lo, hi, all⟩, s) (⟨nlo, nhi, nall⟩, ns) = cmpK ⟨lo, hi, all⟩ ⟨nlo, nhi, nall⟩) := by show cmpQ _ _ = _; simp [cmpQ, h]
    have h1 : (cmpK ⟨lo, hi, all⟩ ⟨nlo, nhi, nall⟩ != 0) = true := by simpa using h
    clear h
    go_enter Yba.func15, Yba.ntmps15
    go_wp2_with fail
    refine wp_region_blw (w.heap.size + 1) (w.alloc (.cells #[.string lo, .string hi, .bool all] 29)) (by kernel_rfl) (by kernel_rfl) (Below.refl _ _) ?_
    repeat (go_big_quiet_step ((go_at_call 23; refine Calls.blw (v := .int .i64 (cmpK ⟨lo, hi, all⟩ ⟨nlo, nhi, nall⟩)) _ ((cmpK_any ⟨lo, hi, all⟩ ⟨nlo, nhi, nall⟩ _).mono ?_); rintro e w' ⟨rfl, hb'⟩; exact ⟨rfl, hb'.mono (blw_size _)⟩)))
    refine wpQuiet_nil ?_
    rintro wa ⟨⟨_, hba⟩, rfl⟩
    clear d0 d1 d2 d7 e0 e1 e2
    go_wp2_with fail
    go_ret
    refine ⟨?_, blow hba⟩
    rw [HK.out]
    rfl

theorem gt_spell (a b : ByteArray) : (!Op.bytesLess a.toList b.toList && !a.toList == b.toList) = decide (0 < cmpS a b) := by
  have h1 := less_iff a.data.toList b.data.toList
  have h2 := eq_iff a.data.toList b.data.toList
  have h3 : Lib.compareBytes a.data.toList b.data.toList = cmpS a b := rfl
  rw [h3] at h1 h2
  rw [ByteArray.toList_eq a, ByteArray.toList_eq b, h1, h2]
  by_cases e1 : cmpS a b < 0
  · simp [e1]; omega
  · by_cases e2 : cmpS a b = 0
    · simp [e2]
    · have e3 : 0 < cmpS a b := by omega
      simp [e1, e2, e3]

set_option maxHeartbeats 1000000 in
theorem endsAfter_any (k o : Ky) (w : World) : Calls Yba.prog 24 #[kyV k, kyV o] w fun e w' => e = .returned (.bool (decide (0 < cmpE k o))) ∧ Below w.heap.size w w' := by
  obtain ⟨lo, hi, all⟩ := k
  obtain ⟨lo2, hi2, all2⟩ := o
  unfold kyV
  simp only
  cases all2 with
  | true =>
    have HK : Hid (decide (0 < cmpE ⟨lo, hi, all⟩ ⟨lo2, hi2, true⟩) = false) := by show decide _ = false; cases all <;> simp [cmpE, cmpB]
    go_enter Yba.func24, Yba.ntmps24
    go_wp2_with fail
    go_ret
    exact ⟨by rw [HK.out]; rfl, blw2 _ _ _⟩
  | false =>
    cases all with
    | true =>
      have HK : Hid (decide (0 < cmpE ⟨lo, hi, true⟩ ⟨lo2, hi2, false⟩) = true) := by show decide _ = true; simp [cmpE, cmpB]
      go_enter Yba.func24, Yba.ntmps24
      go_wp2_with fail
      go_ret
      exact ⟨by rw [HK.out]; rfl, blw2 _ _ _⟩
    | false =>
      have HK : Hid (decide (0 < cmpE ⟨lo, hi, false⟩ ⟨lo2, hi2, false⟩) = (!Op.bytesLess hi.toList hi2.toList && !hi.toList == hi2.toList)) := by
        show decide _ = _; rw [gt_spell]; simp [cmpE, cmpB]
      go_enter Yba.func24, Yba.ntmps24
      go_wp2_with fail
      go_ret
      exact ⟨by rw [HK.out]; rfl, blw2 _ _ _⟩

end Go.Proofs.Ybulkdfqa
