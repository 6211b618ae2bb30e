/-
  WALKS OF mix, THE SHIFT-AND-ADD PRODUCT, THE XORSHIFT STEP AND LawS5346BExact.
-/
import Derived.Test.YbulkdfrqRows
import Derived.WalkKit
import Derived.WalkSpells
import Derived.WalkLawsBesides
namespace Go.Proofs.Ybulkdfrq
open Go.RowKit
set_option linter.unusedVariables false
set_option linter.unusedSimpArgs false

/-- the xorshift step, as the walk spells it -/
def xsI (x p : Int) : Int := bits .xor .u64 x (x / p)
/-- the product modulo 2^64 -/
def mI (x c : Int) : Int := IntKind.u64.wrap (x * c)
/-- the running sum of the shift-and-add product -/
def pI (a b : Int) (k : Nat) : Int := IntKind.u64.wrap (a * (b % 2 ^ k))

theorem wrap_bd (x : Int) : 0 ≤ IntKind.u64.wrap x ∧ IntKind.u64.wrap x ≤ 18446744073709551615 := by rw [IntKind.wrap_u64]; omega
theorem mI_bd (x c : Int) : 0 ≤ mI x c ∧ mI x c ≤ 18446744073709551615 := wrap_bd _
theorem xsI_bd (x p : Int) : 0 ≤ xsI x p ∧ xsI x p ≤ 18446744073709551615 := wrap_bd _

theorem pow_pos2 (k : Nat) : (0 : Int) < 2 ^ k := Int.pow_pos (by omega)

theorem mod_two (b p t r : Int) (hp : 0 < p) (hr : 0 ≤ r) (hr2 : r < p * 2) (h : b = r + p * 2 * t) : b % (p * 2) = r := by
  rw [h, Int.add_mul_emod_self_left, Int.emod_eq_of_lt hr hr2]

theorem bit_yes (b : Int) (k : Nat) (h : b / 2 ^ k % 2 = 1) : b % 2 ^ (k + 1) = b % 2 ^ k + 2 ^ k := by
  have hp := pow_pos2 k
  rw [Int.pow_succ]
  generalize (2 : Int) ^ k = p at *
  have h1 := Int.emod_add_mul_ediv b p
  have h2 : b / p = 2 * (b / p / 2) + 1 := by omega
  have h3 := Int.emod_nonneg b (Int.ne_of_gt hp)
  have h4 := Int.emod_lt_of_pos b hp
  refine mod_two b p (b / p / 2) _ hp (by omega) (by omega) ?_
  have h5 : p * (b / p) = p * 2 * (b / p / 2) + p := by
    have e : p * (b / p) = p * (2 * (b / p / 2) + 1) := by rw [← h2]
    rw [e, Int.mul_add, Int.mul_one, ← Int.mul_assoc]
  omega
theorem bit_no (b : Int) (k : Nat) (h : b / 2 ^ k % 2 = 0) : b % 2 ^ (k + 1) = b % 2 ^ k := by
  have hp := pow_pos2 k
  rw [Int.pow_succ]
  generalize (2 : Int) ^ k = p at *
  have h1 := Int.emod_add_mul_ediv b p
  have h2 : b / p = 2 * (b / p / 2) := by omega
  have h3 := Int.emod_nonneg b (Int.ne_of_gt hp)
  have h4 := Int.emod_lt_of_pos b hp
  refine mod_two b p (b / p / 2) _ hp (by omega) (by omega) ?_
  have h5 : p * (b / p) = p * 2 * (b / p / 2) := by
    have e : p * (b / p) = p * (2 * (b / p / 2)) := by rw [← h2]
    rw [e, ← Int.mul_assoc]
  omega

theorem pI_yes (a b : Int) (k : Nat) (h0 : 0 ≤ b / 2 ^ k) (h1 : b / 2 ^ k ≤ 18446744073709551615) (h : (bits BinOp.and IntKind.u64 (b / 2 ^ k) 1 == 1) = true) : IntKind.u64.wrap (pI a b k + IntKind.u64.wrap (a * 2 ^ k)) = pI a b (k + 1) := by
  rw [and_one_u64 _ h0 h1] at h
  unfold pI
  rw [bit_yes b k (by simpa using h), Int.mul_add]
  generalize a * (b % 2 ^ k) = x
  generalize a * 2 ^ k = y
  simp only [IntKind.wrap_u64]
  omega
theorem pI_no (a b : Int) (k : Nat) (h0 : 0 ≤ b / 2 ^ k) (h1 : b / 2 ^ k ≤ 18446744073709551615) (h : (bits BinOp.and IntKind.u64 (b / 2 ^ k) 1 == 1) = false) : pI a b k = pI a b (k + 1) := by
  rw [and_one_u64 _ h0 h1] at h
  unfold pI
  rw [bit_no b k (by simp at h; omega)]
theorem pI_zero (a b : Int) : (0 : Int) = pI a b 0 := by unfold pI; rw [IntKind.wrap_u64]; simp [Int.emod_one]
theorem pI_end (a b : Int) (h0 : 0 ≤ b) (h1 : b ≤ 18446744073709551615) : pI a b 64 = mI a b := by
  unfold pI mI
  have e : b % 2 ^ 64 = b := Int.emod_eq_of_lt h0 (by omega)
  rw [e]
theorem div_bd (b : Int) (k : Nat) (h0 : 0 ≤ b) (h1 : b ≤ 18446744073709551615) : 0 ≤ b / 2 ^ k ∧ b / 2 ^ k ≤ 18446744073709551615 := by
  have hp := pow_pos2 k
  have h2 : b / 2 ^ k ≤ b := Int.ediv_le_self _ h0
  exact ⟨Int.ediv_nonneg h0 (Int.le_of_lt hp), by omega⟩

theorem ret_eq {k : IntKind} {a b : Int} (h : a = b) : Ending.returned (.int k a) = .returned (.int k b) := by rw [h]

set_option maxHeartbeats 1000000 in
theorem mul_any (a b : Int) (w : World) (h0 : 0 ≤ b) (h1 : b ≤ 18446744073709551615) :
    Calls Yba.prog 8 #[.int .u64 a, .int .u64 b] w fun e w' => e = .returned (.int .u64 (mI a b)) ∧ w' = w := by
  have HB := div_bd b
  have HB' : Hid (∀ k, 0 ≤ b / 2 ^ k ∧ b / 2 ^ k ≤ 18446744073709551615) := fun k => HB k h0 h1
  have HE : Hid (pI a b 64 = mI a b) := pI_end a b h0 h1
  clear HB h0 h1
  go_enter Yba.func8, Yba.ntmps8
  go_wp2
  go_loop [5, 6] (fun r i => ∃ (k : Nat) (v : Int), k ≤ 64 ∧ i = .int .u64 k ∧ r = .int .u64 v ∧ v = pI a b k) (fun _ i => 64 - (intOf i).toNat)
  case atStart => exact ⟨0, 0, by omega, rfl, rfl, pI_zero a b⟩
  case round =>
    obtain ⟨k, v, hk, rfl, rfl, hv⟩ := hrel
    have HV := (show Hid (v = pI a b k) from hv)
    clear hv
    by_cases hlt : k < 64
    · go_wp2
      · go_round
        case rel => exact ⟨k + 1, _, by omega, by go_num, rfl, by rw [HV.out]; exact pI_yes a b k (HB'.out k).1 (HB'.out k).2 ‹_›⟩
        case measure => simp [intOf]; omega
      · go_round
        case rel => exact ⟨k + 1, _, by omega, by go_num, rfl, by rw [HV.out]; exact pI_no a b k (HB'.out k).1 (HB'.out k).2 ‹_›⟩
        case measure => simp [intOf]; omega
    · have e : k = 64 := by omega
      subst e
      go_wp2
      go_ret
      exact ⟨ret_eq (by rw [HV.out, HE.out]), rfl⟩

theorem xs30 (x : Int) (w : World) (h0 : 0 ≤ x) (h1 : x ≤ 18446744073709551615) : Calls Yba.prog 7 #[.int .u64 x, .int .u64 30] w fun e w' => e = .returned (.int .u64 (xsI x 1073741824)) ∧ w' = w := by
  go_enter Yba.func7, Yba.ntmps7
  go_wp2
  go_ret
  exact ⟨rfl, rfl⟩
theorem xs27 (x : Int) (w : World) (h0 : 0 ≤ x) (h1 : x ≤ 18446744073709551615) : Calls Yba.prog 7 #[.int .u64 x, .int .u64 27] w fun e w' => e = .returned (.int .u64 (xsI x 134217728)) ∧ w' = w := by
  go_enter Yba.func7, Yba.ntmps7
  go_wp2
  go_ret
  exact ⟨rfl, rfl⟩
theorem xs31 (x : Int) (w : World) (h0 : 0 ≤ x) (h1 : x ≤ 18446744073709551615) : Calls Yba.prog 7 #[.int .u64 x, .int .u64 31] w fun e w' => e = .returned (.int .u64 (xsI x 2147483648)) ∧ w' = w := by
  go_enter Yba.func7, Yba.ntmps7
  go_wp2
  go_ret
  exact ⟨rfl, rfl⟩

def mixI (x : Int) : Int := xsI (mI (xsI (mI (xsI x 1073741824) 13787848793156543929) 134217728) 10723151780598845931) 2147483648

theorem mix_any (x : Int) (w : World) (h0 : 0 ≤ x) (h1 : x ≤ 18446744073709551615) : Calls Yba.prog 9 #[.int .u64 x] w fun e w' => e = .returned (.int .u64 (mixI x)) ∧ w' = w := by
  go_enter Yba.func9, Yba.ntmps9
  go_wp2
  go_ret
  exact ⟨rfl, rfl⟩

set_option maxHeartbeats 1000000 in
theorem exact_any (x : Int) (w : World) (h0 : 0 ≤ x) (h1 : x ≤ 18446744073709551615) : Calls Yba.prog 3 #[.int .u64 x] w fun e w' => e = .returned (.bool true) ∧ w' = w := by
  obtain ⟨x1, e1⟩ : ∃ y, y = xsI x 1073741824 := ⟨_, rfl⟩
  obtain ⟨x2, e2⟩ : ∃ y, y = mI x1 13787848793156543929 := ⟨_, rfl⟩
  obtain ⟨x3, e3⟩ : ∃ y, y = xsI x2 134217728 := ⟨_, rfl⟩
  obtain ⟨x4, e4⟩ : ∃ y, y = mI x3 10723151780598845931 := ⟨_, rfl⟩
  obtain ⟨x5, e5⟩ : ∃ y, y = xsI x4 2147483648 := ⟨_, rfl⟩
  have b2 : 0 ≤ x2 ∧ x2 ≤ 18446744073709551615 := by rw [e2]; exact mI_bd _ _
  have b4 : 0 ≤ x4 ∧ x4 ≤ 18446744073709551615 := by rw [e4]; exact mI_bd _ _
  have C1 := (show Hid (Calls Yba.prog 7 #[.int .u64 x, .int .u64 30] w fun e w' => e = .returned (.int .u64 x1) ∧ w' = w) from by rw [e1]; exact xs30 x w h0 h1)
  have C2 := (show Hid (Calls Yba.prog 8 #[.int .u64 x1, .int .u64 13787848793156543929] w fun e w' => e = .returned (.int .u64 x2) ∧ w' = w) from by rw [e2]; exact mul_any x1 _ w (by omega) (by omega))
  have C3 := (show Hid (Calls Yba.prog 7 #[.int .u64 x2, .int .u64 27] w fun e w' => e = .returned (.int .u64 x3) ∧ w' = w) from by rw [e3]; exact xs27 x2 w b2.1 b2.2)
  have C4 := (show Hid (Calls Yba.prog 8 #[.int .u64 x3, .int .u64 10723151780598845931] w fun e w' => e = .returned (.int .u64 x4) ∧ w' = w) from by rw [e4]; exact mul_any x3 _ w (by omega) (by omega))
  have C5 := (show Hid (Calls Yba.prog 7 #[.int .u64 x4, .int .u64 31] w fun e w' => e = .returned (.int .u64 x5) ∧ w' = w) from by rw [e5]; exact xs31 x4 w b4.1 b4.2)
  have C6 := (show Hid (Calls Yba.prog 9 #[.int .u64 x] w fun e w' => e = .returned (.int .u64 x5) ∧ w' = w) from by
    have := mix_any x w h0 h1
    unfold mixI at this
    rw [← e1, ← e2, ← e3, ← e4, ← e5] at this
    exact this)
  clear e1 e2 e3 e4 e5 b2 b4
  go_enter Yba.func3, Yba.ntmps3
  go_wp2_with fail
  refine C1.out.mono ?_
  rintro e w' ⟨rfl, hw⟩
  subst hw
  go_wp2_with fail
  refine C2.out.mono ?_
  rintro e w' ⟨rfl, hw⟩
  subst hw
  go_wp2_with fail
  refine C3.out.mono ?_
  rintro e w' ⟨rfl, hw⟩
  subst hw
  go_wp2_with fail
  refine C4.out.mono ?_
  rintro e w' ⟨rfl, hw⟩
  subst hw
  go_wp2_with fail
  refine C5.out.mono ?_
  rintro e w' ⟨rfl, hw⟩
  subst hw
  go_wp2_with fail
  refine C6.out.mono ?_
  rintro e w' ⟨rfl, hw⟩
  subst hw
  go_wp2_with fail
  go_ret
  exact ⟨rfl, rfl⟩
end Go.Proofs.Ybulkdfrq
