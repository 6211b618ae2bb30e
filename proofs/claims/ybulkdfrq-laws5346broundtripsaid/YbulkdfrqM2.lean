/-
  PLAIN: THE XORSHIFT STEP AND THE PRODUCT UNDONE; WALKS OF unmix AND LawS5346BRoundTrip.
-/
import Derived.Test.YbulkdfrqM1
namespace Go.Proofs.Ybulkdfrq
open Go.RowKit
set_option linter.unusedVariables false
set_option linter.unusedSimpArgs false

/-! ### the xorshift step undone, on natural numbers -/
theorem xor_div (a b s : Nat) : (a ^^^ b) / 2 ^ s = a / 2 ^ s ^^^ b / 2 ^ s := by
  rw [← Nat.shiftRight_eq_div_pow, ← Nat.shiftRight_eq_div_pow, ← Nat.shiftRight_eq_div_pow, Nat.shiftRight_xor_distrib]

def uN (y p : Nat) : Nat → Nat
  | 0 => y
  | k + 1 => y ^^^ (uN y p k / p)

theorem uN_five (y s : Nat) (h : y / 2 ^ s / 2 ^ s / 2 ^ s = 0) : uN y (2 ^ s) 5 = y ^^^ (y / 2 ^ s ^^^ y / 2 ^ s / 2 ^ s) := by
  have h2 : uN y (2 ^ s) 2 = y ^^^ (y / 2 ^ s ^^^ y / 2 ^ s / 2 ^ s) := by
    show y ^^^ ((y ^^^ (y / 2 ^ s)) / 2 ^ s) = _
    rw [xor_div]
  have st : (y ^^^ (y / 2 ^ s ^^^ y / 2 ^ s / 2 ^ s)) / 2 ^ s = y / 2 ^ s ^^^ y / 2 ^ s / 2 ^ s := by
    rw [xor_div, xor_div, h, Nat.xor_zero]
  show y ^^^ ((y ^^^ ((y ^^^ (uN y (2 ^ s) 2 / 2 ^ s)) / 2 ^ s)) / 2 ^ s) = _
  rw [h2, st, st, st]

theorem un_xs (x s : Nat) (h : x / 2 ^ s / 2 ^ s / 2 ^ s = 0) : uN (x ^^^ x / 2 ^ s) (2 ^ s) 5 = x := by
  have e1 : (x ^^^ x / 2 ^ s) / 2 ^ s = x / 2 ^ s ^^^ x / 2 ^ s / 2 ^ s := xor_div _ _ _
  have e2 : (x / 2 ^ s ^^^ x / 2 ^ s / 2 ^ s) / 2 ^ s = x / 2 ^ s / 2 ^ s := by rw [xor_div, h, Nat.xor_zero]
  have e3 : x / 2 ^ s / 2 ^ s / 2 ^ s = 0 := h
  rw [uN_five _ _ (by rw [e1, e2, e3]), e1, e2]
  generalize x / 2 ^ s / 2 ^ s = c
  generalize x / 2 ^ s = b
  rw [Nat.xor_assoc b c c, Nat.xor_self, Nat.xor_zero, Nat.xor_assoc x b b, Nat.xor_self, Nat.xor_zero]

theorem xs_un (y s : Nat) (h : y / 2 ^ s / 2 ^ s / 2 ^ s = 0) : uN y (2 ^ s) 5 ^^^ uN y (2 ^ s) 5 / 2 ^ s = y := by
  have st : (y ^^^ (y / 2 ^ s ^^^ y / 2 ^ s / 2 ^ s)) / 2 ^ s = y / 2 ^ s ^^^ y / 2 ^ s / 2 ^ s := by
    rw [xor_div, xor_div, h, Nat.xor_zero]
  rw [uN_five y s h, st, Nat.xor_assoc, Nat.xor_self, Nat.xor_zero]

theorem uN_lt (y s : Nat) (hy : y < 18446744073709551616) : ∀ k, uN y (2 ^ s) k < 18446744073709551616
  | 0 => hy
  | k + 1 => by
    have ih := uN_lt y s hy k
    have h2 : uN y (2 ^ s) k / 2 ^ s < 18446744073709551616 := Nat.lt_of_le_of_lt (Nat.div_le_self _ _) ih
    have := Nat.xor_lt_two_pow (n := 64) (x := y) (y := uN y (2 ^ s) k / 2 ^ s) (by omega) (by omega)
    show y ^^^ (uN y (2 ^ s) k / 2 ^ s) < _
    omega

/-- the iteration, as the walk spells it -/
def uI (y p : Int) : Nat → Int
  | 0 => y
  | k + 1 => bits .xor .u64 y (uI y p k / p)

theorem uI_eq (y s : Nat) (hy : y < 18446744073709551616) : ∀ k, uI (y : Int) ((2 ^ s : Nat) : Int) k = ((uN y (2 ^ s) k : Nat) : Int)
  | 0 => rfl
  | k + 1 => by
    have ih := uI_eq y s hy k
    have hl := uN_lt y s hy k
    show bits .xor .u64 (y : Int) (uI (y : Int) ((2 ^ s : Nat) : Int) k / ((2 ^ s : Nat) : Int)) = _
    rw [ih, ← Int.natCast_ediv, bits_xor_u64_nat _ _ hy (Nat.lt_of_le_of_lt (Nat.div_le_self _ _) hl)]
    rfl

theorem xsI_eq (x s : Nat) (hx : x < 18446744073709551616) : xsI (x : Int) ((2 ^ s : Nat) : Int) = ((x ^^^ x / 2 ^ s : Nat) : Int) := xorShift_u64 x (2 ^ s) hx

theorem thrice (x s : Nat) (hx : x < 18446744073709551616) (hs : 22 ≤ s) : x / 2 ^ s / 2 ^ s / 2 ^ s = 0 := by
  rw [Nat.div_div_eq_div_mul, Nat.div_div_eq_div_mul, ← Nat.pow_add, ← Nat.pow_add]
  refine Nat.div_eq_of_lt (Nat.lt_of_lt_of_le hx ?_)
  have : 2 ^ 66 ≤ 2 ^ (s + (s + s)) := Nat.pow_le_pow_right (by omega) (by omega)
  omega

theorem uI_xsI (x : Int) (s : Nat) (h0 : 0 ≤ x) (h1 : x ≤ 18446744073709551615) (hs : 22 ≤ s) : uI (xsI x ((2 ^ s : Nat) : Int)) ((2 ^ s : Nat) : Int) 5 = x := by
  obtain ⟨n, rfl⟩ := Int.eq_ofNat_of_zero_le h0
  have hn : n < 18446744073709551616 := by omega
  have hx : n ^^^ n / 2 ^ s < 18446744073709551616 := by
    have := Nat.xor_lt_two_pow (n := 64) (x := n) (y := n / 2 ^ s) (by omega) (by have := Nat.div_le_self n (2 ^ s); omega)
    omega
  rw [xsI_eq n s hn, uI_eq _ s hx, un_xs n s (thrice n s hn hs)]

theorem xsI_uI (x : Int) (s : Nat) (h0 : 0 ≤ x) (h1 : x ≤ 18446744073709551615) (hs : 22 ≤ s) : xsI (uI x ((2 ^ s : Nat) : Int) 5) ((2 ^ s : Nat) : Int) = x := by
  obtain ⟨n, rfl⟩ := Int.eq_ofNat_of_zero_le h0
  have hn : n < 18446744073709551616 := by omega
  rw [uI_eq n s hn, xsI_eq _ s (uN_lt n s hn 5), xs_un n s (thrice n s hn hs)]

theorem uI_bd (y p : Int) (h0 : 0 ≤ y) (h1 : y ≤ 18446744073709551615) : ∀ k, 0 ≤ uI y p k ∧ uI y p k ≤ 18446744073709551615
  | 0 => ⟨h0, h1⟩
  | k + 1 => wrap_bd _

/-! ### the product undone -/
def vI (c : Int) : Nat → Int
  | 0 => c
  | k + 1 => IntKind.u64.wrap (vI c k * IntKind.u64.wrap (2 - IntKind.u64.wrap (c * vI c k)))

theorem mI_back (x c i : Int) (h0 : 0 ≤ x) (h1 : x ≤ 18446744073709551615) (h : c * i % 18446744073709551616 = 1) : mI (mI x c) i = x := by
  unfold mI
  rw [IntKind.wrap_u64, IntKind.wrap_u64, Int.mul_emod, Int.emod_emod_of_dvd _ (Int.dvd_refl _), ← Int.mul_emod, Int.mul_assoc, Int.mul_emod, h, Int.mul_one, Int.emod_emod_of_dvd _ (Int.dvd_refl _)]
  exact Int.emod_eq_of_lt h0 (by omega)

theorem inv1 : 13787848793156543929 * vI 13787848793156543929 6 % 18446744073709551616 = 1 := by decide +kernel
theorem inv2 : 10723151780598845931 * vI 10723151780598845931 6 % 18446744073709551616 = 1 := by decide +kernel
theorem inv1' : vI 13787848793156543929 6 * 13787848793156543929 % 18446744073709551616 = 1 := by decide +kernel
theorem inv2' : vI 10723151780598845931 6 * 10723151780598845931 % 18446744073709551616 = 1 := by decide +kernel

/-! ### the walks -/
theorem hidp {p : Prop} (h : p) : Hid p := h

set_option maxHeartbeats 1000000 in
theorem unxs31 (y : Int) (w : World) (h0 : 0 ≤ y) (h1 : y ≤ 18446744073709551615) : Calls Yba.prog 14 #[.int .u64 y, .int .u64 31] w fun e w' => e = .returned (.int .u64 (uI y 2147483648 5)) ∧ w' = w := by
  have HB := hidp (uI_bd y 2147483648 h0 h1)
  go_enter Yba.func14, Yba.ntmps14
  go_wp2
  go_loop [5, 6] (fun r i => ∃ (k : Nat) (v : Int), k ≤ 5 ∧ i = .int .i64 k ∧ r = .int .u64 v ∧ v = uI y 2147483648 k) (fun _ i => 5 - (intOf i).toNat)
  case atStart => exact ⟨0, y, by omega, rfl, rfl, rfl⟩
  case round =>
    obtain ⟨k, v, hk, rfl, rfl, hv⟩ := hrel
    have b := HB.out k
    rw [← hv] at b
    have HV := hidp hv
    clear hv
    by_cases hlt : k < 5
    · go_wp2
      go_round
      case rel => exact ⟨k + 1, _, by omega, by go_num, rfl, by rw [HV.out]; rfl⟩
      case measure => simp [intOf]; omega
    · have e : k = 5 := by omega
      subst e
      go_wp2
      go_ret
      exact ⟨ret_eq HV.out, rfl⟩
set_option maxHeartbeats 1000000 in
theorem unxs27 (y : Int) (w : World) (h0 : 0 ≤ y) (h1 : y ≤ 18446744073709551615) : Calls Yba.prog 14 #[.int .u64 y, .int .u64 27] w fun e w' => e = .returned (.int .u64 (uI y 134217728 5)) ∧ w' = w := by
  have HB := hidp (uI_bd y 134217728 h0 h1)
  go_enter Yba.func14, Yba.ntmps14
  go_wp2
  go_loop [5, 6] (fun r i => ∃ (k : Nat) (v : Int), k ≤ 5 ∧ i = .int .i64 k ∧ r = .int .u64 v ∧ v = uI y 134217728 k) (fun _ i => 5 - (intOf i).toNat)
  case atStart => exact ⟨0, y, by omega, rfl, rfl, rfl⟩
  case round =>
    obtain ⟨k, v, hk, rfl, rfl, hv⟩ := hrel
    have b := HB.out k
    rw [← hv] at b
    have HV := hidp hv
    clear hv
    by_cases hlt : k < 5
    · go_wp2
      go_round
      case rel => exact ⟨k + 1, _, by omega, by go_num, rfl, by rw [HV.out]; rfl⟩
      case measure => simp [intOf]; omega
    · have e : k = 5 := by omega
      subst e
      go_wp2
      go_ret
      exact ⟨ret_eq HV.out, rfl⟩
set_option maxHeartbeats 1000000 in
theorem unxs30 (y : Int) (w : World) (h0 : 0 ≤ y) (h1 : y ≤ 18446744073709551615) : Calls Yba.prog 14 #[.int .u64 y, .int .u64 30] w fun e w' => e = .returned (.int .u64 (uI y 1073741824 5)) ∧ w' = w := by
  have HB := hidp (uI_bd y 1073741824 h0 h1)
  go_enter Yba.func14, Yba.ntmps14
  go_wp2
  go_loop [5, 6] (fun r i => ∃ (k : Nat) (v : Int), k ≤ 5 ∧ i = .int .i64 k ∧ r = .int .u64 v ∧ v = uI y 1073741824 k) (fun _ i => 5 - (intOf i).toNat)
  case atStart => exact ⟨0, y, by omega, rfl, rfl, rfl⟩
  case round =>
    obtain ⟨k, v, hk, rfl, rfl, hv⟩ := hrel
    have b := HB.out k
    rw [← hv] at b
    have HV := hidp hv
    clear hv
    by_cases hlt : k < 5
    · go_wp2
      go_round
      case rel => exact ⟨k + 1, _, by omega, by go_num, rfl, by rw [HV.out]; rfl⟩
      case measure => simp [intOf]; omega
    · have e : k = 5 := by omega
      subst e
      go_wp2
      go_ret
      exact ⟨ret_eq HV.out, rfl⟩

set_option maxHeartbeats 1000000 in
theorem inv_any (c : Int) (w : World) : Calls Yba.prog 15 #[.int .u64 c] w fun e w' => e = .returned (.int .u64 (vI c 6)) ∧ w' = w := by
  go_enter Yba.func15, Yba.ntmps15
  go_wp2
  go_loop [3, 4] (fun r i => ∃ (k : Nat) (v : Int), k ≤ 6 ∧ i = .int .i64 k ∧ r = .int .u64 v ∧ v = vI c k) (fun _ i => 6 - (intOf i).toNat)
  case atStart => exact ⟨0, c, by omega, rfl, rfl, rfl⟩
  case round =>
    obtain ⟨k, v, hk, rfl, rfl, hv⟩ := hrel
    have HV := hidp hv
    clear hv
    by_cases hlt : k < 6
    · go_wp2
      go_round
      case rel => exact ⟨k + 1, _, by omega, by go_num, rfl, by rw [HV.out]; rfl⟩
      case measure => simp [intOf]; omega
    · have e : k = 6 := by omega
      subst e
      go_wp2
      go_ret
      exact ⟨ret_eq HV.out, rfl⟩

def unmixI (y : Int) : Int := uI (mI (uI (mI (uI y 2147483648 5) (vI 10723151780598845931 6)) 134217728 5) (vI 13787848793156543929 6)) 1073741824 5

set_option maxHeartbeats 1000000 in
theorem unmix_any (y : Int) (w : World) (h0 : 0 ≤ y) (h1 : y ≤ 18446744073709551615) : Calls Yba.prog 10 #[.int .u64 y] w fun e w' => e = .returned (.int .u64 (unmixI y)) ∧ w' = w := by
  obtain ⟨i1, j1⟩ : ∃ z, z = vI 13787848793156543929 6 := ⟨_, rfl⟩
  obtain ⟨i2, j2⟩ : ∃ z, z = vI 10723151780598845931 6 := ⟨_, rfl⟩
  obtain ⟨x1, e1⟩ : ∃ z, z = uI y 2147483648 5 := ⟨_, rfl⟩
  obtain ⟨x2, e2⟩ : ∃ z, z = mI x1 i2 := ⟨_, rfl⟩
  obtain ⟨x3, e3⟩ : ∃ z, z = uI x2 134217728 5 := ⟨_, rfl⟩
  obtain ⟨x4, e4⟩ : ∃ z, z = mI x3 i1 := ⟨_, rfl⟩
  obtain ⟨x5, e5⟩ : ∃ z, z = uI x4 1073741824 5 := ⟨_, rfl⟩
  have b2 : 0 ≤ x2 ∧ x2 ≤ 18446744073709551615 := by rw [e2]; exact mI_bd _ _
  have b4 : 0 ≤ x4 ∧ x4 ≤ 18446744073709551615 := by rw [e4]; exact mI_bd _ _
  have C1 := hidp (unxs31 y w h0 h1)
  rw [← e1] at C1
  have C2 := hidp (inv_any 10723151780598845931 w)
  rw [← j2] at C2
  have C3 := hidp (unxs27 x2 w b2.1 b2.2)
  rw [← e3] at C3
  have C4 := hidp (inv_any 13787848793156543929 w)
  rw [← j1] at C4
  have C5 := hidp (unxs30 x4 w b4.1 b4.2)
  rw [← e5] at C5
  have C6 : Hid (x5 = unmixI y) := by
    show x5 = unmixI y
    unfold unmixI
    rw [← j1, ← j2, ← e1, ← e2, ← e3, ← e4, ← e5]
  have E2 := hidp e2
  have E4 := hidp e4
  clear e1 e2 e3 e4 e5 j1 j2 b2 b4
  go_enter Yba.func10, Yba.ntmps10
  go_wp2_with fail
  refine C1.out.mono ?_
  rintro e w' ⟨rfl, hw⟩
  subst hw
  go_wp2_with fail
  refine C2.out.mono ?_
  rintro e w' ⟨rfl, hw⟩
  subst hw
  go_wp2_with fail
  rw [show IntKind.u64.wrap (x1 * i2) = x2 from E2.out.symm]
  refine C3.out.mono ?_
  rintro e w' ⟨rfl, hw⟩
  subst hw
  go_wp2_with fail
  refine C4.out.mono ?_
  rintro e w' ⟨rfl, hw⟩
  subst hw
  go_wp2_with fail
  rw [show IntKind.u64.wrap (x3 * i1) = x4 from E4.out.symm]
  refine C5.out.mono ?_
  rintro e w' ⟨rfl, hw⟩
  subst hw
  go_wp2_with fail
  go_ret
  exact ⟨ret_eq C6.out, rfl⟩

theorem p30 : ((2 ^ 30 : Nat) : Int) = 1073741824 := by decide
theorem p27 : ((2 ^ 27 : Nat) : Int) = 134217728 := by decide
theorem p31 : ((2 ^ 31 : Nat) : Int) = 2147483648 := by decide

theorem round1 (x : Int) (h0 : 0 ≤ x) (h1 : x ≤ 18446744073709551615) : unmixI (mixI x) = x := by
  unfold unmixI mixI
  have a1 := xsI_bd x 1073741824
  have a2 := mI_bd (xsI x 1073741824) 13787848793156543929
  have a3 := xsI_bd (mI (xsI x 1073741824) 13787848793156543929) 134217728
  have a4 := mI_bd (xsI (mI (xsI x 1073741824) 13787848793156543929) 134217728) 10723151780598845931
  have u31 := fun z h0 h1 => uI_xsI z 31 h0 h1 (by omega)
  have u27 := fun z h0 h1 => uI_xsI z 27 h0 h1 (by omega)
  have u30 := fun z h0 h1 => uI_xsI z 30 h0 h1 (by omega)
  rw [p31] at u31
  rw [p27] at u27
  rw [p30] at u30
  rw [u31 _ a4.1 a4.2, mI_back _ _ _ a3.1 a3.2 inv2, u27 _ a2.1 a2.2, mI_back _ _ _ a1.1 a1.2 inv1, u30 _ h0 h1]

theorem round2 (x : Int) (h0 : 0 ≤ x) (h1 : x ≤ 18446744073709551615) : mixI (unmixI x) = x := by
  unfold unmixI mixI
  have a1 := uI_bd x 2147483648 h0 h1 5
  have a2 := mI_bd (uI x 2147483648 5) (vI 10723151780598845931 6)
  have a3 := uI_bd _ 134217728 a2.1 a2.2 5
  have a4 := mI_bd (uI (mI (uI x 2147483648 5) (vI 10723151780598845931 6)) 134217728 5) (vI 13787848793156543929 6)
  have u31 := fun z h0 h1 => xsI_uI z 31 h0 h1 (by omega)
  have u27 := fun z h0 h1 => xsI_uI z 27 h0 h1 (by omega)
  have u30 := fun z h0 h1 => xsI_uI z 30 h0 h1 (by omega)
  rw [p31] at u31
  rw [p27] at u27
  rw [p30] at u30
  rw [u30 _ a4.1 a4.2, mI_back _ _ _ a3.1 a3.2 inv1', u27 _ a2.1 a2.2, mI_back _ _ _ a1.1 a1.2 inv2', u31 _ h0 h1]

set_option maxHeartbeats 1000000 in
theorem trip_any (x : Int) (w : World) (h0 : 0 ≤ x) (h1 : x ≤ 18446744073709551615) : Calls Yba.prog 4 #[.int .u64 x] w fun e w' => e = .returned (.bool true) ∧ w' = w := by
  obtain ⟨m, hm⟩ : ∃ z, z = mixI x := ⟨_, rfl⟩
  obtain ⟨u, hu⟩ : ∃ z, z = unmixI x := ⟨_, rfl⟩
  have bm : 0 ≤ m ∧ m ≤ 18446744073709551615 := by rw [hm]; exact xsI_bd _ _
  have bu : 0 ≤ u ∧ u ≤ 18446744073709551615 := by rw [hu]; exact uI_bd _ _ (mI_bd _ _).1 (mI_bd _ _).2 5
  have C1 := hidp (mix_any x w h0 h1)
  rw [← hm] at C1
  have C2 := hidp (unmix_any m w bm.1 bm.2)
  rw [hm, round1 x h0 h1, ← hm] at C2
  have C3 := hidp (unmix_any x w h0 h1)
  rw [← hu] at C3
  have C4 := hidp (mix_any u w bu.1 bu.2)
  rw [hu, round2 x h0 h1, ← hu] at C4
  clear hm hu bm bu
  go_enter Yba.func4, Yba.ntmps4
  go_wp2_with fail
  refine C1.out.mono ?_
  rintro e w' ⟨rfl, hw⟩
  subst hw
  go_wp2_with fail
  refine C2.out.mono ?_
  rintro e w' ⟨rfl, hw⟩
  subst hw
  go_wp2_with fail
  refine C3.out.mono ?_
  rintro e w' ⟨rfl, hw⟩
  subst hw
  go_wp2_with fail
  refine C4.out.mono ?_
  rintro e w' ⟨rfl, hw⟩
  subst hw
  go_wp2_with fail
  go_ret
  exact ⟨rfl, rfl⟩
end Go.Proofs.Ybulkdfrq
