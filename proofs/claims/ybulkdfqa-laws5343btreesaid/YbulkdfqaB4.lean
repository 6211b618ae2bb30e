/-
  WALK OF zzs5343bexpect.
-/
import Derived.Test.YbulkdfqaB3
namespace Go.Proofs.Ybulkdfqa
open Go.RowKit
set_option linter.unusedVariables false
set_option linter.unusedSimpArgs false

/-- the highest uint64 -/
def mxu : Int := 18446744073709551615
def srcOk (x : Src) : Bool := (x.seq != mxu) && x.has && (x.all || leB x.lo x.hi)

theorem src1 {seq : Int} (has all : Bool) (lo hi : ByteArray) (h : seq = 18446744073709551615) : srcOk ⟨seq, has, all, lo, hi⟩ = false := by subst h; simp [srcOk, mxu]
theorem src2 {seq : Int} {has all : Bool} (lo hi : ByteArray) (h : ¬ seq = 18446744073709551615) (h1 : has = true) (h2 : all = true) : srcOk ⟨seq, has, all, lo, hi⟩ = true := by
  subst h1 h2; simp [srcOk, mxu, h]
theorem src3 {seq : Int} {has all : Bool} {lo hi : ByteArray} (h : ¬ seq = 18446744073709551615) (h1 : has = true) (h2 : ¬ all = true) (h3 : (seq != 18446744073709551615) = true ∧ (Op.bytesLess lo.toList hi.toList = true ∨ (lo.toList == hi.toList) = true)) :
    srcOk ⟨seq, has, all, lo, hi⟩ = true := by
  subst h1; simp only [srcOk, mxu, leB, h3.1, Bool.true_and, Bool.or_eq_true]; exact Or.inr h3.2
theorem src4 {seq : Int} {has all : Bool} {lo hi : ByteArray} (h : ¬ seq = 18446744073709551615) (h2 : ¬ all = true) (h3 : (seq != 18446744073709551615) = false ∨ Op.bytesLess lo.toList hi.toList = false ∧ (lo.toList == hi.toList) = false) :
    srcOk ⟨seq, has, all, lo, hi⟩ = false := by
  have h2' : all = false := by simpa using h2
  rcases h3 with h3 | ⟨h3, h4⟩
  · simp only [srcOk, mxu, h3, Bool.false_and]
  · simp only [srcOk, leB, h2', h3, h4, Bool.or_self, Bool.and_false]
theorem src5 {seq : Int} {has : Bool} (all : Bool) (lo hi : ByteArray) (h2 : ¬ has = true) : srcOk ⟨seq, has, all, lo, hi⟩ = false := by
  have h2' : has = false := by simpa using h2
  simp [srcOk, h2']
theorem no_src {X : Nat → Src} {k : Nat} {x : Src} (h : ∀ j, j < k → srcOk (X j) = false) (e : x = X k) (hk : srcOk x = false) : ∀ j, j < k + 1 → srcOk (X j) = false := by
  intro j hj
  by_cases e' : j = k
  · rw [e', ← e]; exact hk
  · exact h j (by omega)

set_option maxHeartbeats 1000000 in
set_option maxRecDepth 100000 in
theorem expect_any (a : Option Addr) (n cap : Nat) (X : Nat → Src) (w : World) (hn : n ≤ 1024) (hX : IsItems w a n X) :
    Calls Yba.prog 13 #[.slice a n cap] w fun e w' => Below w.heap.size w w' ∧ (((∀ j, j < n → srcOk (X j) = false) ∧ e = .returned (.int .i64 (-1))) ∨
      ∃ i : Nat, i < n ∧ srcOk (X i) = true ∧ (∀ j, j < i → srcOk (X j) = false) ∧ e = .returned (.int .i64 i)) := by
  have HX : Hid (IsItems w a n X) := hX
  clear hX
  go_enter Yba.func13, Yba.ntmps13
  go_wp2
  go_loopw [7] (fun i wr => ∃ k : Nat, k ≤ n ∧ i = .int .i64 k ∧ Below w.heap.size w wr ∧ ∀ j, j < k → srcOk (X j) = false) (fun i _ => n - (intOf i).toNat)
  case atStart => exact ⟨0, Nat.zero_le _, rfl, Below.refl _ _, fun j hj => absurd hj (Nat.not_lt_zero _)⟩
  case round =>
    obtain ⟨k, hk, rfl, hb, hno⟩ := hrel
    have HN : Hid (∀ j, j < k → srcOk (X j) = false) := hno
    clear hno
    by_cases hlt : k < n
    · rcases HX.out with h0 | ⟨b, off, rfl, hc⟩
      · omega
      obtain ⟨c0, c1, c2, c3, c4⟩ := hc k hlt
      have hbl : b < w.heap.size := World.block_lt_of_cell? _ _ c0
      have d0 := (hb.cell (p := ⟨b, off + k * 5, none⟩) hbl).trans c0
      have d1 := (hb.cell (p := ⟨b, off + k * 5 + 1, none⟩) hbl).trans c1
      have d2 := (hb.cell (p := ⟨b, off + k * 5 + 2, none⟩) hbl).trans c2
      have d3 := (hb.cell (p := ⟨b, off + k * 5 + 3, none⟩) hbl).trans c3
      have d4 := (hb.cell (p := ⟨b, off + k * 5 + 4, none⟩) hbl).trans c4
      clear c0 c1 c2 c3 c4 hc
      obtain ⟨x, hx⟩ : ∃ x, x = X k := ⟨_, rfl⟩
      rw [← hx] at d0 d1 d2 d3 d4
      have HXX : Hid (x = X k) := hx
      clear hx
      obtain ⟨seq, has, all, lo, hi⟩ := x
      simp only at d0 d1 d2 d3 d4
      go_wp2
      · go_roundw
        case rel => exact ⟨k + 1, by omega, by go_num, hb.alloc hb.size _, no_src HN.out HXX.out (src1 _ _ _ _ ‹_›)⟩
        case measure => simp [intOf]; omega
      · go_ret
        exact ⟨hb.alloc hb.size _, Or.inr ⟨k, hlt, by rw [← HXX.out]; exact src2 _ _ ‹_› ‹_› ‹_›, HN.out, rfl⟩⟩
      · go_ret
        exact ⟨hb.alloc hb.size _, Or.inr ⟨k, hlt, by rw [← HXX.out]; exact src3 ‹_› ‹_› ‹_› ‹_›, HN.out, rfl⟩⟩
      · go_roundw
        case rel => exact ⟨k + 1, by omega, by go_num, hb.alloc hb.size _, no_src HN.out HXX.out (src4 ‹_› ‹_› ‹_›)⟩
        case measure => simp [intOf]; omega
      · go_roundw
        case rel => exact ⟨k + 1, by omega, by go_num, hb.alloc hb.size _, no_src HN.out HXX.out (src5 _ _ _ ‹_›)⟩
        case measure => simp [intOf]; omega
    · go_wp2
      go_ret
      exact ⟨hb, Or.inl ⟨fun j hj => HN.out j (by omega), rfl⟩⟩

end Go.Proofs.Ybulkdfqa
