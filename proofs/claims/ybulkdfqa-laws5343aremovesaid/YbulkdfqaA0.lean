/-
  PLAIN: THE ORDER OF A keySet's ITEMS, no Go in sight. A comparator is good if it is 0 on the diagonal, turns its sign when its arguments change places, and is transitive; good comparators compose lexicographically.
-/
import Derived.Lib.Bytealg
import GoSem.Op.String
namespace Go.Proofs.Ybulkdfqa
set_option linter.unusedVariables false
set_option linter.unusedSimpArgs false

/-- A GOOD COMPARATOR -/
structure Good {α : Type} (c : α → α → Int) : Prop where
  self : ∀ a, c a a = 0
  anti : ∀ a b, c a b = - c b a
  trans : ∀ a b d, c a b ≤ 0 → c b d ≤ 0 → c a d ≤ 0

namespace Good
variable {α : Type} {c : α → α → Int}

theorem lt_le (h : Good c) {a b d : α} (h1 : c a b < 0) (h2 : c b d ≤ 0) : c a d < 0 := by
  rcases Int.lt_or_le (c a d) 0 with h' | h'
  · exact h'
  · have h3 := h.anti a d
    have h4 := h.trans b d a h2 (by omega)
    have h5 := h.anti a b
    omega

theorem le_lt (h : Good c) {a b d : α} (h1 : c a b ≤ 0) (h2 : c b d < 0) : c a d < 0 := by
  rcases Int.lt_or_le (c a d) 0 with h' | h'
  · exact h'
  · have h3 := h.anti a d
    have h4 := h.trans d a b (by omega) h1
    have h5 := h.anti b d
    omega

theorem lt_lt (h : Good c) {a b d : α} (h1 : c a b < 0) (h2 : c b d < 0) : c a d < 0 := h.lt_le h1 (by omega)

/-- along a function -/
theorem pull {β : Type} (h : Good c) (f : β → α) : Good (fun x y => c (f x) (f y)) :=
  ⟨fun a => h.self _, fun a b => h.anti _ _, fun a b d => h.trans _ _ _⟩

/-- first by c, then by c' -/
theorem lex {c' : α → α → Int} (h : Good c) (h' : Good c') : Good (fun a b => if c a b ≠ 0 then c a b else c' a b) := by
  refine ⟨fun a => ?_, fun a b => ?_, fun a b d => ?_⟩
  · simp [h.self, h'.self]
  · have h1 := h.anti a b
    have h2 := h'.anti a b
    by_cases e : c a b = 0
    · have e' : c b a = 0 := by omega
      simp [e, e']
      exact h2
    · have e' : ¬ c b a = 0 := by omega
      simp [e, e']
      exact h1
  · intro h1 h2
    have k1 : c a b ≤ 0 := by
      by_cases e : c a b = 0
      · omega
      · simpa [e] using h1
    have k2 : c b d ≤ 0 := by
      by_cases e : c b d = 0
      · omega
      · simpa [e] using h2
    have k3 := h.trans a b d k1 k2
    by_cases e : c a d = 0
    · have e1 : c a b = 0 := by
        rcases Int.lt_or_le (c a b) 0 with h' | h'
        · have := h.lt_le h' k2; omega
        · omega
      have e2 : c b d = 0 := by
        rcases Int.lt_or_le (c b d) 0 with h' | h'
        · have := h.le_lt k1 h'; omega
        · omega
      simp [e1] at h1
      simp [e2] at h2
      simp [e]
      exact h'.trans a b d h1 h2
    · simp [e]; exact k3
end Good

/-! ### the comparators -/
open Lib (compareBytes)

theorem cmp_self : ∀ a : List UInt8, compareBytes a a = 0
  | [] => rfl
  | x :: a => by simp [compareBytes, UInt8.lt_irrefl, cmp_self a]

theorem cmp_anti : ∀ a b : List UInt8, compareBytes a b = - compareBytes b a
  | [], [] => rfl
  | [], _ :: _ => rfl
  | _ :: _, [] => rfl
  | x :: a, y :: b => by
    have ih := cmp_anti a b
    unfold compareBytes
    by_cases h1 : x < y
    · have h2 : ¬ y < x := UInt8.lt_asymm h1
      simp [h1, h2]
    · by_cases h2 : y < x
      · simp [h1, h2]
      · simp [h1, h2, ih]

theorem cmp_zero : ∀ {a b : List UInt8}, compareBytes a b = 0 → a = b
  | [], [], _ => rfl
  | [], _ :: _, h => by simp [compareBytes] at h
  | _ :: _, [], h => by simp [compareBytes] at h
  | x :: a, y :: b, h => by
    unfold compareBytes at h
    by_cases h1 : x < y
    · simp [h1] at h
    · by_cases h2 : y < x
      · simp [h1, h2] at h
      · simp [h1, h2] at h
        have e : x = y := UInt8.le_antisymm (UInt8.not_lt.1 h2) (UInt8.not_lt.1 h1)
        rw [e, cmp_zero h]

theorem cmp_trans : ∀ a b d : List UInt8, compareBytes a b ≤ 0 → compareBytes b d ≤ 0 → compareBytes a d ≤ 0
  | [], _, [], _, _ => by simp [compareBytes]
  | [], _, _ :: _, _, _ => by simp [compareBytes]
  | _ :: _, [], _, h, _ => by simp [compareBytes] at h
  | _ :: _, _ :: _, [], _, h => by simp [compareBytes] at h
  | x :: a, y :: b, z :: d, h1, h2 => by
    unfold compareBytes at h1 h2 ⊢
    by_cases hxy : x < y
    · by_cases hzy : z < y
      · have : ¬ y < z := UInt8.lt_asymm hzy
        simp [this, hzy] at h2
      · have hxz : x < z := UInt8.lt_of_lt_of_le hxy (UInt8.not_lt.1 hzy)
        simp [hxz]
    · by_cases hyx : y < x
      · simp [hxy, hyx] at h1
      · have e : x = y := UInt8.le_antisymm (UInt8.not_lt.1 hyx) (UInt8.not_lt.1 hxy)
        subst e
        simp [UInt8.lt_irrefl] at h1
        by_cases hxz : x < z
        · simp [hxz]
        · by_cases hzx : z < x
          · simp [hxz, hzx] at h2
          · simp [hxz, hzx] at h2 ⊢
            exact cmp_trans a b d h1 h2

/-- strings -/
def cmpS (a b : ByteArray) : Int := compareBytes a.data.toList b.data.toList
theorem cmpS_good : Good cmpS := ⟨fun a => cmp_self _, fun a b => cmp_anti _ _, fun a b d => cmp_trans _ _ _⟩
theorem cmpS_zero {a b : ByteArray} (h : cmpS a b = 0) : a = b := by
  have := cmp_zero h
  obtain ⟨⟨la⟩⟩ := a
  obtain ⟨⟨lb⟩⟩ := b
  simp at this
  rw [this]
theorem cmpS_vals (a b : ByteArray) : cmpS a b = -1 ∨ cmpS a b = 0 ∨ cmpS a b = 1 := by
  unfold cmpS
  generalize a.data.toList = x
  generalize b.data.toList = y
  induction x generalizing y with
  | nil => cases y <;> simp [compareBytes]
  | cons x xs ih =>
    cases y with
    | nil => simp [compareBytes]
    | cons y ys =>
      unfold compareBytes
      by_cases h1 : x < y
      · simp [h1]
      · by_cases h2 : y < x
        · simp [h1, h2]
        · simp [h1, h2]; exact ih ys

/-- '<' on byte lists, as Go's operator -/
theorem less_iff : ∀ a b : List UInt8, Op.bytesLess a b = decide (compareBytes a b < 0)
  | [], [] => by simp [Op.bytesLess, compareBytes]
  | [], _ :: _ => by simp [Op.bytesLess, compareBytes]
  | _ :: _, [] => by simp [Op.bytesLess, compareBytes]
  | x :: a, y :: b => by
    have ih := less_iff a b
    unfold Op.bytesLess compareBytes
    by_cases h1 : x < y
    · simp [h1]
    · by_cases h2 : y < x
      · have e : ¬ x = y := fun e => UInt8.lt_irrefl x (by rw [e] at h2; exact absurd h2 (UInt8.lt_irrefl y))
        simp [h1, h2, e]
      · have e : x = y := UInt8.le_antisymm (UInt8.not_lt.1 h2) (UInt8.not_lt.1 h1)
        simp [h1, h2, e, ih, UInt8.lt_irrefl]

theorem eq_iff (a b : List UInt8) : (a == b) = decide (compareBytes a b = 0) := by
  by_cases h : a = b
  · subst h; simp [cmp_self]
  · have : ¬ compareBytes a b = 0 := fun e => h (cmp_zero e)
    simp [h, this]

/-- booleans: false first -/
def cmpB (a b : Bool) : Int := if a == b then 0 else if a then 1 else -1
theorem cmpB_good : Good cmpB := ⟨by decide, by decide, by decide⟩

/-- numbers -/
def cmpI (a b : Int) : Int := if a < b then -1 else if b < a then 1 else 0
theorem cmpI_good : Good cmpI := by
  refine ⟨fun a => ?_, fun a b => ?_, fun a b d => ?_⟩
  · unfold cmpI; simp
  · unfold cmpI; split <;> split <;> (try split) <;> omega
  · unfold cmpI
    intro h1 h2
    split at h1 <;> split at h2 <;> (try split at h1) <;> (try split at h2) <;> split <;> (try split) <;> omega

/-- a range of keys -/
structure Ky where
  lo : ByteArray
  hi : ByteArray
  all : Bool

def cmpK (k o : Ky) : Int := if cmpS k.lo o.lo ≠ 0 then cmpS k.lo o.lo else if cmpB k.all o.all ≠ 0 then cmpB k.all o.all else cmpS k.hi o.hi
theorem cmpK_good : Good cmpK := (cmpS_good.pull Ky.lo).lex ((cmpB_good.pull Ky.all).lex (cmpS_good.pull Ky.hi))

/-- keys, then seq -/
def cmpQ (x y : Ky × Int) : Int := if cmpK x.1 y.1 ≠ 0 then cmpK x.1 y.1 else cmpI x.2 y.2
theorem cmpQ_good : Good cmpQ := (cmpK_good.pull Prod.fst).lex (cmpI_good.pull Prod.snd)
theorem cmpQ_zero {x y : Ky × Int} (h : cmpQ x y = 0) : x.2 = y.2 := by
  unfold cmpQ at h
  by_cases e : cmpK x.1 y.1 = 0
  · simp [e] at h
    unfold cmpI at h
    split at h
    · omega
    · split at h <;> omega
  · simp [e] at h

/-- where a range ends -/
def cmpE (k o : Ky) : Int := if cmpB k.all o.all ≠ 0 then cmpB k.all o.all else if k.all then 0 else cmpS k.hi o.hi
theorem cmpE_good : Good cmpE := by
  have h := (cmpB_good.pull Ky.all).lex (c' := fun k o : Ky => if k.all && o.all then 0 else if k.all then 1 else if o.all then -1 else cmpS k.hi o.hi) ?_
  · have e : cmpE = fun a b : Ky => if cmpB a.all b.all ≠ 0 then cmpB a.all b.all else if a.all && b.all then 0 else if a.all then 1 else if b.all then -1 else cmpS a.hi b.hi := by
      funext a b
      unfold cmpE
      by_cases h : cmpB a.all b.all ≠ 0
      · rw [if_pos h, if_pos h]
      · rw [if_neg h, if_neg h]
        unfold cmpB at h
        cases ha : a.all <;> cases hb : b.all <;> simp [ha, hb] at h ⊢
    rw [e]; exact h
  · have hs := cmpS_good
    refine ⟨fun a => ?_, fun a b => ?_, fun a b d => ?_⟩
    · cases a.all <;> simp [hs.self]
    · have := hs.anti a.hi b.hi
      cases a.all <;> cases b.all <;> simp <;> omega
    · have := hs.trans a.hi b.hi d.hi
      cases a.all <;> cases b.all <;> cases d.all <;> simp <;> omega

end Go.Proofs.Ybulkdfqa
