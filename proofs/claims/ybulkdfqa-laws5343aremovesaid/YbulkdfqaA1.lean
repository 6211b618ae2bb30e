/-
  PLAIN: TREAPS OVER A STORE, no Go in sight. An index names a node; 'Dat': what never turns (keys, seq, prio); 'St': the links and what a node records of its subtree. 'Tree D S p xs': from p down lies a tree whose in-order list is xs, heap-ordered by prio, every node recording the right lowest seq and an item that ends last.
-/
import Derived.Test.YbulkdfqaA0
namespace Go.Proofs.Ybulkdfqa
set_option linter.unusedVariables false
set_option linter.unusedSimpArgs false

structure Dat where
  key : Nat → Ky
  seq : Nat → Int
  prio : Nat → Int

structure St where
  left : Nat → Option Nat
  right : Nat → Option Nat
  last : Nat → Option Nat
  ms : Nat → Int

def upd {α : Type} (f : Nat → α) (i : Nat) (v : α) : Nat → α := fun j => if j = i then v else f j
@[simp] theorem upd_same {α : Type} (f : Nat → α) (i : Nat) (v : α) : upd f i v i = v := by simp [upd]
theorem upd_other {α : Type} (f : Nat → α) {i j : Nat} (v : α) (h : j ≠ i) : upd f i v j = f j := by simp [upd, h]

def St.setLeft (S : St) (i : Nat) (p : Option Nat) : St := { S with left := upd S.left i p }
def St.setRight (S : St) (i : Nat) (p : Option Nat) : St := { S with right := upd S.right i p }
def St.setLast (S : St) (i : Nat) (p : Option Nat) : St := { S with last := upd S.last i p }
def St.setMs (S : St) (i : Nat) (v : Int) : St := { S with ms := upd S.ms i v }

/-- the two stores hold the same of node j -/
def St.same (S S' : St) (j : Nat) : Prop := S'.left j = S.left j ∧ S'.right j = S.right j ∧ S'.last j = S.last j ∧ S'.ms j = S.ms j

theorem same_refl (S : St) (j : Nat) : S.same S j := ⟨rfl, rfl, rfl, rfl⟩
theorem St.same.trans {S S' S'' : St} {j : Nat} (h : S.same S' j) (k : S'.same S'' j) : S.same S'' j :=
  ⟨k.1.trans h.1, k.2.1.trans h.2.1, k.2.2.1.trans h.2.2.1, k.2.2.2.trans h.2.2.2⟩
theorem same_setLeft (S : St) {i j : Nat} (p : Option Nat) (h : j ≠ i) : S.same (S.setLeft i p) j := ⟨upd_other _ _ h, rfl, rfl, rfl⟩
theorem same_setRight (S : St) {i j : Nat} (p : Option Nat) (h : j ≠ i) : S.same (S.setRight i p) j := ⟨rfl, upd_other _ _ h, rfl, rfl⟩
theorem same_setLast (S : St) {i j : Nat} (p : Option Nat) (h : j ≠ i) : S.same (S.setLast i p) j := ⟨rfl, rfl, upd_other _ _ h, rfl⟩
theorem same_setMs (S : St) {i j : Nat} (v : Int) (h : j ≠ i) : S.same (S.setMs i v) j := ⟨rfl, rfl, rfl, upd_other _ _ h⟩

/-- item i against item j -/
def Dat.ord (D : Dat) (i j : Nat) : Int := cmpQ (D.key i, D.seq i) (D.key j, D.seq j)
theorem ord_good (D : Dat) : Good D.ord := cmpQ_good.pull fun i => (D.key i, D.seq i)

/-- m is an item of xs, and none of xs ends after it -/
def LastOK (D : Dat) (xs : List Nat) (m : Nat) : Prop := m ∈ xs ∧ ∀ x ∈ xs, cmpE (D.key x) (D.key m) ≤ 0
/-- v is the lowest seq of xs -/
def MinOK (D : Dat) (xs : List Nat) (v : Int) : Prop := (∃ x ∈ xs, D.seq x = v) ∧ ∀ x ∈ xs, v ≤ D.seq x

/-- THE TREE FROM p DOWN, at most d deep -/
def Tr (D : Dat) (S : St) : Nat → Option Nat → List Nat → Prop
  | 0, p, xs => p = none ∧ xs = []
  | d + 1, p, xs => (p = none ∧ xs = []) ∨ ∃ i ls rs, p = some i ∧ xs = ls ++ i :: rs ∧ Tr D S d (S.left i) ls ∧ Tr D S d (S.right i) rs ∧
      (∀ j ∈ ls ++ rs, D.prio j ≤ D.prio i) ∧ ∃ m, S.last i = some m ∧ LastOK D xs m ∧ MinOK D xs (S.ms i)

theorem Tr.succ {D : Dat} {S : St} : ∀ {d : Nat} {p : Option Nat} {xs : List Nat}, Tr D S d p xs → Tr D S (d + 1) p xs
  | 0, _, _, h => Or.inl h
  | d + 1, _, _, h => by
    rcases h with h | ⟨i, ls, rs, hp, hx, hl, hr, hh⟩
    · exact Or.inl h
    · exact Or.inr ⟨i, ls, rs, hp, hx, hl.succ, hr.succ, hh⟩

theorem Tr.mono {D : Dat} {S : St} {d d' : Nat} {p : Option Nat} {xs : List Nat} (h : Tr D S d p xs) (hd : d ≤ d') : Tr D S d' p xs := by
  induction hd with
  | refl => exact h
  | step _ ih => exact ih.succ

theorem Tr.nilp {D : Dat} {S : St} {d : Nat} {xs : List Nat} (h : Tr D S d none xs) : xs = [] := by
  cases d with
  | zero => exact h.2
  | succ d =>
    rcases h with ⟨_, h⟩ | ⟨i, _, _, hp, _⟩
    · exact h
    · cases hp

/-- a store that holds the same of every node of the tree holds the tree -/
theorem Tr.carry {D : Dat} {S S' : St} : ∀ {d : Nat} {p : Option Nat} {xs : List Nat}, Tr D S d p xs → (∀ j ∈ xs, S.same S' j) → Tr D S' d p xs
  | 0, _, _, h, _ => h
  | d + 1, _, xs, h, hs => by
    rcases h with h | ⟨i, ls, rs, hp, hx, hl, hr, hh, m, hm, hl2, hm2⟩
    · exact Or.inl h
    · subst hx
      have hi := hs i (by simp)
      refine Or.inr ⟨i, ls, rs, hp, rfl, ?_, ?_, hh, m, by rw [hi.2.2.1]; exact hm, hl2, by rw [hi.2.2.2]; exact hm2⟩
      · rw [hi.1]; exact hl.carry fun j hj => hs j (by simp [hj])
      · rw [hi.2.1]; exact hr.carry fun j hj => hs j (by simp [hj])

def Tree (D : Dat) (S : St) (p : Option Nat) (xs : List Nat) : Prop := ∃ d, Tr D S d p xs

theorem Tree.empty (D : Dat) (S : St) : Tree D S Option.none [] := ⟨0, rfl, rfl⟩
theorem Tree.carry {D : Dat} {S S' : St} {p : Option Nat} {xs : List Nat} (h : Tree D S p xs) (hs : ∀ j ∈ xs, S.same S' j) : Tree D S' p xs := by obtain ⟨d, hd⟩ := h; exact ⟨d, hd.carry hs⟩
theorem Tree.nilp {D : Dat} {S : St} {xs : List Nat} (h : Tree D S Option.none xs) : xs = [] := by obtain ⟨d, hd⟩ := h; exact hd.nilp

/-- NodeOK: what a node records is right -/
def NodeOK (D : Dat) (S : St) (i : Nat) (xs : List Nat) : Prop := ∃ m, S.last i = some m ∧ LastOK D xs m ∧ MinOK D xs (S.ms i)

theorem Tree.node {D : Dat} {S : St} {i : Nat} {ls rs : List Nat} (hl : Tree D S (S.left i) ls) (hr : Tree D S (S.right i) rs) (hh : ∀ j ∈ ls ++ rs, D.prio j ≤ D.prio i) (hn : NodeOK D S i (ls ++ i :: rs)) :
    Tree D S (some i) (ls ++ i :: rs) := by
  obtain ⟨d1, h1⟩ := hl
  obtain ⟨d2, h2⟩ := hr
  exact ⟨max d1 d2 + 1, Or.inr ⟨i, ls, rs, rfl, rfl, h1.mono (Nat.le_max_left _ _), h2.mono (Nat.le_max_right _ _), hh, hn⟩⟩

theorem Tree.parts {D : Dat} {S : St} {i : Nat} {xs : List Nat} (h : Tree D S (some i) xs) : ∃ ls rs, xs = ls ++ i :: rs ∧ Tree D S (S.left i) ls ∧ Tree D S (S.right i) rs ∧ (∀ j ∈ ls ++ rs, D.prio j ≤ D.prio i) ∧ NodeOK D S i xs := by
  obtain ⟨d, hd⟩ := h
  cases d with
  | zero => cases hd.1
  | succ d =>
    rcases hd with ⟨h, _⟩ | ⟨j, ls, rs, hp, hx, hl, hr, hh⟩
    · cases h
    · cases hp
      exact ⟨ls, rs, hx, ⟨d, hl⟩, ⟨d, hr⟩, hh⟩

theorem Tree.head_mem {D : Dat} {S : St} {i : Nat} {xs : List Nat} (h : Tree D S (some i) xs) : i ∈ xs := by
  obtain ⟨ls, rs, rfl, _⟩ := h.parts
  simp

/-- the root's prio is the highest -/
theorem Tree.top {D : Dat} {S : St} {i : Nat} {xs : List Nat} (h : Tree D S (some i) xs) : ∀ j ∈ xs, D.prio j ≤ D.prio i := by
  obtain ⟨ls, rs, rfl, _, _, hh, _⟩ := h.parts
  intro j hj
  rcases List.mem_append.1 hj with hj | hj
  · exact hh j (by simp [hj])
  · rcases List.mem_cons.1 hj with hj | hj
    · rw [hj]; exact Int.le_refl _
    · exact hh j (by simp [hj])

/-! ### fix -/

def lastD (S : St) (c : Nat) : Nat := (S.last c).getD 0
/-- one child looked at: the item that ends last -/
def fixL (D : Dat) (S : St) (m : Nat) : Option Nat → Nat
  | none => m
  | some c => if 0 < cmpE (D.key (lastD S c)) (D.key m) then lastD S c else m
def fixM (S : St) (v : Int) : Option Nat → Int
  | none => v
  | some c => min v (S.ms c)
/-- WHAT fix DOES TO THE STORE -/
def fixS (D : Dat) (S : St) (i : Nat) : St :=
  (S.setLast i (some (fixL D S (fixL D S i (S.left i)) (S.right i)))).setMs i (fixM S (fixM S (D.seq i) (S.left i)) (S.right i))

theorem fixS_left (D : Dat) (S : St) (i : Nat) : (fixS D S i).left = S.left := rfl
theorem fixS_right (D : Dat) (S : St) (i : Nat) : (fixS D S i).right = S.right := rfl
theorem fixS_same (D : Dat) (S : St) {i j : Nat} (h : j ≠ i) : S.same (fixS D S i) j := (same_setLast S _ h).trans (same_setMs _ _ h)

theorem lastOK_step {D : Dat} {S : St} {as bs : List Nat} {m : Nat} {p : Option Nat} (h : LastOK D as m) (ht : Tree D S p bs) : LastOK D (as ++ bs) (fixL D S m p) := by
  cases p with
  | none =>
    have : bs = [] := ht.nilp
    subst this
    simpa [fixL] using h
  | some c =>
    obtain ⟨ls, rs, hx, _, _, _, m', hm', hl', _⟩ := ht.parts
    have e : lastD S c = m' := by simp [lastD, hm']
    unfold fixL
    simp only [e]
    have g := cmpE_good
    by_cases hlt : 0 < cmpE (D.key m') (D.key m)
    · rw [if_pos hlt]
      refine ⟨List.mem_append_right _ hl'.1, fun x hx' => ?_⟩
      rcases List.mem_append.1 hx' with hx' | hx'
      · have h1 := h.2 x hx'
        have h2 := g.anti (D.key m') (D.key m)
        exact g.trans _ _ _ h1 (by omega)
      · exact hl'.2 x hx'
    · rw [if_neg hlt]
      refine ⟨List.mem_append_left _ h.1, fun x hx' => ?_⟩
      rcases List.mem_append.1 hx' with hx' | hx'
      · exact h.2 x hx'
      · exact g.trans _ _ _ (hl'.2 x hx') (by omega)

theorem minOK_step {D : Dat} {S : St} {as bs : List Nat} {v : Int} {p : Option Nat} (h : MinOK D as v) (ht : Tree D S p bs) : MinOK D (as ++ bs) (fixM S v p) := by
  cases p with
  | none =>
    have : bs = [] := ht.nilp
    subst this
    simpa [fixM] using h
  | some c =>
    obtain ⟨ls, rs, hx, _, _, _, m', hm', _, hm2⟩ := ht.parts
    show MinOK D (as ++ bs) (min v (S.ms c))
    obtain ⟨⟨x, hx1, hx2⟩, h2⟩ := h
    obtain ⟨⟨y, hy1, hy2⟩, h4⟩ := hm2
    refine ⟨?_, fun z hz => ?_⟩
    · by_cases hle : v ≤ S.ms c
      · exact ⟨x, List.mem_append_left _ hx1, by omega⟩
      · exact ⟨y, List.mem_append_right _ hy1, by omega⟩
    · rcases List.mem_append.1 hz with hz | hz
      · have := h2 z hz; omega
      · have := h4 z hz; omega

theorem lastOK_perm {D : Dat} {as bs : List Nat} {m : Nat} (h : LastOK D as m) (e : ∀ x, x ∈ as ↔ x ∈ bs) : LastOK D bs m := ⟨(e m).1 h.1, fun x hx => h.2 x ((e x).2 hx)⟩
theorem minOK_perm {D : Dat} {as bs : List Nat} {v : Int} (h : MinOK D as v) (e : ∀ x, x ∈ as ↔ x ∈ bs) : MinOK D bs v :=
  ⟨let ⟨x, h1, h2⟩ := h.1; ⟨x, (e x).1 h1, h2⟩, fun x hx => h.2 x ((e x).2 hx)⟩

/-- behind fix the node is right -/
theorem Tree.fixed {D : Dat} {S : St} {i : Nat} {ls rs : List Nat} (hl : Tree D S (S.left i) ls) (hr : Tree D S (S.right i) rs) (hil : i ∉ ls) (hir : i ∉ rs) (hh : ∀ j ∈ ls ++ rs, D.prio j ≤ D.prio i) :
    Tree D (fixS D S i) (some i) (ls ++ i :: rs) := by
  have cl : Tree D (fixS D S i) ((fixS D S i).left i) ls := hl.carry fun j hj => fixS_same D S (fun e => hil (e ▸ hj))
  have cr : Tree D (fixS D S i) ((fixS D S i).right i) rs := hr.carry fun j hj => fixS_same D S (fun e => hir (e ▸ hj))
  have e : ∀ x, x ∈ [i] ++ ls ++ rs ↔ x ∈ ls ++ i :: rs := fun x => by
    simp only [List.mem_append, List.mem_cons, List.not_mem_nil, or_false]
    constructor
    · rintro ((h | h) | h)
      · exact Or.inr (Or.inl h)
      · exact Or.inl h
      · exact Or.inr (Or.inr h)
    · rintro (h | h | h)
      · exact Or.inl (Or.inr h)
      · exact Or.inl (Or.inl h)
      · exact Or.inr h
  refine cl.node cr hh ⟨_, upd_same _ _ _, lastOK_perm (lastOK_step (lastOK_step (as := [i]) ⟨by simp, fun x hx => ?_⟩ hl) hr) e, ?_⟩
  · simp at hx; subst hx; have := cmpE_good.self (D.key x); omega
  · have h0 : MinOK D [i] (D.seq i) := ⟨⟨i, by simp, rfl⟩, fun x hx => by simp at hx; subst hx; exact Int.le_refl _⟩
    have := minOK_perm (minOK_step (minOK_step h0 hl) hr) e
    have e2 : (fixS D S i).ms i = fixM S (fixM S (D.seq i) (S.left i)) (S.right i) := upd_same _ _ _
    rw [e2]; exact this

end Go.Proofs.Ybulkdfqa
