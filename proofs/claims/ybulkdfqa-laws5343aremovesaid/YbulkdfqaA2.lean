/-
  PLAIN: WHAT insert, join AND remove DO TO A TREAP, step by step, no Go in sight.
-/
import Derived.Test.YbulkdfqaA1
namespace Go.Proofs.Ybulkdfqa
set_option linter.unusedVariables false
set_option linter.unusedSimpArgs false

/-- in key order -/
def Srt (D : Dat) (xs : List Nat) : Prop := xs.Pairwise (fun a b => D.ord a b < 0)

theorem Srt.nodup {D : Dat} : ∀ {xs : List Nat}, Srt D xs → xs.Nodup
  | [], _ => List.nodup_nil
  | a :: xs, h => by
    unfold Srt at h
    rw [List.pairwise_cons] at h
    exact List.nodup_cons.2 ⟨fun hm => by have h1 := h.1 a hm; have h2 := (ord_good D).self a; omega, Srt.nodup h.2⟩

theorem srt_parts {D : Dat} {ls rs : List Nat} {i : Nat} (h : Srt D (ls ++ i :: rs)) :
    Srt D ls ∧ Srt D rs ∧ (∀ a ∈ ls, D.ord a i < 0) ∧ (∀ b ∈ rs, D.ord i b < 0) ∧ (∀ a ∈ ls, ∀ b ∈ rs, D.ord a b < 0) := by
  unfold Srt at h
  rw [List.pairwise_append, List.pairwise_cons] at h
  obtain ⟨h1, ⟨h2, h3⟩, h4⟩ := h
  exact ⟨h1, h3, fun a ha => h4 a ha i (by simp), h2, fun a ha b hb => h4 a ha b (by simp [hb])⟩

theorem nodup_parts {ls rs : List Nat} {i : Nat} (h : (ls ++ i :: rs).Nodup) : i ∉ ls ∧ i ∉ rs ∧ ls.Nodup ∧ rs.Nodup ∧ ∀ a ∈ ls, a ∉ rs := by
  rw [List.nodup_append, List.nodup_cons] at h
  obtain ⟨h1, ⟨h2, h3⟩, h4⟩ := h
  exact ⟨fun hi => h4 i hi i (by simp) rfl, h2, h1, h3, fun a ha hb => h4 a ha a (by simp [hb]) rfl⟩

/-- a child's tree, apart from i, among the items X -/
def ChT (D : Dat) (S : St) (i : Nat) (p : Option Nat) (X : List Nat) : Prop := ∃ xs, Tree D S p xs ∧ i ∉ xs ∧ ∀ x ∈ xs, x ∈ X

/-- what insert leaves -/
structure InsOK (D : Dat) (S S' : St) (xs : List Nat) (it : Nat) (r : Nat) : Prop where
  split : ∃ la lb, xs = la ++ lb ∧ (∀ a ∈ la, D.ord a it < 0) ∧ (∀ b ∈ lb, D.ord it b < 0) ∧ Tree D S' (some r) (la ++ it :: lb)
  agree : ∀ j, j ∉ xs → j ≠ it → S.same S' j

theorem ins_nil {D : Dat} {S : St} {it : Nat} (hl : S.left it = none) (hr : S.right it = none) : InsOK D S (fixS D S it) [] it it := by
  refine ⟨⟨[], [], rfl, by simp, by simp, ?_⟩, fun j _ h => fixS_same D S h⟩
  have := Tree.fixed (D := D) (S := S) (i := it) (ls := []) (rs := []) (by rw [hl]; exact Tree.empty _ _) (by rw [hr]; exact Tree.empty _ _) (by simp) (by simp) (by simp)
  simpa using this

section
variable {D : Dat} {S S1 : St} {ls rs : List Nat} {i it l : Nat}

/-- to the left, no turn -/
theorem ins_left (hs : Srt D (ls ++ i :: rs)) (hr : Tree D S (S.right i) rs) (hh : ∀ j ∈ ls ++ rs, D.prio j ≤ D.prio i) (hit : it ∉ ls ++ i :: rs) (hlt : D.ord it i < 0) (h1 : InsOK D S S1 ls it l) (hp : D.prio l ≤ D.prio i) :
    InsOK D S (fixS D (S1.setLeft i (some l)) i) (ls ++ i :: rs) it i ∧ ChT D (S1.setLeft i (some l)) i ((S1.setLeft i (some l)).left i) (it :: (ls ++ i :: rs)) ∧ ChT D (S1.setLeft i (some l)) i ((S1.setLeft i (some l)).right i) (it :: (ls ++ i :: rs)) := by
  obtain ⟨s1, s2, s3, s4, s5⟩ := srt_parts hs
  obtain ⟨n1, n2, _, _, n5⟩ := nodup_parts hs.nodup
  have hii : it ≠ i := fun e => hit (by simp [e])
  have hil : it ∉ ls := fun e => hit (by simp [e])
  have hir : it ∉ rs := fun e => hit (by simp [e])
  obtain ⟨⟨la, lb, rfl, ha, hb, ht⟩, hag⟩ := h1
  have sm : ∀ j, j ∉ la ++ lb → j ≠ it → j ≠ i → S.same (S1.setLeft i (some l)) j := fun j h1 h2 h3 => (hag j h1 h2).trans (same_setLeft _ _ h3)
  have e1 : (S1.setLeft i (some l)).left i = some l := upd_same _ _ _
  have e2 : (S1.setLeft i (some l)).right i = S.right i := (hag i n1 (Ne.symm hii)).2.1
  have i_not : i ∉ la ++ it :: lb := by
    intro h
    rcases List.mem_append.1 h with h | h
    · exact n1 (by simp [h])
    · rcases List.mem_cons.1 h with h | h
      · exact hii h.symm
      · exact n1 (by simp [h])
  have subl : ∀ x ∈ la ++ it :: lb, x ∈ it :: ((la ++ lb) ++ i :: rs) := fun x hx => by
    rcases List.mem_append.1 hx with h | h
    · simp [h]
    · rcases List.mem_cons.1 h with h | h <;> simp [h]
  refine ⟨?_, ⟨la ++ it :: lb, by rw [e1]; exact ht.carry fun j hj => same_setLeft _ _ (fun e => i_not (e ▸ hj)), i_not, subl⟩,
    ⟨rs, by rw [e2]; exact hr.carry fun j hj => sm j (fun h => n5 j h hj) (fun e => hir (e ▸ hj)) (fun e => n2 (e ▸ hj)), n2, fun x hx => by simp [hx]⟩⟩
  refine ⟨⟨la, lb ++ i :: rs, by simp, ha, ?_, ?_⟩, fun j hj hji => ?_⟩
  · intro b hb'
    rcases List.mem_append.1 hb' with h | h
    · exact hb b h
    · rcases List.mem_cons.1 h with h | h
      · rw [h]; exact hlt
      · exact (ord_good D).lt_lt hlt (s4 b h)
  · have := Tree.fixed (D := D) (S := S1.setLeft i (some l)) (i := i) (ls := la ++ it :: lb) (rs := rs) (by rw [e1]; exact ht.carry fun j hj => same_setLeft _ _ (fun e => i_not (e ▸ hj)))
      (by rw [e2]; exact hr.carry fun j hj => sm j (fun h => n5 j h hj) (fun e => hir (e ▸ hj)) (fun e => n2 (e ▸ hj))) i_not n2 ?_
    · simpa using this
    · intro j hj
      rcases List.mem_append.1 hj with h | h
      · have := ht.top j h; omega
      · exact hh j (by simp [h])
  · refine ((hag j (fun h => hj (by simp at h; rcases h with h | h <;> simp [h])) hji).trans (same_setLeft _ _ (fun e => hj (by simp [e])))).trans (fixS_same D _ (fun e => hj (by simp [e])))

/-- to the left, and a turn to the right -/
theorem ins_left_rot (hs : Srt D (ls ++ i :: rs)) (hr : Tree D S (S.right i) rs) (hh : ∀ j ∈ ls ++ rs, D.prio j ≤ D.prio i) (hit : it ∉ ls ++ i :: rs) (hlt : D.ord it i < 0) (h1 : InsOK D S S1 ls it l) (hp : D.prio i < D.prio l) :
    InsOK D S (fixS D (fixS D (((S1.setLeft i (some l)).setLeft i (S1.right l)).setRight l (some i)) i) l) (ls ++ i :: rs) it l ∧ l = it ∧ ChT D (((S1.setLeft i (some l)).setLeft i (S1.right l)).setRight l (some i)) i (S1.right l) (it :: (ls ++ i :: rs)) ∧ ChT D (((S1.setLeft i (some l)).setLeft i (S1.right l)).setRight l (some i)) i (S1.right i) (it :: (ls ++ i :: rs)) ∧ ChT D (fixS D (((S1.setLeft i (some l)).setLeft i (S1.right l)).setRight l (some i)) i) l ((fixS D (((S1.setLeft i (some l)).setLeft i (S1.right l)).setRight l (some i)) i).left l) (it :: (ls ++ i :: rs)) ∧ ChT D (fixS D (((S1.setLeft i (some l)).setLeft i (S1.right l)).setRight l (some i)) i) l ((fixS D (((S1.setLeft i (some l)).setLeft i (S1.right l)).setRight l (some i)) i).right l) (it :: (ls ++ i :: rs)) := by
  obtain ⟨s1, s2, s3, s4, s5⟩ := srt_parts hs
  obtain ⟨n1, n2, n3, _, n5⟩ := nodup_parts hs.nodup
  have hii : it ≠ i := fun e => hit (by simp [e])
  have hil : it ∉ ls := fun e => hit (by simp [e])
  have hir : it ∉ rs := fun e => hit (by simp [e])
  obtain ⟨⟨la, lb, rfl, ha, hb, ht⟩, hag⟩ := h1
  obtain ⟨ll, lr, hx, tl, tr, hh1, _⟩ := ht.parts
  have lm : l ∈ la ++ it :: lb := ht.head_mem
  -- the new top is the new item
  have lit : l = it := by
    rcases List.mem_append.1 lm with h | h
    · have := hh l (by simp [h]); omega
    · rcases List.mem_cons.1 h with h | h
      · exact h
      · have := hh l (by simp [h]); omega
  subst lit
  have nd : (la ++ l :: lb).Nodup := by
    have h3 := n3
    rw [List.nodup_append] at h3 ⊢
    obtain ⟨a1, a2, a3⟩ := h3
    refine ⟨a1, List.nodup_cons.2 ⟨fun h => hil (by simp [h]), a2⟩, fun a ha' b hb' e => ?_⟩
    rcases List.mem_cons.1 hb' with h | h
    · exact hil (by rw [← h, ← e]; simp [ha'])
    · exact a3 a ha' b h e
  have nd2 := nd
  rw [hx] at nd2
  obtain ⟨m1, m2, _, _, m5⟩ := nodup_parts nd2
  have sub : ∀ j, j ∈ ll ++ lr → j ∈ la ++ lb := fun j hj => by
    have h : j ∈ la ++ l :: lb := by rw [hx]; rcases List.mem_append.1 hj with h | h <;> simp [h]
    have hne : j ≠ l := fun e => by subst e; rcases List.mem_append.1 hj with h | h; exact m1 h; exact m2 h
    rcases List.mem_append.1 h with h | h
    · simp [h]
    · rcases List.mem_cons.1 h with h | h
      · exact absurd h hne
      · simp [h]
  have hli : l ≠ i := hii
  have ill : i ∉ ll := fun h => n1 (sub i (by simp [h]))
  have ilr : i ∉ lr := fun h => n1 (sub i (by simp [h]))
  have lrs : l ∉ rs := hir
  -- the store behind the two links
  obtain ⟨S2, hS2⟩ : ∃ S2, S2 = ((S1.setLeft i (some l)).setLeft i (S1.right l)).setRight l (some i) := ⟨_, rfl⟩
  have f1 : S2.left i = S1.right l := by rw [hS2]; exact upd_same _ _ _
  have f2 : S2.right i = S.right i := by rw [hS2]; exact (upd_other _ _ (Ne.symm hli)).trans (hag i n1 (Ne.symm hii)).2.1
  have f3 : S2.left l = S1.left l := by rw [hS2]; show upd (upd S1.left i (some l)) i (S1.right l) l = _; rw [upd_other _ _ hli, upd_other _ _ hli]
  have f4 : S2.right l = some i := by rw [hS2]; exact upd_same _ _ _
  have f5 : ∀ j, j ≠ i → j ≠ l → S1.same S2 j := fun j h1 h2 => by rw [hS2]; exact ((same_setLeft _ _ h1).trans (same_setLeft _ _ h1)).trans (same_setRight _ _ h2)
  rw [← hS2]
  have t1 : Tree D (fixS D S2 i) (some i) (lr ++ i :: rs) := by
    refine Tree.fixed (by rw [f1]; exact tr.carry fun j hj => f5 j (fun e => ilr (e ▸ hj)) (fun e => m2 (e ▸ hj)))
      (by rw [f2]; exact hr.carry fun j hj => (hag j (fun h => n5 j h hj) (fun e => hir (e ▸ hj))).trans (f5 j (fun e => n2 (e ▸ hj)) (fun e => hir (e ▸ hj)))) ilr n2 ?_
    intro j hj
    rcases List.mem_append.1 hj with h | h
    · have hj2 := sub j (by simp [h])
      exact hh j (List.mem_append_left _ hj2)
    · exact hh j (by simp [h])
  have l_not : l ∉ lr ++ i :: rs := by
    intro h
    rcases List.mem_append.1 h with h | h
    · exact m2 h
    · rcases List.mem_cons.1 h with h | h
      · exact hli h
      · exact hir h
  have t2 : Tree D (fixS D (fixS D S2 i) l) (some l) (ll ++ l :: (lr ++ i :: rs)) := by
    refine Tree.fixed (by show Tree D (fixS D S2 i) (S2.left l) ll; rw [f3]; exact tl.carry fun j hj => (f5 j (fun e => ill (e ▸ hj)) (fun e => m1 (e ▸ hj))).trans (fixS_same D _ (fun e => ill (e ▸ hj))))
      (by show Tree D (fixS D S2 i) (S2.right l) _; rw [f4]; exact t1) m1 l_not ?_
    intro j hj
    rcases List.mem_append.1 hj with h | h
    · exact hh1 j (by simp [h])
    · rcases List.mem_append.1 h with h | h
      · exact hh1 j (by simp [h])
      · rcases List.mem_cons.1 h with h | h
        · rw [h]; omega
        · have := hh j (by simp [h]); omega
  have sub2 : ∀ x ∈ ll ++ lr, x ∈ l :: ((la ++ lb) ++ i :: rs) := fun x hx => List.mem_cons_of_mem _ (List.mem_append_left _ (sub x hx))
  have e9 : S1.right i = S.right i := (hag i n1 (Ne.symm hii)).2.1
  refine ⟨?_, rfl, ⟨lr, tr.carry fun j hj => f5 j (fun e => ilr (e ▸ hj)) (fun e => m2 (e ▸ hj)), ilr, fun x hx => sub2 x (by simp [hx])⟩,
    ⟨rs, by rw [e9]; exact hr.carry fun j hj => (hag j (fun h => n5 j h hj) (fun e => hir (e ▸ hj))).trans (f5 j (fun e => n2 (e ▸ hj)) (fun e => hir (e ▸ hj))), n2, fun x hx => by simp [hx]⟩,
    ⟨ll, by show Tree D (fixS D S2 i) (S2.left l) ll; rw [f3]; exact tl.carry fun j hj => (f5 j (fun e => ill (e ▸ hj)) (fun e => m1 (e ▸ hj))).trans (fixS_same D _ (fun e => ill (e ▸ hj))), m1, fun x hx => sub2 x (by simp [hx])⟩,
    ⟨lr ++ i :: rs, by show Tree D (fixS D S2 i) (S2.right l) _; rw [f4]; exact t1, l_not, fun x hx => by
      rcases List.mem_append.1 hx with h | h
      · exact sub2 x (by simp [h])
      · rcases List.mem_cons.1 h with h | h <;> simp [h]⟩⟩
  refine ⟨⟨la, lb ++ i :: rs, by simp, ha, ?_, ?_⟩, fun j hj hji => ?_⟩
  · intro b hb'
    rcases List.mem_append.1 hb' with h | h
    · exact hb b h
    · rcases List.mem_cons.1 h with h | h
      · rw [h]; exact hlt
      · exact (ord_good D).lt_lt hlt (s4 b h)
  · have e : la ++ l :: (lb ++ i :: rs) = ll ++ l :: (lr ++ i :: rs) := by
      have h : (la ++ l :: lb) ++ i :: rs = (ll ++ l :: lr) ++ i :: rs := by rw [hx]
      simpa using h
    rw [e]; exact t2
  · have hji' : j ≠ i := fun e => hj (by simp [e])
    exact (((hag j (fun h => hj (by simp at h; rcases h with h | h <;> simp [h])) hji).trans (f5 j hji' hji)).trans (fixS_same D _ hji')).trans (fixS_same D _ hji)

/-- to the right, no turn -/
theorem ins_right (hs : Srt D (ls ++ i :: rs)) (hl : Tree D S (S.left i) ls) (hh : ∀ j ∈ ls ++ rs, D.prio j ≤ D.prio i) (hit : it ∉ ls ++ i :: rs) (hlt : D.ord i it < 0) (h1 : InsOK D S S1 rs it l) (hp : D.prio l ≤ D.prio i) :
    InsOK D S (fixS D (S1.setRight i (some l)) i) (ls ++ i :: rs) it i ∧ ChT D (S1.setRight i (some l)) i ((S1.setRight i (some l)).left i) (it :: (ls ++ i :: rs)) ∧ ChT D (S1.setRight i (some l)) i ((S1.setRight i (some l)).right i) (it :: (ls ++ i :: rs)) := by
  obtain ⟨s1, s2, s3, s4, s5⟩ := srt_parts hs
  obtain ⟨n1, n2, _, _, n5⟩ := nodup_parts hs.nodup
  have hii : it ≠ i := fun e => hit (by simp [e])
  have hil : it ∉ ls := fun e => hit (by simp [e])
  have hir : it ∉ rs := fun e => hit (by simp [e])
  obtain ⟨⟨la, lb, rfl, ha, hb, ht⟩, hag⟩ := h1
  have sm : ∀ j, j ∉ la ++ lb → j ≠ it → j ≠ i → S.same (S1.setRight i (some l)) j := fun j h1 h2 h3 => (hag j h1 h2).trans (same_setRight _ _ h3)
  have e1 : (S1.setRight i (some l)).right i = some l := upd_same _ _ _
  have e2 : (S1.setRight i (some l)).left i = S.left i := (hag i n2 (Ne.symm hii)).1
  have i_not : i ∉ la ++ it :: lb := by
    intro h
    rcases List.mem_append.1 h with h | h
    · exact n2 (by simp [h])
    · rcases List.mem_cons.1 h with h | h
      · exact hii h.symm
      · exact n2 (by simp [h])
  have subl : ∀ x ∈ la ++ it :: lb, x ∈ it :: (ls ++ i :: (la ++ lb)) := fun x hx => by
    rcases List.mem_append.1 hx with h | h
    · simp [h]
    · rcases List.mem_cons.1 h with h | h <;> simp [h]
  refine ⟨?_, ⟨ls, by rw [e2]; exact hl.carry fun j hj => sm j (fun h => n5 j hj h) (fun e => hil (e ▸ hj)) (fun e => n1 (e ▸ hj)), n1, fun x hx => by simp [hx]⟩,
    ⟨la ++ it :: lb, by rw [e1]; exact ht.carry fun j hj => same_setRight _ _ (fun e => i_not (e ▸ hj)), i_not, subl⟩⟩
  refine ⟨⟨ls ++ i :: la, lb, by simp, ?_, hb, ?_⟩, fun j hj hji => ?_⟩
  · intro b hb'
    rcases List.mem_append.1 hb' with h | h
    · exact (ord_good D).lt_lt (s3 b h) hlt
    · rcases List.mem_cons.1 h with h | h
      · rw [h]; exact hlt
      · exact ha b h
  · have := Tree.fixed (D := D) (S := S1.setRight i (some l)) (i := i) (ls := ls) (rs := la ++ it :: lb)
      (by rw [e2]; exact hl.carry fun j hj => sm j (fun h => n5 j hj h) (fun e => hil (e ▸ hj)) (fun e => n1 (e ▸ hj)))
      (by rw [e1]; exact ht.carry fun j hj => same_setRight _ _ (fun e => i_not (e ▸ hj))) n1 i_not ?_
    · simpa using this
    · intro j hj
      rcases List.mem_append.1 hj with h | h
      · exact hh j (by simp [h])
      · have := ht.top j h; omega
  · refine ((hag j (fun h => hj (by simp at h; rcases h with h | h <;> simp [h])) hji).trans (same_setRight _ _ (fun e => hj (by simp [e])))).trans (fixS_same D _ (fun e => hj (by simp [e])))

/-- to the right, and a turn to the left -/
theorem ins_right_rot (hs : Srt D (ls ++ i :: rs)) (hl : Tree D S (S.left i) ls) (hh : ∀ j ∈ ls ++ rs, D.prio j ≤ D.prio i) (hit : it ∉ ls ++ i :: rs) (hlt : D.ord i it < 0) (h1 : InsOK D S S1 rs it l) (hp : D.prio i < D.prio l) :
    InsOK D S (fixS D (fixS D (((S1.setRight i (some l)).setRight i (S1.left l)).setLeft l (some i)) i) l) (ls ++ i :: rs) it l ∧ l = it ∧ ChT D (((S1.setRight i (some l)).setRight i (S1.left l)).setLeft l (some i)) i (S1.left l) (it :: (ls ++ i :: rs)) ∧ ChT D (((S1.setRight i (some l)).setRight i (S1.left l)).setLeft l (some i)) i (S1.left i) (it :: (ls ++ i :: rs)) ∧ ChT D (fixS D (((S1.setRight i (some l)).setRight i (S1.left l)).setLeft l (some i)) i) l ((fixS D (((S1.setRight i (some l)).setRight i (S1.left l)).setLeft l (some i)) i).left l) (it :: (ls ++ i :: rs)) ∧ ChT D (fixS D (((S1.setRight i (some l)).setRight i (S1.left l)).setLeft l (some i)) i) l ((fixS D (((S1.setRight i (some l)).setRight i (S1.left l)).setLeft l (some i)) i).right l) (it :: (ls ++ i :: rs)) := by
  obtain ⟨s1, s2, s3, s4, s5⟩ := srt_parts hs
  obtain ⟨n1, n2, _, n3, n5⟩ := nodup_parts hs.nodup
  have hii : it ≠ i := fun e => hit (by simp [e])
  have hil : it ∉ ls := fun e => hit (by simp [e])
  have hir : it ∉ rs := fun e => hit (by simp [e])
  obtain ⟨⟨la, lb, rfl, ha, hb, ht⟩, hag⟩ := h1
  obtain ⟨ll, lr, hx, tl, tr, hh1, _⟩ := ht.parts
  have lm : l ∈ la ++ it :: lb := ht.head_mem
  have lit : l = it := by
    rcases List.mem_append.1 lm with h | h
    · have := hh l (by simp [h]); omega
    · rcases List.mem_cons.1 h with h | h
      · exact h
      · have := hh l (by simp [h]); omega
  subst lit
  have nd : (la ++ l :: lb).Nodup := by
    have h3 := n3
    rw [List.nodup_append] at h3 ⊢
    obtain ⟨a1, a2, a3⟩ := h3
    refine ⟨a1, List.nodup_cons.2 ⟨fun h => hir (by simp [h]), a2⟩, fun a ha' b hb' e => ?_⟩
    rcases List.mem_cons.1 hb' with h | h
    · exact hir (by rw [← h, ← e]; simp [ha'])
    · exact a3 a ha' b h e
  have nd2 := nd
  rw [hx] at nd2
  obtain ⟨m1, m2, _, _, m5⟩ := nodup_parts nd2
  have sub : ∀ j, j ∈ ll ++ lr → j ∈ la ++ lb := fun j hj => by
    have h : j ∈ la ++ l :: lb := by rw [hx]; rcases List.mem_append.1 hj with h | h <;> simp [h]
    have hne : j ≠ l := fun e => by subst e; rcases List.mem_append.1 hj with h | h; exact m1 h; exact m2 h
    rcases List.mem_append.1 h with h | h
    · simp [h]
    · rcases List.mem_cons.1 h with h | h
      · exact absurd h hne
      · simp [h]
  have hli : l ≠ i := hii
  have ill : i ∉ ll := fun h => n2 (sub i (by simp [h]))
  have ilr : i ∉ lr := fun h => n2 (sub i (by simp [h]))
  obtain ⟨S2, hS2⟩ : ∃ S2, S2 = ((S1.setRight i (some l)).setRight i (S1.left l)).setLeft l (some i) := ⟨_, rfl⟩
  have f1 : S2.right i = S1.left l := by rw [hS2]; exact upd_same _ _ _
  have f2 : S2.left i = S.left i := by rw [hS2]; exact (upd_other _ _ (Ne.symm hli)).trans (hag i n2 (Ne.symm hii)).1
  have f3 : S2.right l = S1.right l := by rw [hS2]; show upd (upd S1.right i (some l)) i (S1.left l) l = _; rw [upd_other _ _ hli, upd_other _ _ hli]
  have f4 : S2.left l = some i := by rw [hS2]; exact upd_same _ _ _
  have f5 : ∀ j, j ≠ i → j ≠ l → S1.same S2 j := fun j h1 h2 => by rw [hS2]; exact ((same_setRight _ _ h1).trans (same_setRight _ _ h1)).trans (same_setLeft _ _ h2)
  rw [← hS2]
  have t1 : Tree D (fixS D S2 i) (some i) (ls ++ i :: ll) := by
    refine Tree.fixed (by rw [f2]; exact hl.carry fun j hj => (hag j (fun h => n5 j hj h) (fun e => hil (e ▸ hj))).trans (f5 j (fun e => n1 (e ▸ hj)) (fun e => hil (e ▸ hj))))
      (by rw [f1]; exact tl.carry fun j hj => f5 j (fun e => ill (e ▸ hj)) (fun e => m1 (e ▸ hj))) n1 ill ?_
    intro j hj
    rcases List.mem_append.1 hj with h | h
    · exact hh j (by simp [h])
    · have hj2 := sub j (by simp [h])
      exact hh j (List.mem_append_right _ hj2)
  have l_not : l ∉ ls ++ i :: ll := by
    intro h
    rcases List.mem_append.1 h with h | h
    · exact hil h
    · rcases List.mem_cons.1 h with h | h
      · exact hli h
      · exact m1 h
  have t2 : Tree D (fixS D (fixS D S2 i) l) (some l) ((ls ++ i :: ll) ++ l :: lr) := by
    refine Tree.fixed (by show Tree D (fixS D S2 i) (S2.left l) _; rw [f4]; exact t1)
      (by show Tree D (fixS D S2 i) (S2.right l) lr; rw [f3]; exact tr.carry fun j hj => (f5 j (fun e => ilr (e ▸ hj)) (fun e => m2 (e ▸ hj))).trans (fixS_same D _ (fun e => ilr (e ▸ hj)))) l_not m2 ?_
    intro j hj
    rcases List.mem_append.1 hj with h | h
    · rcases List.mem_append.1 h with h | h
      · have := hh j (by simp [h]); omega
      · rcases List.mem_cons.1 h with h | h
        · rw [h]; omega
        · exact hh1 j (by simp [h])
    · exact hh1 j (by simp [h])
  have sub2 : ∀ x ∈ ll ++ lr, x ∈ l :: (ls ++ i :: (la ++ lb)) := fun x hx => List.mem_cons_of_mem _ (List.mem_append_right _ (List.mem_cons_of_mem _ (sub x hx)))
  have e9 : S1.left i = S.left i := (hag i n2 (Ne.symm hii)).1
  refine ⟨?_, rfl, ⟨ll, tl.carry fun j hj => f5 j (fun e => ill (e ▸ hj)) (fun e => m1 (e ▸ hj)), ill, fun x hx => sub2 x (by simp [hx])⟩,
    ⟨ls, by rw [e9]; exact hl.carry fun j hj => (hag j (fun h => n5 j hj h) (fun e => hil (e ▸ hj))).trans (f5 j (fun e => n1 (e ▸ hj)) (fun e => hil (e ▸ hj))), n1, fun x hx => by simp [hx]⟩,
    ⟨ls ++ i :: ll, by show Tree D (fixS D S2 i) (S2.left l) _; rw [f4]; exact t1, l_not, fun x hx => by
      rcases List.mem_append.1 hx with h | h
      · simp [h]
      · rcases List.mem_cons.1 h with h | h
        · simp [h]
        · exact sub2 x (by simp [h])⟩,
    ⟨lr, by show Tree D (fixS D S2 i) (S2.right l) lr; rw [f3]; exact tr.carry fun j hj => (f5 j (fun e => ilr (e ▸ hj)) (fun e => m2 (e ▸ hj))).trans (fixS_same D _ (fun e => ilr (e ▸ hj))), m2, fun x hx => sub2 x (by simp [hx])⟩⟩
  refine ⟨⟨ls ++ i :: la, lb, by simp, ?_, hb, ?_⟩, fun j hj hji => ?_⟩
  · intro b hb'
    rcases List.mem_append.1 hb' with h | h
    · exact (ord_good D).lt_lt (s3 b h) hlt
    · rcases List.mem_cons.1 h with h | h
      · rw [h]; exact hlt
      · exact ha b h
  · have e : (ls ++ i :: la) ++ l :: lb = (ls ++ i :: ll) ++ l :: lr := by
      have h : ls ++ i :: (la ++ l :: lb) = ls ++ i :: (ll ++ l :: lr) := by rw [hx]
      simpa using h
    rw [e]; exact t2
  · have hji' : j ≠ i := fun e => hj (by simp [e])
    exact (((hag j (fun h => hj (by simp at h; rcases h with h | h <;> simp [h])) hji).trans (f5 j hji' hji)).trans (fixS_same D _ hji')).trans (fixS_same D _ hji)
end

/-- what join leaves -/
structure JoinOK (D : Dat) (S S' : St) (xs ys : List Nat) (r : Option Nat) : Prop where
  tree : Tree D S' r (xs ++ ys)
  agree : ∀ j, j ∉ xs → j ∉ ys → S.same S' j

theorem join_a {D : Dat} {S S1 : St} {la ra ys : List Nat} {a b : Nat} {r : Option Nat} (hnd : ((la ++ a :: ra) ++ ys).Nodup) (hl : Tree D S (S.left a) la) (hh : ∀ j ∈ la ++ ra, D.prio j ≤ D.prio a) (hb : Tree D S (some b) ys)
    (hp : D.prio b < D.prio a) (h1 : JoinOK D S S1 ra ys r) : JoinOK D S (fixS D (S1.setRight a r) a) (la ++ a :: ra) ys (some a) ∧ ChT D (S1.setRight a r) a ((S1.setRight a r).left a) ((la ++ a :: ra) ++ ys) ∧ ChT D (S1.setRight a r) a ((S1.setRight a r).right a) ((la ++ a :: ra) ++ ys) := by
  have hnd' : (la ++ a :: (ra ++ ys)).Nodup := by simpa using hnd
  obtain ⟨n1, n2, _, n4, n5⟩ := nodup_parts hnd'
  obtain ⟨ht, hag⟩ := h1
  have ag : ∀ j, j ∉ ra ++ ys → S.same S1 j := fun j hj => hag j (fun h => hj (by simp [h])) (fun h => hj (by simp [h]))
  have e1 : (S1.setRight a r).right a = r := upd_same _ _ _
  have e2 : (S1.setRight a r).left a = S.left a := (ag a n2).1
  refine ⟨?_, ⟨la, by rw [e2]; exact hl.carry fun j hj => (ag j (n5 j hj)).trans (same_setRight _ _ (fun e => n1 (e ▸ hj))), n1, fun x hx => by simp [hx]⟩,
    ⟨ra ++ ys, by rw [e1]; exact ht.carry fun j hj => same_setRight _ _ (fun e => n2 (e ▸ hj)), n2, fun x hx => by rcases List.mem_append.1 hx with h | h <;> simp [h]⟩⟩
  refine ⟨?_, fun j hj hj' => ?_⟩
  · have := Tree.fixed (D := D) (S := S1.setRight a r) (i := a) (ls := la) (rs := ra ++ ys)
      (by rw [e2]; exact hl.carry fun j hj => (ag j (n5 j hj)).trans (same_setRight _ _ (fun e => n1 (e ▸ hj))))
      (by rw [e1]; exact ht.carry fun j hj => same_setRight _ _ (fun e => n2 (e ▸ hj))) n1 n2 ?_
    · simpa using this
    · intro j hj
      rcases List.mem_append.1 hj with h | h
      · exact hh j (by simp [h])
      · rcases List.mem_append.1 h with h | h
        · exact hh j (by simp [h])
        · have := hb.top j h; omega
  · have hja : j ≠ a := fun e => hj (by simp [e])
    exact ((hag j (fun h => hj (by simp [h])) hj').trans (same_setRight _ _ hja)).trans (fixS_same D _ hja)

theorem join_b {D : Dat} {S S1 : St} {xs lb rb : List Nat} {a b : Nat} {r : Option Nat} (hnd : (xs ++ (lb ++ b :: rb)).Nodup) (hr : Tree D S (S.right b) rb) (hh : ∀ j ∈ lb ++ rb, D.prio j ≤ D.prio b) (ha : Tree D S (some a) xs)
    (hp : D.prio a ≤ D.prio b) (h1 : JoinOK D S S1 xs lb r) : JoinOK D S (fixS D (S1.setLeft b r) b) xs (lb ++ b :: rb) (some b) ∧ ChT D (S1.setLeft b r) b ((S1.setLeft b r).left b) (xs ++ (lb ++ b :: rb)) ∧ ChT D (S1.setLeft b r) b ((S1.setLeft b r).right b) (xs ++ (lb ++ b :: rb)) := by
  have hnd' : ((xs ++ lb) ++ b :: rb).Nodup := by simpa using hnd
  obtain ⟨n1, n2, _, n4, n5⟩ := nodup_parts hnd'
  obtain ⟨ht, hag⟩ := h1
  have ag : ∀ j, j ∉ xs ++ lb → S.same S1 j := fun j hj => hag j (fun h => hj (by simp [h])) (fun h => hj (by simp [h]))
  have e1 : (S1.setLeft b r).left b = r := upd_same _ _ _
  have e2 : (S1.setLeft b r).right b = S.right b := (ag b n1).2.1
  refine ⟨?_, ⟨xs ++ lb, by rw [e1]; exact ht.carry fun j hj => same_setLeft _ _ (fun e => n1 (e ▸ hj)), n1, fun x hx => by rcases List.mem_append.1 hx with h | h <;> simp [h]⟩,
    ⟨rb, by rw [e2]; exact hr.carry fun j hj => (ag j (fun h => n5 j h hj)).trans (same_setLeft _ _ (fun e => n2 (e ▸ hj))), n2, fun x hx => by simp [hx]⟩⟩
  refine ⟨?_, fun j hj hj' => ?_⟩
  · have := Tree.fixed (D := D) (S := S1.setLeft b r) (i := b) (ls := xs ++ lb) (rs := rb)
      (by rw [e1]; exact ht.carry fun j hj => same_setLeft _ _ (fun e => n1 (e ▸ hj)))
      (by rw [e2]; exact hr.carry fun j hj => (ag j (fun h => n5 j h hj)).trans (same_setLeft _ _ (fun e => n2 (e ▸ hj)))) n1 n2 ?_
    · simpa using this
    · intro j hj
      rcases List.mem_append.1 hj with h | h
      · rcases List.mem_append.1 h with h | h
        · have := ha.top j h; omega
        · exact hh j (by simp [h])
      · exact hh j (by simp [h])
  · have hjb : j ≠ b := fun e => hj' (by simp [e])
    exact ((hag j hj (fun h => hj' (by simp [h]))).trans (same_setLeft _ _ hjb)).trans (fixS_same D _ hjb)

/-- what remove leaves -/
structure RemOK (D : Dat) (S S' : St) (xs : List Nat) (k : Nat) (r : Option Nat) : Prop where
  split : ∃ la lb, xs = la ++ k :: lb ∧ Tree D S' r (la ++ lb)
  agree : ∀ j, j ∉ xs → S.same S' j

theorem rem_left {D : Dat} {S S1 : St} {ls rs : List Nat} {i k : Nat} {r : Option Nat} (hnd : (ls ++ i :: rs).Nodup) (hr : Tree D S (S.right i) rs) (hh : ∀ j ∈ ls ++ rs, D.prio j ≤ D.prio i) (h1 : RemOK D S S1 ls k r) :
    RemOK D S (fixS D (S1.setLeft i r) i) (ls ++ i :: rs) k (some i) ∧ ChT D (S1.setLeft i r) i ((S1.setLeft i r).left i) (ls ++ i :: rs) ∧ ChT D (S1.setLeft i r) i ((S1.setLeft i r).right i) (ls ++ i :: rs) := by
  obtain ⟨n1, n2, _, _, n5⟩ := nodup_parts hnd
  obtain ⟨⟨la, lb, rfl, ht⟩, hag⟩ := h1
  have i_not : i ∉ la ++ lb := fun h => n1 (by rcases List.mem_append.1 h with h | h <;> simp [h])
  have e1 : (S1.setLeft i r).left i = r := upd_same _ _ _
  have e2 : (S1.setLeft i r).right i = S.right i := (hag i n1).2.1
  refine ⟨?_, ⟨la ++ lb, by rw [e1]; exact ht.carry fun j hj => same_setLeft _ _ (fun e => i_not (e ▸ hj)), i_not, fun x hx => by rcases List.mem_append.1 hx with h | h <;> simp [h]⟩,
    ⟨rs, by rw [e2]; exact hr.carry fun j hj => (hag j (fun h => n5 j h hj)).trans (same_setLeft _ _ (fun e => n2 (e ▸ hj))), n2, fun x hx => by simp [hx]⟩⟩
  refine ⟨⟨la, lb ++ i :: rs, by simp, ?_⟩, fun j hj => ?_⟩
  · have := Tree.fixed (D := D) (S := S1.setLeft i r) (i := i) (ls := la ++ lb) (rs := rs) (by rw [e1]; exact ht.carry fun j hj => same_setLeft _ _ (fun e => i_not (e ▸ hj)))
      (by rw [e2]; exact hr.carry fun j hj => (hag j (fun h => n5 j h hj)).trans (same_setLeft _ _ (fun e => n2 (e ▸ hj)))) i_not n2 ?_
    · simpa using this
    · intro j hj
      refine hh j ?_
      rcases List.mem_append.1 hj with h | h
      · rcases List.mem_append.1 h with h | h <;> simp [h]
      · simp [h]
  · have hji : j ≠ i := fun e => hj (by simp [e])
    exact ((hag j (fun h => hj (List.mem_append_left _ h))).trans (same_setLeft _ _ hji)).trans (fixS_same D _ hji)

theorem rem_right {D : Dat} {S S1 : St} {ls rs : List Nat} {i k : Nat} {r : Option Nat} (hnd : (ls ++ i :: rs).Nodup) (hl : Tree D S (S.left i) ls) (hh : ∀ j ∈ ls ++ rs, D.prio j ≤ D.prio i) (h1 : RemOK D S S1 rs k r) :
    RemOK D S (fixS D (S1.setRight i r) i) (ls ++ i :: rs) k (some i) ∧ ChT D (S1.setRight i r) i ((S1.setRight i r).left i) (ls ++ i :: rs) ∧ ChT D (S1.setRight i r) i ((S1.setRight i r).right i) (ls ++ i :: rs) := by
  obtain ⟨n1, n2, _, _, n5⟩ := nodup_parts hnd
  obtain ⟨⟨la, lb, rfl, ht⟩, hag⟩ := h1
  have i_not : i ∉ la ++ lb := fun h => n2 (by rcases List.mem_append.1 h with h | h <;> simp [h])
  have e1 : (S1.setRight i r).right i = r := upd_same _ _ _
  have e2 : (S1.setRight i r).left i = S.left i := (hag i n2).1
  refine ⟨?_, ⟨ls, by rw [e2]; exact hl.carry fun j hj => (hag j (fun h => n5 j hj h)).trans (same_setRight _ _ (fun e => n1 (e ▸ hj))), n1, fun x hx => by simp [hx]⟩,
    ⟨la ++ lb, by rw [e1]; exact ht.carry fun j hj => same_setRight _ _ (fun e => i_not (e ▸ hj)), i_not, fun x hx => by rcases List.mem_append.1 hx with h | h <;> simp [h]⟩⟩
  refine ⟨⟨ls ++ i :: la, lb, by simp, ?_⟩, fun j hj => ?_⟩
  · have := Tree.fixed (D := D) (S := S1.setRight i r) (i := i) (ls := ls) (rs := la ++ lb)
      (by rw [e2]; exact hl.carry fun j hj => (hag j (fun h => n5 j hj h)).trans (same_setRight _ _ (fun e => n1 (e ▸ hj))))
      (by rw [e1]; exact ht.carry fun j hj => same_setRight _ _ (fun e => i_not (e ▸ hj))) n1 i_not ?_
    · simpa using this
    · intro j hj
      refine hh j ?_
      rcases List.mem_append.1 hj with h | h
      · simp [h]
      · rcases List.mem_append.1 h with h | h <;> simp [h]
  · have hji : j ≠ i := fun e => hj (by simp [e])
    exact ((hag j (fun h => hj (List.mem_append_right _ (List.mem_cons_of_mem _ h)))).trans (same_setRight _ _ hji)).trans (fixS_same D _ hji)

theorem rem_here {D : Dat} {S S1 : St} {ls rs : List Nat} {i : Nat} {r : Option Nat} (h1 : JoinOK D S S1 ls rs r) : RemOK D S S1 (ls ++ i :: rs) i r :=
  ⟨⟨ls, rs, rfl, h1.tree⟩, fun j hj => h1.agree j (fun h => hj (by simp [h])) (fun h => hj (by simp [h]))⟩

/-- where the item that is looked for lies -/
theorem where_lt {D : Dat} {ls rs : List Nat} {i k : Nat} (hs : Srt D (ls ++ i :: rs)) (hk : k ∈ ls ++ i :: rs) (h : D.ord k i < 0) : k ∈ ls := by
  obtain ⟨_, _, _, s4, _⟩ := srt_parts hs
  have g := ord_good D
  rcases List.mem_append.1 hk with hk | hk
  · exact hk
  · rcases List.mem_cons.1 hk with hk | hk
    · subst hk; have := g.self k; omega
    · have h1 := s4 k hk; have h2 := g.anti k i; omega
theorem where_gt {D : Dat} {ls rs : List Nat} {i k : Nat} (hs : Srt D (ls ++ i :: rs)) (hk : k ∈ ls ++ i :: rs) (h : 0 < D.ord k i) : k ∈ rs := by
  obtain ⟨_, _, s3, _, _⟩ := srt_parts hs
  have g := ord_good D
  rcases List.mem_append.1 hk with hk | hk
  · have := s3 k hk; omega
  · rcases List.mem_cons.1 hk with hk | hk
    · subst hk; have := g.self k; omega
    · exact hk
theorem where_eq {D : Dat} {ls rs : List Nat} {i k : Nat} (hs : Srt D (ls ++ i :: rs)) (hk : k ∈ ls ++ i :: rs) (h : D.ord k i = 0) : k = i := by
  obtain ⟨_, _, s3, s4, _⟩ := srt_parts hs
  have g := ord_good D
  rcases List.mem_append.1 hk with hk | hk
  · have := s3 k hk; omega
  · rcases List.mem_cons.1 hk with hk | hk
    · exact hk
    · have h1 := s4 k hk; have h2 := g.anti k i; omega

theorem srt_ins {D : Dat} {la lb : List Nat} {it : Nat} (hs : Srt D (la ++ lb)) (ha : ∀ a ∈ la, D.ord a it < 0) (hb : ∀ b ∈ lb, D.ord it b < 0) : Srt D (la ++ it :: lb) := by
  unfold Srt at hs ⊢
  rw [List.pairwise_append] at hs ⊢
  rw [List.pairwise_cons]
  obtain ⟨h1, h2, h3⟩ := hs
  refine ⟨h1, ⟨hb, h2⟩, fun a ha' b hb' => ?_⟩
  rcases List.mem_cons.1 hb' with h | h
  · rw [h]; exact ha a ha'
  · exact h3 a ha' b h
theorem srt_rem {D : Dat} {la lb : List Nat} {k : Nat} (hs : Srt D (la ++ k :: lb)) : Srt D (la ++ lb) := by
  obtain ⟨s1, s2, _, _, s5⟩ := srt_parts hs
  unfold Srt
  rw [List.pairwise_append]
  exact ⟨s1, s2, s5⟩

end Go.Proofs.Ybulkdfqa
