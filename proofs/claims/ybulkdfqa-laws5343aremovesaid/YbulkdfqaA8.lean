/-
  WALK OF join.
-/
import Derived.Test.YbulkdfqaA7
namespace Go.Proofs.Ybulkdfqa
open Go.RowKit
set_option linter.unusedVariables false
set_option linter.unusedSimpArgs false

/-- WHAT join DOES -/
def JoinPost (g n : Nat) (D : Dat) (S : St) (xs ys : List Nat) (w : World) (e : Ending) (w' : World) : Prop :=
  ∃ S' r, e = .returned (.pointer (adrO g r)) ∧ Holds w' g n D S' ∧ JoinOK D S S' xs ys r ∧ Oth g g w w'

set_option maxHeartbeats 1000000 in
theorem join_nil_a (g n : Nat) (D : Dat) (S : St) (q : Option Nat) (ys : List Nat) (w : World) (h : Holds w g n D S) (t : Tree D S q ys) :
    Calls Yba.prog 16 #[.pointer none, .pointer (adrO g q)] w (JoinPost g n D S [] ys w) := by
  have HF : Hid (JoinPost g n D S [] ys w (.returned (.pointer (adrO g q))) w) := ⟨S, q, rfl, h, ⟨by simpa using t, fun j _ _ => same_refl S j⟩, Oth.refl _ _ _⟩
  obtain ⟨u, hu⟩ : ∃ u, u = adrO g q := ⟨_, rfl⟩
  rw [← hu] at HF ⊢
  clear h t hu
  go_enter Yba.func16, Yba.ntmps16
  go_wp2_with fail
  go_ret
  exact HF.out

set_option maxHeartbeats 1000000 in
theorem join_nil_b (g n : Nat) (D : Dat) (S : St) (a : Nat) (xs : List Nat) (w : World) (h : Holds w g n D S) (t : Tree D S (some a) xs) :
    Calls Yba.prog 16 #[.pointer (some ⟨g, a * 12, none⟩), .pointer none] w (JoinPost g n D S xs [] w) := by
  have HF : Hid (JoinPost g n D S xs [] w (.returned (.pointer (some ⟨g, a * 12, none⟩))) w) := ⟨S, some a, rfl, h, ⟨by simpa using t, fun j _ _ => same_refl S j⟩, Oth.refl _ _ _⟩
  clear h t
  go_enter Yba.func16, Yba.ntmps16
  go_wp2_with fail
  go_ret
  exact HF.out

set_option maxHeartbeats 4000000 in
set_option maxRecDepth 100000 in
theorem join_any (g n : Nat) (D : Dat) : ∀ (d d1 d2 : Nat), d1 + d2 ≤ d → ∀ (S : St) (p q : Option Nat) (xs ys : List Nat) (w : World), Holds w g n D S → Tr D S d1 p xs → Tr D S d2 q ys → (xs ++ ys).Nodup → (∀ x ∈ xs ++ ys, x < n) →
    Calls Yba.prog 16 #[.pointer (adrO g p), .pointer (adrO g q)] w (JoinPost g n D S xs ys w) := by
  intro d
  induction d with
  | zero =>
    intro d1 d2 hd S p q xs ys w h t1 t2 _ _
    have e1 : d1 = 0 := by omega
    subst e1
    obtain ⟨rfl, rfl⟩ := t1
    exact join_nil_a g n D S q ys w h ⟨d2, t2⟩
  | succ d ih =>
    intro d1 d2 hd S p q xs ys w h t1 t2 hnd hX
    cases p with
    | none =>
      have e := t1.nilp
      subst e
      exact join_nil_a g n D S q ys w h ⟨d2, t2⟩
    | some a =>
      cases q with
      | none =>
        have e := t2.nilp
        subst e
        exact join_nil_b g n D S a xs w h ⟨d1, t1⟩
      | some b =>
        cases d1 with
        | zero => cases t1.1
        | succ d1 =>
        cases d2 with
        | zero => cases t2.1
        | succ d2 =>
        have TA : Hid (Tree D S (some a) xs) := ⟨_, t1⟩
        have TB : Hid (Tree D S (some b) ys) := ⟨_, t2⟩
        have T1 := hid t1
        have T2 := hid t2
        rcases t1 with ⟨h0, _⟩ | ⟨a', la, ra, hp, hxs, tla, tra, hha, _⟩
        · cases h0
        cases hp
        rcases t2 with ⟨h0, _⟩ | ⟨b', lb, rb, hp, hys, tlb, trb, hhb, _⟩
        · cases h0
        cases hp
        have han : a < n := hX a (by rw [hxs]; simp)
        have hbn : b < n := hX b (by rw [hys]; simp)
        have gw : g < w.heap.size := h.lt
        have old : ∀ (x : Blw w.heap.size w) (o : Nat) (u : Value), w.cell? ⟨g, o, none⟩ = some u → x.val.cell? ⟨g, o, none⟩ = some u := fun x o u hu => (x.prop.cell (p := ⟨g, o, none⟩) gw).trans hu
        have nb : Nonempty (Blw w.heap.size w) := ⟨⟨_, Below.refl _ _⟩⟩
        have K1 := fun x => old x _ _ (h.cell10 han)
        have K2 := fun x => old x _ _ (h.cell10 hbn)
        have HH := hid h
        have HIH := hid ih
        have HTA := hid (And.intro tla (And.intro tra (And.intro hha hxs)))
        have HTB := hid (And.intro tlb (And.intro trb (And.intro hhb hys)))
        have HN := hid (And.intro hnd hX)
        clear old h ih tla tra hha hxs tlb trb hhb hys hnd hX
        simp only [adrO]
        by_cases hp : D.prio b < D.prio a
        · go_enter Yba.func16, Yba.ntmps16
          go_wp2_with fail
          refine wp_region_blw w.heap.size w (by kernel_rfl) (by kernel_rfl) (Below.refl _ _) ?_
          repeat (go_big_quiet_step (fail))
          refine wpQuiet_nil ?_
          rintro wb ⟨⟨_, hbb⟩, rfl⟩
          clear K1 K2 nb
          have H1 : Holds wb g n D S := HH.out.of_block (hbb.block _ gw)
          have c3 := H1.cell4 han
          obtain ⟨u, hu⟩ : ∃ u, u = adrO g (S.right a) := ⟨_, rfl⟩
          simp only [ptrV, ← hu] at c3
          have CI := HIH.out d1 (d2 + 1) (by omega) S (S.right a) (some b) ra ys wb H1 HTA.out.2.1 T2.out
            (by have := HN.out.1; rw [HTA.out.2.2.2] at this; have e : la ++ a :: ra ++ ys = la ++ a :: (ra ++ ys) := by simp
                rw [e] at this; exact (nodup_parts this).2.2.2.1)
            (fun x hx => HN.out.2 x (by rw [HTA.out.2.2.2]; rcases List.mem_append.1 hx with h | h <;> simp [h]))
          rw [← hu] at CI
          simp only [adrO] at CI
          have HCI := hid CI
          have O1 : Hid (Oth g g w wb) := Oth.of_below hbb
          clear CI H1 hbb hu
          go_wp2_with fail
          refine HCI.out.mono ?_
          rintro e w1 ⟨S1, r, rfl, hH1, hJ1, hO1⟩
          have RL : Hid (JoinOK D S (fixS D (S1.setRight a r) a) xs ys (some a) ∧ ChT D (S1.setRight a r) a ((S1.setRight a r).left a) (xs ++ ys) ∧ ChT D (S1.setRight a r) a ((S1.setRight a r).right a) (xs ++ ys)) := by
            have hx := HTA.out.2.2.2
            have hnd := HN.out.1
            rw [hx] at hnd ⊢
            exact join_a hnd ⟨d1, HTA.out.1⟩ HTA.out.2.2.1 TB.out hp hJ1
          have CF := fix_any g n D _ a _ (hH1.setRight han r) han (chOK RL.out.2.1 HN.out.2) (chOK RL.out.2.2 HN.out.2)
          have O2 := (O1.out.trans hO1).setG (a * 12 + 4) (ptrV g r)
          have c3' := hH1.cell4 han
          have fz := hH1.frz (a * 12 + 4)
          obtain ⟨u', hu'⟩ : ∃ u, u = adrO g (S1.right a) := ⟨_, rfl⟩
          obtain ⟨ur, hur⟩ : ∃ u, u = adrO g r := ⟨_, rfl⟩
          simp only [ptrV, ← hu', ← hur] at c3' CF O2 ⊢
          have HCF := hid CF
          have HO2 := hid O2
          clear CF O2 hH1 hJ1 hO1 hu' hur c3
          go_wp2_with fail
          refine HCF.out.mono ?_
          rintro e w4 ⟨rfl, hH4, hO4⟩
          have H4 := hid (And.intro hH4 (HO2.out.trans hO4))
          clear hH4 hO4
          go_wp2_with fail
          go_ret
          exact ⟨_, some a, rfl, H4.out.1, RL.out.1, H4.out.2⟩
        · have hp' : D.prio a ≤ D.prio b := by omega
          go_enter Yba.func16, Yba.ntmps16
          go_wp2_with fail
          refine wp_region_blw w.heap.size w (by kernel_rfl) (by kernel_rfl) (Below.refl _ _) ?_
          repeat (go_big_quiet_step (fail))
          refine wpQuiet_nil ?_
          rintro wb ⟨⟨_, hbb⟩, rfl⟩
          clear K1 K2 nb
          have H1 : Holds wb g n D S := HH.out.of_block (hbb.block _ gw)
          have c3 := H1.cell3 hbn
          obtain ⟨u, hu⟩ : ∃ u, u = adrO g (S.left b) := ⟨_, rfl⟩
          simp only [ptrV, ← hu] at c3
          have CI := HIH.out (d1 + 1) d2 (by omega) S (some a) (S.left b) xs lb wb H1 T1.out HTB.out.1
            (by have := HN.out.1; rw [HTB.out.2.2.2] at this; have e : xs ++ (lb ++ b :: rb) = (xs ++ lb) ++ b :: rb := by simp
                rw [e] at this; exact (nodup_parts this).2.2.1)
            (fun x hx => HN.out.2 x (by rw [HTB.out.2.2.2]; rcases List.mem_append.1 hx with h | h <;> simp [h]))
          rw [← hu] at CI
          simp only [adrO] at CI
          have HCI := hid CI
          have O1 : Hid (Oth g g w wb) := Oth.of_below hbb
          clear CI H1 hbb hu
          go_wp2_with fail
          refine HCI.out.mono ?_
          rintro e w1 ⟨S1, r, rfl, hH1, hJ1, hO1⟩
          have RL : Hid (JoinOK D S (fixS D (S1.setLeft b r) b) xs ys (some b) ∧ ChT D (S1.setLeft b r) b ((S1.setLeft b r).left b) (xs ++ ys) ∧ ChT D (S1.setLeft b r) b ((S1.setLeft b r).right b) (xs ++ ys)) := by
            have hx := HTB.out.2.2.2
            have hnd := HN.out.1
            rw [hx] at hnd ⊢
            exact join_b hnd ⟨d2, HTB.out.2.1⟩ HTB.out.2.2.1 TA.out hp' hJ1
          have CF := fix_any g n D _ b _ (hH1.setLeft hbn r) hbn (chOK RL.out.2.1 HN.out.2) (chOK RL.out.2.2 HN.out.2)
          have O2 := (O1.out.trans hO1).setG (b * 12 + 3) (ptrV g r)
          have c3' := hH1.cell3 hbn
          have fz := hH1.frz (b * 12 + 3)
          obtain ⟨u', hu'⟩ : ∃ u, u = adrO g (S1.left b) := ⟨_, rfl⟩
          obtain ⟨ur, hur⟩ : ∃ u, u = adrO g r := ⟨_, rfl⟩
          simp only [ptrV, ← hu', ← hur] at c3' CF O2 ⊢
          have HCF := hid CF
          have HO2 := hid O2
          clear CF O2 hH1 hJ1 hO1 hu' hur c3
          go_wp2_with fail
          refine HCF.out.mono ?_
          rintro e w4 ⟨rfl, hH4, hO4⟩
          have H4 := hid (And.intro hH4 (HO2.out.trans hO4))
          clear hH4 hO4
          go_wp2_with fail
          go_ret
          exact ⟨_, some b, rfl, H4.out.1, RL.out.1, H4.out.2⟩
end Go.Proofs.Ybulkdfqa
