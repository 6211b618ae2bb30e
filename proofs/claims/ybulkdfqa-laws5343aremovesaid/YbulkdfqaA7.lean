/-
  WALK OF insert.
-/
import Derived.Test.YbulkdfqaA6
namespace Go.Proofs.Ybulkdfqa
open Go.RowKit
set_option linter.unusedVariables false
set_option linter.unusedSimpArgs false

theorem chOK {D : Dat} {S : St} {n i : Nat} {p : Option Nat} {X : List Nat} (h : ChT D S i p X) (hX : ∀ x ∈ X, x < n) : ChOK n S i p := by
  intro c hc
  obtain ⟨xs, ht, hi, hsub⟩ := h
  subst hc
  have hm := ht.head_mem
  obtain ⟨ls, rs, hx, _, _, _, m, h1, h2, _⟩ := ht.parts
  exact ⟨hX c (hsub c hm), fun e => hi (e ▸ hm), m, h1, hX m (hsub m h2.1)⟩

/-- WHAT insert DOES -/
def InsPost (g n : Nat) (D : Dat) (it : Nat) (S : St) (xs : List Nat) (w : World) (e : Ending) (w' : World) : Prop :=
  ∃ S' r, e = .returned (.pointer (some ⟨g, r * 12, none⟩)) ∧ r < n ∧ Holds w' g n D S' ∧ InsOK D S S' xs it r ∧ Oth g g w w'

set_option maxHeartbeats 2000000 in
set_option maxRecDepth 100000 in
theorem insert_nil (g n : Nat) (D : Dat) (it : Nat) (S : St) (w : World) (h : Holds w g n D S) (hit : it < n) (hl : S.left it = none) (hr : S.right it = none) :
    Calls Yba.prog 14 #[.pointer none, .pointer (some ⟨g, it * 12, none⟩)] w (InsPost g n D it S [] w) := by
  have F := hid (fix_any g n D S it w h hit (by rw [hl]; intro c hc; cases hc) (by rw [hr]; intro c hc; cases hc))
  have HI := hid (ins_nil (D := D) hl hr)
  clear h hl hr
  go_enter Yba.func14, Yba.ntmps14
  go_wp2_with fail
  refine F.out.mono ?_
  rintro e w' ⟨rfl, hh, ho⟩
  have HH := hid (And.intro hh ho)
  clear hh ho
  go_wp2_with fail
  go_ret
  exact ⟨_, it, rfl, hit, HH.out.1, HI.out, HH.out.2⟩

set_option maxHeartbeats 4000000 in
set_option maxRecDepth 100000 in
theorem insert_any (g n : Nat) (D : Dat) (it : Nat) (hit : it < n) : ∀ (d : Nat) (S : St) (p : Option Nat) (xs : List Nat) (w : World), Holds w g n D S → Tr D S d p xs → (∀ x ∈ xs, x < n) → it ∉ xs → Srt D xs → S.left it = none → S.right it = none →
    (∀ x ∈ xs, D.ord it x ≠ 0) → Calls Yba.prog 14 #[.pointer (adrO g p), .pointer (some ⟨g, it * 12, none⟩)] w (InsPost g n D it S xs w) := by
  intro d
  induction d with
  | zero =>
    intro S p xs w h ht _ _ _ hl hr _
    obtain ⟨rfl, rfl⟩ := ht
    exact insert_nil g n D it S w h hit hl hr
  | succ d ih =>
    intro S p xs w h ht hX hni hs hl hr hne
    rcases ht with ⟨rfl, rfl⟩ | ⟨i, ls, rs, rfl, hxs, tl, tr, hh, hnode⟩
    · exact insert_nil g n D it S w h hit hl hr
    have hin : i < n := hX i (by rw [hxs]; simp)
    have hii : it ≠ i := fun e => hni (by rw [hxs, e]; simp)
    have hbig : ∀ x ∈ it :: xs, x < n := fun x hx => by rcases List.mem_cons.1 hx with h | h; rw [h]; exact hit; exact hX x h
    -- what the region reads
    have gw : g < w.heap.size := h.lt
    have old : ∀ (x : Blw w.heap.size w) (o : Nat) (u : Value), w.cell? ⟨g, o, none⟩ = some u → x.val.cell? ⟨g, o, none⟩ = some u := fun x o u hu => (x.prop.cell (p := ⟨g, o, none⟩) gw).trans hu
    have nb : Nonempty (Blw w.heap.size w) := ⟨⟨_, Below.refl _ _⟩⟩
    have K0 := fun x => old x _ _ (h.cell0 hit)
    have K1 := fun x => old x _ _ (h.cell1 hit)
    have K2 := fun x => old x _ _ (h.cell2 hit)
    have K7 := fun x => old x _ _ (h.cell7 hit)
    have CO : Hid (∀ x : Blw w.heap.size w, Calls Yba.prog 15 #[.pointer (some ⟨g, i * 12, none⟩), kyV (D.key it), .int .u64 (D.seq it)] x.val fun e w' => e = .returned (.int .i64 (D.ord it i)) ∧ Below w.heap.size x.val w') := fun x =>
      (order_any g (i * 12) (D.key it) (D.key i) (D.seq it) (D.seq i) x.val (old x _ _ (h.cell0 hin)) (old x _ _ (h.cell1 hin)) (old x _ _ (h.cell2 hin)) (old x _ _ (h.cell7 hin))).mono fun e w' ⟨he, hb⟩ => ⟨he, hb.mono x.prop.size⟩
    have HH := hid h
    have HIH := hid ih
    have HT := hid (And.intro tl tr)
    have HD := hid (And.intro hbig (And.intro hni (And.intro hs (And.intro hl (And.intro hr (And.intro hne (And.intro hh hxs)))))))
    clear old h ih tl tr hX hni hs hl hr hne hh hnode hbig hxs
    simp only [adrO]
    rcases Int.lt_or_le (D.ord it i) 0 with hlt | hge
    · go_enter Yba.func14, Yba.ntmps14
      go_wp2_with fail
      refine wp_region_blw w.heap.size w (by kernel_rfl) (by kernel_rfl) (Below.refl _ _) ?_
      repeat (go_big_quiet_step ((go_at_call 15; refine Calls.blw (v := .int .i64 (D.ord it i)) _ (CO.out _))))
      refine wpQuiet_nil ?_
      rintro wa ⟨⟨_, hba⟩, rfl⟩
      clear K0 K1 K2 K7 nb
      have H1 : Holds wa g n D S := HH.out.of_block (hba.block _ gw)
      have c3 := H1.cell3 hin
      obtain ⟨u, hu⟩ : ∃ u, u = adrO g (S.left i) := ⟨_, rfl⟩
      simp only [ptrV, ← hu] at c3
      obtain ⟨hbig, hni, hs, hl, hr, hne, hh, hxs⟩ := HD.out
      have hs' := hs
      rw [hxs] at hs'
      obtain ⟨s1, s2, _, _, _⟩ := srt_parts hs'
      have CI := HIH.out S (S.left i) ls wa H1 HT.out.1 (fun x hx => hbig x (by rw [hxs]; simp [hx])) (fun hx => hni (by rw [hxs]; simp [hx])) s1 hl hr (fun x hx => hne x (by rw [hxs]; simp [hx]))
      rw [← hu] at CI
      have HCI := hid CI
      have O1 : Hid (Oth g g w wa) := Oth.of_below hba
      clear CI H1 hba hu hbig hni hs hl hr hne hh hxs hs' s1 s2
      go_wp2_with fail
      refine HCI.out.mono ?_
      rintro e w1 ⟨S1, l, rfl, hln, hH1, hI1, hO1⟩
      have H2 := hid (hH1.setLeft hin (some l))
      have O2 : Hid (Oth g g w (w1.setCell ⟨g, i * 12 + 3, none⟩ (.pointer (some ⟨g, l * 12, none⟩)))) := (O1.out.trans hO1).setG _ _
      have c3' := hH1.cell3 hin
      have fz := hH1.frz (i * 12 + 3)
      obtain ⟨u', hu'⟩ : ∃ u, u = adrO g (S1.left i) := ⟨_, rfl⟩
      simp only [ptrV, ← hu'] at c3'
      have HI1 := hid hI1
      clear hH1 hI1 hO1 hu' c3
      have gw2 : g < w1.heap.size := by have := H2.out.lt; rw [World.size_setCell] at this; exact this
      have old2 : ∀ (x : Blw w1.heap.size (w1.setCell ⟨g, i * 12 + 3, none⟩ (.pointer (some ⟨g, l * 12, none⟩)))) (o : Nat) (v : Value), (w1.setCell ⟨g, i * 12 + 3, none⟩ (.pointer (some ⟨g, l * 12, none⟩))).cell? ⟨g, o, none⟩ = some v → x.val.cell? ⟨g, o, none⟩ = some v := fun x o v hv =>
        (x.prop.cell (p := ⟨g, o, none⟩) gw2).trans hv
      have nb : Nonempty (Blw w1.heap.size (w1.setCell ⟨g, i * 12 + 3, none⟩ (.pointer (some ⟨g, l * 12, none⟩)))) := ⟨⟨_, Below.refl _ _⟩⟩
      have L3 := fun x => old2 x _ _ (H2.out.cell3 hin)
      have L10 := fun x => old2 x _ _ (H2.out.cell10 hin)
      have M10 := fun x => old2 x _ _ (H2.out.cell10 hln)
      have e3 : (S1.setLeft i (some l)).left i = some l := upd_same _ _ _
      simp only [e3, ptrV, adrO] at L3
      clear old2 e3
      by_cases hp : D.prio i < D.prio l
      · have RL : Hid (InsOK D S (fixS D (fixS D (((S1.setLeft i (some l)).setLeft i (S1.right l)).setRight l (some i)) i) l) xs it l ∧ l = it ∧ ChT D (((S1.setLeft i (some l)).setLeft i (S1.right l)).setRight l (some i)) i (S1.right l) (it :: xs) ∧ ChT D (((S1.setLeft i (some l)).setLeft i (S1.right l)).setRight l (some i)) i (S1.right i) (it :: xs) ∧ ChT D (fixS D (((S1.setLeft i (some l)).setLeft i (S1.right l)).setRight l (some i)) i) l ((fixS D (((S1.setLeft i (some l)).setLeft i (S1.right l)).setRight l (some i)) i).left l) (it :: xs) ∧ ChT D (fixS D (((S1.setLeft i (some l)).setLeft i (S1.right l)).setRight l (some i)) i) l ((fixS D (((S1.setLeft i (some l)).setLeft i (S1.right l)).setRight l (some i)) i).right l) (it :: xs)) := by
          obtain ⟨hbig, hni, hs, hl, hr, hne, hh, hxs⟩ := HD.out
          subst hxs
          exact ins_left_rot hs ⟨d, HT.out.2⟩ hh hni hlt HI1.out hp
        go_wp2_with fail
        refine wp_region_blw _ _ (by kernel_rfl) (by kernel_rfl) (Below.refl w1.heap.size _) ?_
        repeat (go_big_quiet_step (fail))
        refine wpQuiet_nil ?_
        rintro wb ⟨⟨_, hbb⟩, rfl⟩
        have H3 := H2.out.of_block (hbb.block _ gw2)
        have O3 := hid (O2.out.trans (Oth.of_below (by rw [World.size_setCell]; exact hbb)))
        clear L3 L10 M10 nb c3' hbb
        have hli : l ≠ i := by rw [RL.out.2.1]; exact hii
        have hbg := HD.out.1
        have CR := rotR_any g n D (S1.setLeft i (some l)) i l wb H3 hin hln hli (upd_same _ _ _) (chOK RL.out.2.2.1 hbg) (chOK RL.out.2.2.2.1 hbg)
        have HCR := hid CR
        clear CR H3 hbg
        go_wp2_with fail
        refine HCR.out.mono ?_
        rintro e w3 ⟨rfl, hH3, hO3⟩
        have CF := hid (fix_any g n D _ l w3 hH3 hln (chOK RL.out.2.2.2.2.1 HD.out.1) (chOK RL.out.2.2.2.2.2 HD.out.1))
        have O4 := hid (O3.out.trans hO3)
        clear hH3 hO3
        go_wp2_with fail
        refine CF.out.mono ?_
        rintro e w4 ⟨rfl, hH4, hO4⟩
        have H4 := hid (And.intro hH4 (O4.out.trans hO4))
        clear hH4 hO4
        go_wp2_with fail
        go_ret
        exact ⟨_, l, rfl, hln, H4.out.1, RL.out.1, H4.out.2⟩
      · have hp' : D.prio l ≤ D.prio i := by omega
        have RL : Hid (InsOK D S (fixS D (S1.setLeft i (some l)) i) xs it i ∧ ChT D (S1.setLeft i (some l)) i ((S1.setLeft i (some l)).left i) (it :: xs) ∧ ChT D (S1.setLeft i (some l)) i ((S1.setLeft i (some l)).right i) (it :: xs)) := by
          obtain ⟨hbig, hni, hs, hl, hr, hne, hh, hxs⟩ := HD.out
          subst hxs
          exact ins_left hs ⟨d, HT.out.2⟩ hh hni hlt HI1.out hp'
        go_wp2_with fail
        refine wp_region_blw _ _ (by kernel_rfl) (by kernel_rfl) (Below.refl w1.heap.size _) ?_
        repeat (go_big_quiet_step (fail))
        refine wpQuiet_nil ?_
        rintro wb ⟨⟨_, hbb⟩, rfl⟩
        have H3 := H2.out.of_block (hbb.block _ gw2)
        have O3 := hid (O2.out.trans (Oth.of_below (by rw [World.size_setCell]; exact hbb)))
        have CF := hid (fix_any g n D _ i wb H3 hin (chOK RL.out.2.1 HD.out.1) (chOK RL.out.2.2 HD.out.1))
        clear L3 L10 M10 nb c3' hbb H3
        go_wp2_with fail
        refine CF.out.mono ?_
        rintro e w4 ⟨rfl, hH4, hO4⟩
        have H4 := hid (And.intro hH4 (O3.out.trans hO4))
        clear hH4 hO4
        go_wp2_with fail
        go_ret
        exact ⟨_, i, rfl, hin, H4.out.1, RL.out.1, H4.out.2⟩
    · have hgt : D.ord i it < 0 := by
        have h1 := HD.out.2.2.2.2.2.1 i (by rw [HD.out.2.2.2.2.2.2.2]; simp)
        have h2 := (ord_good D).anti it i
        omega
      go_enter Yba.func14, Yba.ntmps14
      go_wp2_with fail
      refine wp_region_blw w.heap.size w (by kernel_rfl) (by kernel_rfl) (Below.refl _ _) ?_
      repeat (go_big_quiet_step ((go_at_call 15; refine Calls.blw (v := .int .i64 (D.ord it i)) _ (CO.out _))))
      refine wpQuiet_nil ?_
      rintro wa ⟨⟨_, hba⟩, rfl⟩
      clear K0 K1 K2 K7 nb
      have H1 : Holds wa g n D S := HH.out.of_block (hba.block _ gw)
      have c3 := H1.cell4 hin
      obtain ⟨u, hu⟩ : ∃ u, u = adrO g (S.right i) := ⟨_, rfl⟩
      simp only [ptrV, ← hu] at c3
      obtain ⟨hbig, hni, hs, hl, hr, hne, hh, hxs⟩ := HD.out
      have hs' := hs
      rw [hxs] at hs'
      obtain ⟨s1, s2, _, _, _⟩ := srt_parts hs'
      have CI := HIH.out S (S.right i) rs wa H1 HT.out.2 (fun x hx => hbig x (by rw [hxs]; simp [hx])) (fun hx => hni (by rw [hxs]; simp [hx])) s2 hl hr (fun x hx => hne x (by rw [hxs]; simp [hx]))
      rw [← hu] at CI
      have HCI := hid CI
      have O1 : Hid (Oth g g w wa) := Oth.of_below hba
      clear CI H1 hba hu hbig hni hs hl hr hne hh hxs hs' s1 s2
      go_wp2_with fail
      refine HCI.out.mono ?_
      rintro e w1 ⟨S1, l, rfl, hln, hH1, hI1, hO1⟩
      have H2 := hid (hH1.setRight hin (some l))
      have O2 : Hid (Oth g g w (w1.setCell ⟨g, i * 12 + 4, none⟩ (.pointer (some ⟨g, l * 12, none⟩)))) := (O1.out.trans hO1).setG _ _
      have c3' := hH1.cell4 hin
      have fz := hH1.frz (i * 12 + 4)
      obtain ⟨u', hu'⟩ : ∃ u, u = adrO g (S1.right i) := ⟨_, rfl⟩
      simp only [ptrV, ← hu'] at c3'
      have HI1 := hid hI1
      clear hH1 hI1 hO1 hu' c3
      have gw2 : g < w1.heap.size := by have := H2.out.lt; rw [World.size_setCell] at this; exact this
      have old2 : ∀ (x : Blw w1.heap.size (w1.setCell ⟨g, i * 12 + 4, none⟩ (.pointer (some ⟨g, l * 12, none⟩)))) (o : Nat) (v : Value), (w1.setCell ⟨g, i * 12 + 4, none⟩ (.pointer (some ⟨g, l * 12, none⟩))).cell? ⟨g, o, none⟩ = some v → x.val.cell? ⟨g, o, none⟩ = some v := fun x o v hv =>
        (x.prop.cell (p := ⟨g, o, none⟩) gw2).trans hv
      have nb : Nonempty (Blw w1.heap.size (w1.setCell ⟨g, i * 12 + 4, none⟩ (.pointer (some ⟨g, l * 12, none⟩)))) := ⟨⟨_, Below.refl _ _⟩⟩
      have L3 := fun x => old2 x _ _ (H2.out.cell4 hin)
      have L10 := fun x => old2 x _ _ (H2.out.cell10 hin)
      have M10 := fun x => old2 x _ _ (H2.out.cell10 hln)
      have e3 : (S1.setRight i (some l)).right i = some l := upd_same _ _ _
      simp only [e3, ptrV, adrO] at L3
      clear old2 e3
      by_cases hp : D.prio i < D.prio l
      · have RL : Hid (InsOK D S (fixS D (fixS D (((S1.setRight i (some l)).setRight i (S1.left l)).setLeft l (some i)) i) l) xs it l ∧ l = it ∧ ChT D (((S1.setRight i (some l)).setRight i (S1.left l)).setLeft l (some i)) i (S1.left l) (it :: xs) ∧ ChT D (((S1.setRight i (some l)).setRight i (S1.left l)).setLeft l (some i)) i (S1.left i) (it :: xs) ∧ ChT D (fixS D (((S1.setRight i (some l)).setRight i (S1.left l)).setLeft l (some i)) i) l ((fixS D (((S1.setRight i (some l)).setRight i (S1.left l)).setLeft l (some i)) i).left l) (it :: xs) ∧ ChT D (fixS D (((S1.setRight i (some l)).setRight i (S1.left l)).setLeft l (some i)) i) l ((fixS D (((S1.setRight i (some l)).setRight i (S1.left l)).setLeft l (some i)) i).right l) (it :: xs)) := by
          obtain ⟨hbig, hni, hs, hl, hr, hne, hh, hxs⟩ := HD.out
          subst hxs
          exact ins_right_rot hs ⟨d, HT.out.1⟩ hh hni hgt HI1.out hp
        go_wp2_with fail
        refine wp_region_blw _ _ (by kernel_rfl) (by kernel_rfl) (Below.refl w1.heap.size _) ?_
        repeat (go_big_quiet_step (fail))
        refine wpQuiet_nil ?_
        rintro wb ⟨⟨_, hbb⟩, rfl⟩
        have H3 := H2.out.of_block (hbb.block _ gw2)
        have O3 := hid (O2.out.trans (Oth.of_below (by rw [World.size_setCell]; exact hbb)))
        clear L3 L10 M10 nb c3' hbb
        have hli : l ≠ i := by rw [RL.out.2.1]; exact hii
        have hbg := HD.out.1
        have CR := rotL_any g n D (S1.setRight i (some l)) i l wb H3 hin hln hli (upd_same _ _ _) (chOK RL.out.2.2.1 hbg) (chOK RL.out.2.2.2.1 hbg)
        have HCR := hid CR
        clear CR H3 hbg
        go_wp2_with fail
        refine HCR.out.mono ?_
        rintro e w3 ⟨rfl, hH3, hO3⟩
        have CF := hid (fix_any g n D _ l w3 hH3 hln (chOK RL.out.2.2.2.2.1 HD.out.1) (chOK RL.out.2.2.2.2.2 HD.out.1))
        have O4 := hid (O3.out.trans hO3)
        clear hH3 hO3
        go_wp2_with fail
        refine CF.out.mono ?_
        rintro e w4 ⟨rfl, hH4, hO4⟩
        have H4 := hid (And.intro hH4 (O4.out.trans hO4))
        clear hH4 hO4
        go_wp2_with fail
        go_ret
        exact ⟨_, l, rfl, hln, H4.out.1, RL.out.1, H4.out.2⟩
      · have hp' : D.prio l ≤ D.prio i := by omega
        have RL : Hid (InsOK D S (fixS D (S1.setRight i (some l)) i) xs it i ∧ ChT D (S1.setRight i (some l)) i ((S1.setRight i (some l)).left i) (it :: xs) ∧ ChT D (S1.setRight i (some l)) i ((S1.setRight i (some l)).right i) (it :: xs)) := by
          obtain ⟨hbig, hni, hs, hl, hr, hne, hh, hxs⟩ := HD.out
          subst hxs
          exact ins_right hs ⟨d, HT.out.1⟩ hh hni hgt HI1.out hp'
        go_wp2_with fail
        refine wp_region_blw _ _ (by kernel_rfl) (by kernel_rfl) (Below.refl w1.heap.size _) ?_
        repeat (go_big_quiet_step (fail))
        refine wpQuiet_nil ?_
        rintro wb ⟨⟨_, hbb⟩, rfl⟩
        have H3 := H2.out.of_block (hbb.block _ gw2)
        have O3 := hid (O2.out.trans (Oth.of_below (by rw [World.size_setCell]; exact hbb)))
        have CF := hid (fix_any g n D _ i wb H3 hin (chOK RL.out.2.1 HD.out.1) (chOK RL.out.2.2 HD.out.1))
        clear L3 L10 M10 nb c3' hbb H3
        go_wp2_with fail
        refine CF.out.mono ?_
        rintro e w4 ⟨rfl, hH4, hO4⟩
        have H4 := hid (And.intro hH4 (O3.out.trans hO4))
        clear hH4 hO4
        go_wp2_with fail
        go_ret
        exact ⟨_, i, rfl, hin, H4.out.1, RL.out.1, H4.out.2⟩
end Go.Proofs.Ybulkdfqa
