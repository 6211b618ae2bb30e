/-
  WALK OF zzs5343acheck.
-/
import Derived.Test.YbulkdfqaA12
import Derived.Deep.DeepCutAuto
namespace Go.Proofs.Ybulkdfqa
open Go.RowKit
set_option linter.unusedVariables false
set_option linter.unusedSimpArgs false

def minL (D : Dat) (v : Int) (xs : List Nat) : Int := xs.foldl (fun a x => if D.seq x < a then D.seq x else a) v

theorem minL_snoc (D : Dat) (v : Int) (xs : List Nat) (x : Nat) : minL D v (xs ++ [x]) = if D.seq x < minL D v xs then D.seq x else minL D v xs := by
  unfold minL; rw [List.foldl_append]; rfl

theorem minL_facts (D : Dat) (xs : List Nat) : ∀ v, minL D v xs ≤ v ∧ (∀ x ∈ xs, minL D v xs ≤ D.seq x) ∧ (minL D v xs = v ∨ ∃ x ∈ xs, minL D v xs = D.seq x) := by
  induction xs with
  | nil => intro v; exact ⟨Int.le_refl _, by simp, Or.inl rfl⟩
  | cons a xs ih =>
    intro v
    obtain ⟨h1, h2, h3⟩ := ih (if D.seq a < v then D.seq a else v)
    have e : minL D v (a :: xs) = minL D (if D.seq a < v then D.seq a else v) xs := rfl
    rw [e]
    refine ⟨?_, fun x hx => ?_, ?_⟩
    · split at h1 <;> split <;> omega
    · rcases List.mem_cons.1 hx with h | h
      · rw [h]; split at h1 <;> split <;> omega
      · exact h2 x h
    · rcases h3 with h3 | ⟨x, hx, h3⟩
      · by_cases c : D.seq a < v
        · rw [if_pos c] at h3 ⊢; exact Or.inr ⟨a, by simp, h3⟩
        · rw [if_neg c] at h3 ⊢; exact Or.inl h3
      · exact Or.inr ⟨x, by simp [hx], h3⟩

theorem minL_ok {D : Dat} {xs : List Nat} {i : Nat} {ms : Int} (hi : i ∈ xs) (h : MinOK D xs ms) : minL D (D.seq i) xs = ms := by
  obtain ⟨h1, h2, h3⟩ := minL_facts D xs (D.seq i)
  obtain ⟨⟨y, hy, e⟩, h4⟩ := h
  have h5 := h2 y hy
  rcases h3 with h3 | ⟨x, hx, h3⟩
  · have := h4 i hi; omega
  · have := h4 x hx; omega

theorem Yba.infoA25 : (Yba.prog.info? 25).map (fun i => (i.zero, i.size, i.bytes)) = some (some (.pointer none), 1, 8) := by kernel_rfl

def ptrs (g : Nat) (xs : List Nat) : List Value := xs.map fun x => .pointer (some ⟨g, x * 12, none⟩)

/-- the cells that the address leads to are pointers to the nodes xs -/
def SlC (g : Nat) (w : World) (ao : Option Addr) (cap : Nat) (xs : List Nat) : Prop :=
  (ao = none ∧ cap = 0 ∧ xs = []) ∨ ∃ b, ao = some ⟨b, 0, none⟩ ∧ b < w.heap.size ∧ ∀ j u, (ptrs g xs)[j]? = some u → w.cell? ⟨b, j, none⟩ = some u

theorem SlC.later {g : Nat} {w w' : World} {ao : Option Addr} {cap : Nat} {xs : List Nat} (h : SlC g w ao cap xs) (hb : Below w.heap.size w w') : SlC g w' ao cap xs := by
  rcases h with h | ⟨b, h1, h2, h3⟩
  · exact Or.inl h
  · exact Or.inr ⟨b, h1, Nat.lt_of_lt_of_le h2 hb.size, fun j u hu => (hb.cell (p := ⟨b, j, none⟩) h2).trans (h3 j u hu)⟩
theorem SlC.hnone {g : Nat} {w : World} {ao : Option Addr} {cap : Nat} {xs : List Nat} (h : SlC g w ao cap xs) : ao = none → xs.length = 0 ∧ cap = 0 := by
  intro e
  rcases h with ⟨_, h2, h3⟩ | ⟨b, h1, _⟩
  · subst h3; exact ⟨rfl, h2⟩
  · rw [h1] at e; cases e
theorem SlC.hcell {g : Nat} {w : World} {ao : Option Addr} {cap : Nat} {xs : List Nat} (h : SlC g w ao cap xs) : ∀ ad, ao = some ad → ∀ j u, (ptrs g xs)[j]? = some u → w.cell? (ad.add j) = some u := by
  intro ad e j u hu
  rcases h with ⟨h1, _, _⟩ | ⟨b, h1, _, h3⟩
  · rw [h1] at e; cases e
  · rw [h1] at e
    cases e
    rw [Addr.add_lit, Nat.zero_add]
    exact h3 j u hu

/-- v IS A SLICE OF POINTERS TO THE NODES xs -/
def SlOf (g : Nat) (w : World) (v : Value) (xs : List Nat) : Prop := ∃ ao cap, v = .slice ao xs.length cap ∧ SlC g w ao cap xs
theorem ptrs_len (g : Nat) (xs : List Nat) : (ptrs g xs).length = xs.length := by simp [ptrs]
theorem ptrs_one (g : Nat) (xs : List Nat) : ∀ u ∈ ptrs g xs, u.oneCell' = true := by
  intro u hu
  obtain ⟨_, _, rfl⟩ := List.mem_map.1 hu
  rfl

theorem eqP_any {w : World} {g n : Nat} {D : Dat} {S : St} (h : Holds w g n D S) (x m : Nat) : (binOp .eql 25 (.pointer (some ⟨g, x * 12, none⟩)) (.pointer (some ⟨g, m * 12, none⟩))).run Yba.prog w = .ok (.bool (decide (x = m))) w := by
  have hi : (Yba.prog.info? 35).map (fun i => (i.zero, i.size, i.bytes)) = some (some (.agg zeroNode), 12, 104) := Yba.info35
  obtain ⟨j, hj, _, hs, _⟩ := info_parts hi
  by_cases e : x = m
  · subst e
    rw [run_eql_ptr_same w _ Yba.underlying25 hj]
    simp
  · obtain ⟨c, hc, _⟩ := h
    rw [run_eql_ptr_other w Yba.underlying25 hj (by omega) (fun h => e (by simp only [Addr.mk.injEq, and_true, true_and] at h; omega)) hc hc]
    simp [e]

theorem mem_take_snoc {xs : List Nat} {k x m : Nat} (h : xs[k]? = some x) : decide (m ∈ xs.take (k + 1)) = (decide (m ∈ xs.take k) || decide (x = m)) := by
  rw [List.take_add_one, h]
  simp [eq_comm]
theorem minL_take {D : Dat} {v : Int} {xs : List Nat} {k x : Nat} (h : xs[k]? = some x) : minL D v (xs.take (k + 1)) = if D.seq x < minL D v (xs.take k) then D.seq x else minL D v (xs.take k) := by
  rw [List.take_add_one, h]
  exact minL_snoc D v _ x

set_option maxHeartbeats 4000000 in
set_option maxRecDepth 100000 in
theorem check_any (g n : Nat) (D : Dat) (S : St) (hn : n ≤ 1024) : ∀ (d : Nat) (p : Option Nat) (xs : List Nat) (w : World), Holds w g n D S → Tr D S d p xs → (∀ x ∈ xs, x < n) → xs.length ≤ 1024 →
    Calls Yba.prog 9 #[.pointer (adrO g p)] w fun e w' => ∃ v, e = .returned (.tuple #[v, .bool true]) ∧ SlOf g w' v xs ∧ Below w.heap.size w w' := by
  intro d
  induction d with
  | zero =>
    intro p xs w h ht _ _
    obtain ⟨rfl, rfl⟩ := ht
    simp only [adrO]
    go_enter Yba.func9, Yba.ntmps9
    go_wp2_with fail
    go_ret2
    exact ⟨.slice none 0 0, rfl, ⟨none, 0, rfl, Or.inl ⟨rfl, rfl, rfl⟩⟩, Below.refl _ _⟩
  | succ d ih =>
    intro p xs w h ht hX hlen
    rcases ht with ⟨rfl, rfl⟩ | ⟨i, ls, rs, rfl, hxs, tl, tr, hh, m, hm, hlast, hmin⟩
    · simp only [adrO]
      go_enter Yba.func9, Yba.ntmps9
      go_wp2_with fail
      go_ret2
      exact ⟨.slice none 0 0, rfl, ⟨none, 0, rfl, Or.inl ⟨rfl, rfl, rfl⟩⟩, Below.refl _ _⟩
    have hin : i < n := hX i (by rw [hxs]; simp)
    have hmn : m < n := hX m hlast.1
    have c3 := h.cell3 hin
    obtain ⟨ul, hul⟩ : ∃ u, u = adrO g (S.left i) := ⟨_, rfl⟩
    simp only [ptrV, ← hul] at c3
    have lls : ls.length ≤ 1024 ∧ rs.length ≤ 1024 ∧ ls.length + rs.length + 1 ≤ 1024 := by rw [hxs] at hlen; simp at hlen; omega
    have CL := ih (S.left i) ls w h tl (fun x hx => hX x (by rw [hxs]; simp [hx])) lls.1
    rw [← hul] at CL
    have HCL := hid CL
    have HH := hid h
    have HIH := hid ih
    have HT := hid (And.intro tr (And.intro hh hxs))
    have HTL := hid tl
    have HD := hid (And.intro hX (And.intro hlast (And.intro hmin hm)))
    have HUL := hid hul
    clear CL h ih tl tr hh hxs hX hlast hmin hm hul
    simp only [adrO]
    go_enter Yba.func9, Yba.ntmps9
    go_wp2_with fail
    refine HCL.out.mono ?_
    rintro e w1 ⟨vl, rfl, hvl, hb1⟩
    obtain ⟨al, cl, rfl, hvl2⟩ := hvl
    have gw : g < w.heap.size := HH.out.lt
    have H1 : Holds w1 g n D S := HH.out.of_block (hb1.block _ gw)
    have c4 := H1.cell4 hin
    obtain ⟨ur, hur⟩ : ∃ u, u = adrO g (S.right i) := ⟨_, rfl⟩
    simp only [ptrV, ← hur] at c4
    have CR := HIH.out (S.right i) rs w1 H1 HT.out.1 (fun x hx => HD.out.1 x (by rw [HT.out.2.2]; simp [hx])) lls.2.1
    rw [← hur] at CR
    have HCR := hid CR
    have HB1 := hid hb1
    have HVL := hid hvl2
    have HUR := hid hur
    clear CR H1 hb1 hvl2 hur c3
    go_wp2_with fail
    refine HCR.out.mono ?_
    rintro e w2 ⟨vr, rfl, hvr, hb2⟩
    obtain ⟨ar, cr, rfl, hvr2⟩ := hvr
    have B2 : Below w.heap.size w w2 := HB1.out.trans (hb2.mono HB1.out.size)
    have H2 : Holds w2 g n D S := HH.out.of_block (B2.block _ gw)
    have c3 := H2.cell3 hin
    have c4' := H2.cell4 hin
    have c10 := H2.cell10 hin
    simp only [ptrV] at c3 c4'
    rw [← HUL.out] at c3
    rw [← HUR.out] at c4'
    have HB2 := hid (And.intro hb2 B2)
    have HSR : Hid (SlC g w2 ar cr rs) := hvr2
    have HSL : Hid (SlC g w2 al cl ls) := HVL.out.later hb2
    have HH2 := hid H2
    clear hb2 B2 hvr2 H2 c4
    have mL : ∀ c, S.left i = some c → c ∈ ls := fun c hc => by
      have := HTL.out
      rw [hc] at this
      exact (Tree.head_mem ⟨d, this⟩)
    have mR : ∀ c, S.right i = some c → c ∈ rs := fun c hc => by
      have := HT.out.1
      rw [hc] at this
      exact (Tree.head_mem ⟨d, this⟩)
    have HML := hid mL
    have HMR := hid mR
    clear mL mR
    go_upto_region 9 with fail
    go_cut [55] (fun t wx => t = .bool false ∧ Below w2.heap.size w2 wx)
    case first =>
      cases hL : S.left i with
      | none =>
        have e : ul = none := by rw [HUL.out, hL]; rfl
        subst e
        clear hL
        go_quiet (fail)
        go_wp2_with fail
        go_meet
        exact ⟨rfl, below_drewN (Below.refl _ _) _⟩
      | some c =>
        have e : ul = some ⟨g, c * 12, none⟩ := by rw [HUL.out, hL]; rfl
        subst e
        have hcm := HML.out c hL
        have k10 := HH2.out.cell10 (HD.out.1 c (by rw [HT.out.2.2]; simp [hcm]))
        have hp := HT.out.2.1 c (by simp [hcm])
        have hd : decide (D.prio i < D.prio c) = false := by simp; omega
        clear hL hcm
        go_quiet (fail)
        go_wp2_with fail
        go_meet
        exact ⟨rfl, below_drewN (Below.refl _ _) _⟩
    case rest =>
    obtain ⟨rfl, hbc⟩ := hcut
    have HC1 := hid hbc
    have H3 := HH2.out.of_block (hbc.block _ HH2.out.lt)
    have d4 := H3.cell4 hin
    have d10 := H3.cell10 hin
    simp only [ptrV] at d4
    rw [← HUR.out] at d4
    have HH3 := hid H3
    clear H3 hbc c3 c4' c10
    go_upto_region 11 with fail
    go_cut [74] (fun t wx => t = .bool false ∧ Below w2.heap.size w2 wx)
    case first =>
      cases hL : S.right i with
      | none =>
        have e : ur = none := by rw [HUR.out, hL]; rfl
        subst e
        clear hL
        go_quiet (fail)
        go_wp2_with fail
        go_meet
        exact ⟨rfl, below_drewN HC1.out _⟩
      | some c =>
        have e : ur = some ⟨g, c * 12, none⟩ := by rw [HUR.out, hL]; rfl
        subst e
        have hcm := HMR.out c hL
        have k10 := HH3.out.cell10 (HD.out.1 c (by rw [HT.out.2.2]; simp [hcm]))
        have hp := HT.out.2.1 c (by simp [hcm])
        have hd : decide (D.prio i < D.prio c) = false := by simp; omega
        clear hL hcm
        go_quiet (fail)
        go_wp2_with fail
        go_meet
        exact ⟨rfl, below_drewN HC1.out _⟩
    case rest =>
    rename_i wcx
    obtain ⟨rfl, hbd⟩ := hcut
    have HC2 := hid hbd
    clear hbd d4 d10
    obtain ⟨l1, l2, l3⟩ := lls
    obtain ⟨i0, hi0, hz0, hz1, hz2⟩ := info_parts Yba.infoA25
    go_wp2_with (at_make; refine wpList_make_own _ rfl _ _ 38 rfl wc.heap.size 25 i0 (.pointer none) 1 Yba.underlying38 hi0 hz0 hz1 .i64 .i64 _ (ls.length + rs.length + 1) rfl rfl (by omega) (by rw [hz2]; omega) (by unfold maxLen; omega) (Nat.le_refl _) ?_)
    intro w3 hown3 hgrow3
    have hB3 : Below wc.heap.size wc w3 := (Below.refl _ _).grown hgrow3 (Nat.le_refl _) (fun k hk => by cases hk)
    have SL := HSL.out
    have SR := HSR.out
    have SL3 := (SL.later HC2.out).later hB3
    have nl := SL3.hnone
    have cl3 := SL3.hcell
    have ol := ptrs_one g ls
    have nll : (ptrs g ls).length = ls.length * 1 := by rw [ptrs_len, Nat.mul_one]
    have HB3 := hid hB3
    have HSL3 := hid SL3
    clear hB3 SL SR SL3 hgrow3
    go_wp2_with (at_builtin; refine wpList_append_fits_any _ rfl (.tmp 82) (.tmp 83) 38 rfl wc.heap.size 25 i0 1 Yba.underlying38 hi0 hz1 wc.heap.size 0 (ls.length + rs.length + 1) [] rfl hown3 al ls.length cl (ptrs g ls) rfl nll nl cl3 ol (by omega) ?_)
    intro w4 hown4 hgrow4
    have hB4 : Below wc.heap.size wc w4 := HB3.out.grown hgrow4 HB3.out.size (fun k hk => by cases hk; exact Nat.le_refl _)
    have HB4 := hid hB4
    have hbase4 : wc.heap.size ≤ w4.heap.size := hB4.size
    have SR4 := ((HSR.out.later HC2.out).later hB4).later ((Below.refl _ _).alloc (Nat.le_refl _) (.cells #[.pointer (some ⟨g, i * 12, none⟩)] 25))
    have hown4' := hown4.alloc (.cells #[.pointer (some ⟨g, i * 12, none⟩)] 25)
    have h1n : ∀ j u, ([.pointer (some ⟨g, i * 12, none⟩)] : List Value)[j]? = some u → (w4.alloc (.cells #[.pointer (some ⟨g, i * 12, none⟩)] 25)).cell? ((⟨w4.heap.size, 0, none⟩ : Addr).add j) = some u := by
      intro j u hu
      match j, hu with
      | 0, hu => simp at hu; subst hu; simp [Addr.add]
    clear nl cl3 ol nll hown3 hown4 hgrow4 hB4
    go_wp2_with (at_builtin; refine wpList_append_fits _ rfl (.tmp 85) (.tmp 87) 38 rfl wc.heap.size 25 i0 1 Yba.underlying38 hi0 hz1 wc.heap.size ls.length (ls.length + rs.length + 1) (ptrs g ls) rfl hown4' ⟨w4.heap.size, 0, none⟩ 1 1 [.pointer (some ⟨g, i * 12, none⟩)] rfl rfl h1n (by simp [Value.oneCell']) (by omega) ?_)
    intro w5 hown5 hgrow5
    have hB5 : Below wc.heap.size wc w5 := (HB4.out.alloc HB4.out.size _).grown hgrow5 (by rw [World.size_alloc]; have := HB4.out.size; omega) (fun k hk => by cases hk; exact Nat.le_refl _)
    have SR5 := (HSR.out.later HC2.out).later hB5
    have nr := SR5.hnone
    have cr5 := SR5.hcell
    have orr := ptrs_one g rs
    have nrl : (ptrs g rs).length = rs.length * 1 := by rw [ptrs_len, Nat.mul_one]
    have HB5 := hid hB5
    clear hB5 SR4 SR5 hown4' h1n hgrow5
    go_wp2_with (at_builtin; refine wpList_append_fits_any _ rfl (.tmp 89) (.tmp 90) 38 rfl wc.heap.size 25 i0 1 Yba.underlying38 hi0 hz1 wc.heap.size (ls.length + 1) (ls.length + rs.length + 1) (ptrs g ls ++ [.pointer (some ⟨g, i * 12, none⟩)]) rfl hown5 ar rs.length cr (ptrs g rs) rfl nrl nr cr5 orr (by omega) ?_)
    intro w6 hown6 hgrow6
    have hB6 : Below wc.heap.size wc w6 := HB5.out.grown hgrow6 HB5.out.size (fun k hk => by cases hk; exact Nat.le_refl _)
    have hwc : w.heap.size ≤ wc.heap.size := Nat.le_trans HB2.out.2.size HC2.out.size
    have hBw : Below w.heap.size w w6 := (HB2.out.2.trans (HC2.out.mono HB2.out.2.size)).trans (hB6.mono hwc)
    have H6 : Holds w6 g n D S := HH.out.of_block (hBw.block _ gw)
    have hL : xs.length = ls.length + 1 + rs.length := by rw [HT.out.2.2]; simp; omega
    have hptr : ptrs g ls ++ Value.pointer (some ⟨g, i * 12, none⟩) :: ptrs g rs = ptrs g xs := by rw [HT.out.2.2]; simp [ptrs]
    rw [hptr] at hown6
    obtain ⟨bs, hbs⟩ : ∃ b, b = wc.heap.size := ⟨_, rfl⟩
    rw [← hbs] at hown6 ⊢
    obtain ⟨L, hLL⟩ : ∃ L, L = ls.length + 1 + rs.length := ⟨_, rfl⟩
    rw [← hLL] at hown6 hL ⊢
    have hcx : ∀ k x, k < L → xs[k]? = some x → w6.cell? ⟨bs, k, none⟩ = some (.pointer (some ⟨g, x * 12, none⟩)) := fun k x hk hx => by
      rw [hown6.cellAt k (by omega)]
      simp [ptrs, hx]
    have hbl : bs < w6.heap.size := (hown6.lt bs rfl).2
    have hLn : L ≤ 1024 := by omega
    have HCX := hid hcx
    have HR6 := hid (And.intro hBw (And.intro H6 (And.intro hL hbl)))
    have q5 := H6.cell5 hin
    have q6 := H6.cell6 hin
    have q7 := H6.cell7 hin
    rw [HD.out.2.2.2] at q5
    simp only [ptrV, adrO] at q5
    clear hB6 hwc hBw H6 hL hptr hbs hLL hcx hbl nr cr5 orr nrl hown5 hown6 hgrow6
    obtain ⟨cp, hcp⟩ : ∃ c, c = ls.length + rs.length + 1 := ⟨_, rfl⟩
    rw [← hcp]
    clear hcp l1 l2 l3 hi0 hz0 hz1 hz2
    go_wp2_with fail
    go_loop [9, 10, 98] (fun mn li t => ∃ (k : Nat) (v : Int) (b : Bool), k ≤ L ∧ t = .int .i64 k ∧ mn = .int .u64 v ∧ li = .bool b ∧ v = minL D (D.seq i) (xs.take k) ∧ b = decide (m ∈ xs.take k)) (fun _ _ t => L - (intOf t).toNat)
    case atStart => exact ⟨0, _, _, Nat.zero_le _, rfl, rfl, rfl, rfl, by simp⟩
    case round =>
      obtain ⟨k, v, b, hk, rfl, rfl, rfl, hv, hb⟩ := hrel
      by_cases hlt : k < L
      · obtain ⟨x, hxk⟩ : ∃ x, xs[k]? = some x := ⟨_, List.getElem?_eq_getElem (by rw [HR6.out.2.2.1]; exact hlt)⟩
        have hxn : x < n := HD.out.1 x (List.mem_of_getElem? hxk)
        have r0 := HCX.out k x hlt hxk
        have r7 := HR6.out.2.1.cell7 hxn
        have heq := eqP_any HR6.out.2.1 x m
        have HV := hid (And.intro hv hb)
        have HXK := hid hxk
        clear hv hb hxk
        by_cases hlt2 : D.seq x < v
        · by_cases hxm : x = m
          · have HXM := hid hxm
            have hd : decide (x = m) = true := by simpa using hxm
            rw [hd] at heq
            clear hxm hd
            go_wp2_with fail
            go_round
            case rel => exact ⟨k + 1, _, _, by omega, by go_num, rfl, rfl, by rw [minL_take HXK.out, ← HV.out.1, if_pos hlt2], by rw [mem_take_snoc HXK.out, HXM.out]; simp⟩
            case measure => simp [intOf]; omega
          · have HXM := hid hxm
            have hd : decide (x = m) = false := by simpa using hxm
            rw [hd] at heq
            clear hxm hd
            go_wp2_with fail
            go_round
            case rel => exact ⟨k + 1, _, _, by omega, by go_num, rfl, rfl, by rw [minL_take HXK.out, ← HV.out.1, if_pos hlt2], by rw [mem_take_snoc HXK.out, ← HV.out.2]; simp [HXM.out]⟩
            case measure => simp [intOf]; omega
        · by_cases hxm : x = m
          · have HXM := hid hxm
            have hd : decide (x = m) = true := by simpa using hxm
            rw [hd] at heq
            clear hxm hd
            go_wp2_with fail
            go_round
            case rel => exact ⟨k + 1, _, _, by omega, by go_num, rfl, rfl, by rw [minL_take HXK.out, ← HV.out.1, if_neg (by omega)], by rw [mem_take_snoc HXK.out, HXM.out]; simp⟩
            case measure => simp [intOf]; omega
          · have HXM := hid hxm
            have hd : decide (x = m) = false := by simpa using hxm
            rw [hd] at heq
            clear hxm hd
            go_wp2_with fail
            go_round
            case rel => exact ⟨k + 1, _, _, by omega, by go_num, rfl, rfl, by rw [minL_take HXK.out, ← HV.out.1, if_neg (by omega)], by rw [mem_take_snoc HXK.out, ← HV.out.2]; simp [HXM.out]⟩
            case measure => simp [intOf]; omega
      · have hkL : k = L := by omega
        subst hkL
        have ht : xs.take k = xs := List.take_of_length_le (by rw [HR6.out.2.2.1]; exact Nat.le_refl _)
        rw [ht] at hv hb
        have hv' : v = S.ms i := by rw [hv]; exact minL_ok (by rw [HT.out.2.2]; simp) HD.out.2.2.1
        have hb' : b = true := by rw [hb]; simpa using HD.out.2.1.1
        subst hv' hb'
        clear hv hb ht
        go_wp2_with fail
        go_loopw [131] (fun t wr => ∃ j : Nat, j ≤ k ∧ t = .int .i64 j ∧ Below w6.heap.size w6 wr) (fun t _ => k - (intOf t).toNat)
        case atStart => exact ⟨0, Nat.zero_le _, rfl, Below.refl _ _⟩
        case round =>
          obtain ⟨j, hj, rfl, hbr⟩ := hrel
          by_cases hlt : j < k
          · obtain ⟨x, hxk⟩ : ∃ x, xs[j]? = some x := ⟨_, List.getElem?_eq_getElem (by rw [HR6.out.2.2.1]; exact hlt)⟩
            have hxn : x < n := HD.out.1 x (List.mem_of_getElem? hxk)
            have r0 := (hbr.cell (p := ⟨bs, j, none⟩) HR6.out.2.2.2).trans (HCX.out j x hlt hxk)
            have Hr : Holds wr g n D S := HR6.out.2.1.of_block (hbr.block _ HR6.out.2.1.lt)
            have r5 := Hr.cell5 hin
            rw [HD.out.2.2.2] at r5
            simp only [ptrV, adrO] at r5
            have CE := hid (endsB_any g n D S m x wr Hr hmn hxn (HD.out.2.1.2 x (List.mem_of_getElem? hxk)))
            have HBR := hid hbr
            clear hxk Hr hbr
            go_wp2_with fail
            refine CE.out.mono ?_
            rintro e wz ⟨rfl, hbz⟩
            have HBZ := hid (HBR.out.trans (hbz.mono HBR.out.size))
            clear hbz
            go_wp2_with fail
            go_roundw
            case rel => exact ⟨j + 1, by omega, by go_num, HBZ.out⟩
            case measure => simp [intOf]; omega
          · have HBR := hid hbr
            clear hbr
            go_wp2_with fail
            go_ret2
            refine ⟨.slice (some ⟨bs, 0, none⟩) k cp, rfl, ⟨_, cp, by rw [HR6.out.2.2.1], Or.inr ⟨bs, rfl, Nat.lt_of_lt_of_le HR6.out.2.2.2 HBR.out.size, fun a u hu => ?_⟩⟩, HR6.out.1.trans (HBR.out.mono HR6.out.1.size)⟩
            have ha : a < k := by
              have := (List.getElem?_eq_some_iff.1 hu).1
              rw [ptrs_len, HR6.out.2.2.1] at this
              exact this
            obtain ⟨x, hxk⟩ : ∃ x, xs[a]? = some x := ⟨_, List.getElem?_eq_getElem (by rw [HR6.out.2.2.1]; exact ha)⟩
            simp [ptrs, hxk] at hu
            rw [← hu]
            exact (HBR.out.cell (p := ⟨bs, a, none⟩) HR6.out.2.2.2).trans (HCX.out a x ha hxk)
end Go.Proofs.Ybulkdfqa
