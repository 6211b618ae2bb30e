/-
  WALK OF (*keyItem).each OVER A CHAIN BY RIGHT LINKS, asked about every key.
-/
import Derived.Test.YbulkdfqaQ
import Derived.Test.YbulkdfqaB6
namespace Go.Proofs.Ybulkdfqa
open Go.RowKit
set_option linter.unusedVariables false
set_option linter.unusedSimpArgs false
attribute [local go_sem ↓] Go.wp_at_zero Go.wp_at_succ

/-- ITEM x's CELLS LIE AT BLOCK b, a node of a chain by right links -/
structure NdAt (w : World) (b : Nat) (x : Itm) (right : Option Addr) (ms : Int) : Prop where
  c0 : w.cell? ⟨b, 0, none⟩ = some (.string x.lo)
  c1 : w.cell? ⟨b, 1, none⟩ = some (.string x.hi)
  c2 : w.cell? ⟨b, 2, none⟩ = some (.bool x.all)
  c3 : w.cell? ⟨b, 3, none⟩ = some (.pointer none)
  c4 : w.cell? ⟨b, 4, none⟩ = some (.pointer right)
  c5 : w.cell? ⟨b, 5, none⟩ = some (.pointer (some ⟨b, 0, none⟩))
  c6 : w.cell? ⟨b, 6, none⟩ = some (.int .u64 ms)
  c7 : w.cell? ⟨b, 7, none⟩ = some (.int .u64 x.seq)
  c8 : w.cell? ⟨b, 8, none⟩ = some (.pointer x.txn)

theorem below_of_two {B : Nat} {w : World} (o1 o2 : Obj) (h : B ≤ w.heap.size) : Below B w ((w.alloc o1).alloc o2) :=
  ((Below.refl B w).alloc h o1).alloc (by rw [World.size_alloc]; omega) o2

set_option maxHeartbeats 1000000 in
set_option maxRecDepth 100000 in
theorem each_nil (l2 h2 : ByteArray) (f : Value) (w : World) :
    Calls Yba.prog 28 #[.pointer none, rng l2 h2 true, .int .u64 18446744073709551615, .pointer none, f] w fun e w' => e = .returned (.bool false) ∧ Below w.heap.size w w' := by
  unfold rng
  have hb := (Below.refl w.heap.size w).alloc (Nat.le_refl _) (.cells #[.string l2, .string h2, .bool true] 29)
  have hne : Nonempty (Blw w.heap.size w) := ⟨⟨w, Below.refl _ _⟩⟩
  go_enter Yba.func28, Yba.ntmps28
  go_wp2_with fail
  refine wp_region_blw w.heap.size w (by kernel_rfl) (by kernel_rfl) hb ?_
  repeat (go_big_quiet_step (fail))
  refine wpQuiet_nil ?_
  rintro _ ⟨⟨w', hb'⟩, rfl⟩
  go_wp2_with fail
  go_ret
  exact ⟨rfl, hb'⟩


/-- what a search leaves: it has met none of the items i .. n-1; or it has met item j first, and has stored its address -/
def EachPost (n i hb : Nat) (N : Nat → Nat) (X : Nat → Itm) (w : World) (r : Bool) (w' : World) : Prop :=
  (r = false ∧ (∀ j, i ≤ j → j < n → okB mxu (X j) = false) ∧ Below w.heap.size w w') ∨
  (r = true ∧ ∃ j w1, i ≤ j ∧ j < n ∧ okB mxu (X j) = true ∧ (∀ k, i ≤ k → k < j → okB mxu (X k) = false) ∧ Below w.heap.size w w1 ∧ w' = w1.setCell ⟨hb, 0, none⟩ (.pointer (some ⟨N j, 0, none⟩)))

theorem EachPost.later {n i hb : Nat} {N : Nat → Nat} {X : Nat → Itm} {w0 w w' : World} {r : Bool} (h : EachPost n (i + 1) hb N X w r w') (hb0 : Below w0.heap.size w0 w) (hk : okB mxu (X i) = false) :
    EachPost n i hb N X w0 r w' := by
  rcases h with ⟨h1, h2, h3⟩ | ⟨h1, j, w1, h2, h3, h4, h5, h6, h7⟩
  · refine Or.inl ⟨h1, fun j hj hj' => ?_, hb0.trans (h3.mono hb0.size)⟩
    by_cases e : j = i
    · rw [e]; exact hk
    · exact h2 j (by omega) hj'
  · refine Or.inr ⟨h1, j, w1, by omega, h3, h4, fun k hk1 hk2 => ?_, hb0.trans (h6.mono hb0.size), h7⟩
    by_cases e : k = i
    · rw [e]; exact hk
    · exact h5 k (by omega) hk2

def ptrAt (n : Nat) (N : Nat → Nat) (i : Nat) : Option Addr := if i < n then some ⟨N i, 0, none⟩ else none

theorem lowd {w wr : World} {o : Obj} (h : Below (w.heap.size + 1) (w.alloc o) wr) : Below w.heap.size w wr :=
  (((Below.refl w.heap.size w).alloc (Nat.le_refl _) o)).trans (h.mono (by omega))
theorem le_sized {w wr : World} {o : Obj} (h : Below (w.heap.size + 1) (w.alloc o) wr) : w.heap.size + 1 ≤ wr.heap.size := by
  have := h.size; rw [World.size_alloc] at this; exact this
theorem le_sized1 {w wr : World} {o o1 : Obj} (h : Below (w.heap.size + 1) (w.alloc o) wr) : w.heap.size + 1 ≤ (wr.alloc o1).heap.size := by
  have := h.size; rw [World.size_alloc] at this; rw [World.size_alloc]; omega

theorem ok_late {seq : Int} (lo hi : ByteArray) (all : Bool) (txn : Option Addr) (h : 18446744073709551615 ≤ seq) : okB mxu ⟨lo, hi, all, seq, txn⟩ = false := by
  have h' : ¬ (seq < mxu) := by unfold mxu; omega
  simp [okB, h']

/-- the call of itself at the right child -/
theorem rec_call {n hb i d : Nat} {N : Nat → Nat} {X : Nat → Itm} {MS : Nat → Int} {l2 h2 : ByteArray} {v0 : Value} {w wd : World} {o : Obj} {rt : Option Addr}
    (ih : ∀ (i : Nat), i + d = n → ∀ (w : World),
      (∀ j, i ≤ j → j < n → NdAt w (N j) (X j) (ptrAt n N (j + 1)) (MS j)) → w.cell? ⟨hb, 0, none⟩ = some v0 → w.frozen? ⟨hb, 0, none⟩ = false →
      Calls Yba.prog 28 #[.pointer (ptrAt n N i), rng l2 h2 true, .int .u64 18446744073709551615, .pointer none, .func (.func 20) #[] #[.pointer (some ⟨hb, 0, none⟩)]] w fun e w' =>
        ∃ r : Bool, e = .returned (.bool r) ∧ EachPost n i hb N X w r w')
    (hrt : rt = ptrAt n N (i + 1)) (hbd : Below (w.heap.size + 1) (w.alloc o) wd) (hnd : ∀ j, i ≤ j → j < n → NdAt w (N j) (X j) (ptrAt n N (j + 1)) (MS j))
    (hv : w.cell? ⟨hb, 0, none⟩ = some v0 ∧ w.frozen? ⟨hb, 0, none⟩ = false) (hi : i + (d + 1) = n) :
    Calls Yba.prog 28 #[.pointer rt, .agg #[.string l2, .string h2, .bool true], .int .u64 18446744073709551615, .pointer none, .func (.func 20) #[] #[.pointer (some ⟨hb, 0, none⟩)]] wd.drew fun e w' =>
      ∃ r : Bool, e = .returned (.bool r) ∧ EachPost n (i + 1) hb N X wd r w' := by
  have hb' := lowd hbd
  subst hrt
  have al : ∀ {b o' : Nat} {v : Value}, w.cell? ⟨b, o', none⟩ = some v → wd.drew.cell? ⟨b, o', none⟩ = some v := fun {b o' v} h =>
    (hb'.cell (p := ⟨b, o', none⟩) (World.block_lt_of_cell? _ _ h)).trans h
  refine (ih (i + 1) (by omega) wd.drew (fun j h1 h2 => ?_) (al hv.1) ((hb'.frozen (p := ⟨hb, 0, none⟩) (World.block_lt_of_cell? _ _ hv.1)).trans hv.2)).mono ?_
  · have h := hnd j (by omega) h2
    exact ⟨al h.c0, al h.c1, al h.c2, al h.c3, al h.c4, al h.c5, al h.c6, al h.c7, al h.c8⟩
  · rintro e w' ⟨r, he, hr⟩
    refine ⟨r, he, ?_⟩
    rcases hr with ⟨h1, h2, h3⟩ | ⟨h1, j, w1, h2, h3, h4, h5, h6, h7⟩
    · exact Or.inl ⟨h1, h2, (Below.refl _ _).drew.trans h3⟩
    · exact Or.inr ⟨h1, j, w1, h2, h3, h4, h5, (Below.refl _ _).drew.trans h6, h7⟩

set_option maxHeartbeats 4000000 in
set_option maxRecDepth 100000 in
theorem each_chain (n hb : Nat) (N : Nat → Nat) (X : Nat → Itm) (MS : Nat → Int) (l2 h2 : ByteArray) (v0 : Value) (hne : ∀ j, j < n → N j ≠ hb) : ∀ (d i : Nat), i + d = n → ∀ (w : World),
    (∀ j, i ≤ j → j < n → NdAt w (N j) (X j) (ptrAt n N (j + 1)) (MS j)) → w.cell? ⟨hb, 0, none⟩ = some v0 → w.frozen? ⟨hb, 0, none⟩ = false →
    Calls Yba.prog 28 #[.pointer (ptrAt n N i), rng l2 h2 true, .int .u64 18446744073709551615, .pointer none, .func (.func 20) #[] #[.pointer (some ⟨hb, 0, none⟩)]] w fun e w' =>
      ∃ r : Bool, e = .returned (.bool r) ∧ EachPost n i hb N X w r w' := by
  intro d
  induction d with
  | zero =>
    intro i hi w _ _ _
    have e : ptrAt n N i = none := by unfold ptrAt; rw [if_neg (by omega)]
    rw [e]
    refine (each_nil l2 h2 _ w).mono ?_
    rintro e w' ⟨rfl, hb'⟩
    exact ⟨false, rfl, Or.inl ⟨rfl, fun j hj hj' => by omega, hb'⟩⟩
  | succ d ih =>
    intro i hi w hnd hv hf
    have hin : i < n := by omega
    have e : ptrAt n N i = some ⟨N i, 0, none⟩ := by unfold ptrAt; rw [if_pos hin]
    rw [e]
    clear e
    unfold rng
    have hbl : hb < w.heap.size := World.block_lt_of_cell? _ _ hv
    have hx := hnd i (Nat.le_refl _) hin
    have hNl : N i < w.heap.size := World.block_lt_of_cell? _ _ hx.c0
    obtain ⟨Qo, hQo⟩ : ∃ Qo : Obj, Qo = .cells #[.string l2, .string h2, .bool true] 29 := ⟨_, rfl⟩
    have old : ∀ (x : Blw (w.heap.size + 1) (w.alloc (.cells #[.string l2, .string h2, .bool true] 29))) (b o : Nat), b < w.heap.size → x.val.cell? ⟨b, o, none⟩ = w.cell? ⟨b, o, none⟩ := fun x b o h =>
      (x.prop.cell (p := ⟨b, o, none⟩) (by show b < _; omega)).trans (World.cell?_alloc_lt _ _ _ h)
    have new : ∀ (x : Blw (w.heap.size + 1) (w.alloc (.cells #[.string l2, .string h2, .bool true] 29))) (o : Nat), x.val.cell? ⟨w.heap.size, o, none⟩ = (#[.string l2, .string h2, .bool true] : Array Value)[o]? := fun x o =>
      (x.prop.cell (p := ⟨w.heap.size, o, none⟩) (by show w.heap.size < _; omega)).trans (World.cell?_alloc_new _ _ _ _)
    obtain ⟨itm, hitm⟩ : ∃ t, t = X i := ⟨_, rfl⟩
    rw [← hitm] at hx
    have HI : Hid (itm = X i) := hitm
    obtain ⟨lo, hi', all, seq, txn⟩ := itm
    obtain ⟨rt, hrt⟩ : ∃ t, t = ptrAt n N (i + 1) := ⟨_, rfl⟩
    rw [← hrt] at hx
    have i0 := fun x => (old x _ 0 hNl).trans hx.c0
    have i1 := fun x => (old x _ 1 hNl).trans hx.c1
    have i2 := fun x => (old x _ 2 hNl).trans hx.c2
    have i3 := fun x => (old x _ 3 hNl).trans hx.c3
    have i4 := fun x => (old x _ 4 hNl).trans hx.c4
    have i5 := fun x => (old x _ 5 hNl).trans hx.c5
    have i7 := fun x => (old x _ 7 hNl).trans hx.c7
    have i8 := fun x => (old x _ 8 hNl).trans hx.c8
    have z0 := fun x => new x 0
    have z1 := fun x => new x 1
    have z2 := fun x => new x 2
    simp at z0 z1 z2 i0 i1 i2 i3 i4 i5 i7 i8
    have hnon : Nonempty (Blw (w.heap.size + 1) (w.alloc (.cells #[.string l2, .string h2, .bool true] 29))) := ⟨⟨_, Below.refl _ _⟩⟩
    have sz : ∀ x : Blw (w.heap.size + 1) (w.alloc (.cells #[.string l2, .string h2, .bool true] 29)), w.heap.size + 1 ≤ x.val.heap.size := fun x => by have := x.prop.size; rw [World.size_alloc] at this; exact this
    have HSZ : Hid (∀ x : Blw (w.heap.size + 1) (w.alloc (.cells #[.string l2, .string h2, .bool true] 29)), w.heap.size + 1 ≤ x.val.heap.size) := sz
    have HOLD : Hid (∀ (x : Blw (w.heap.size + 1) (w.alloc (.cells #[.string l2, .string h2, .bool true] 29))) (b o : Nat), b < w.heap.size → x.val.cell? ⟨b, o, none⟩ = w.cell? ⟨b, o, none⟩) := old
    have HV : Hid (w.cell? ⟨hb, 0, none⟩ = some v0 ∧ w.frozen? ⟨hb, 0, none⟩ = false) := ⟨hv, hf⟩
    have HND : Hid (∀ j, i ≤ j → j < n → NdAt w (N j) (X j) (ptrAt n N (j + 1)) (MS j)) := hnd
    have HRT : Hid (rt = ptrAt n N (i + 1)) := hrt
    have HIH := hid ih
    clear old new hx hitm hrt sz hv hf hnd ih hQo Qo
    go_enter Yba.func28, Yba.ntmps28
    go_wp2_with fail
    refine wp_region_blw (w.heap.size + 1) (w.alloc (.cells #[.string l2, .string h2, .bool true] 29)) (by kernel_rfl) (by kernel_rfl) (Below.refl _ _) ?_
    repeat (go_big_quiet_step ((go_at_call 30; refine Calls.blw (v := .bool false) _ ((endsBefore_all lo hi' l2 h2 all _).mono ?_); rintro e w' ⟨rfl, rfl⟩; exact ⟨rfl, below_of_two _ _ (HSZ.out _)⟩)))
    refine wpQuiet_nil ?_
    rintro wa ⟨⟨_, hba⟩, rfl⟩
    go_wp2_with fail
    refine wp_region_blw (w.heap.size + 1) (w.alloc (.cells #[.string l2, .string h2, .bool true] 29)) (by kernel_rfl) (by kernel_rfl) hba ?_
    repeat (go_big_quiet_step ((go_at_call 28; refine Calls.blw (v := .bool false) _ ((each_nil l2 h2 _ _).mono ?_); rintro e w' ⟨rfl, hb'⟩; exact ⟨rfl, hb'.mono (HSZ.out _)⟩)))
    refine wpQuiet_nil ?_
    rintro wb ⟨⟨_, hbb⟩, rfl⟩
    go_wp2_with fail
    refine wp_region_blw (w.heap.size + 1) (w.alloc (.cells #[.string l2, .string h2, .bool true] 29)) (by kernel_rfl) (by kernel_rfl) hbb ?_
    repeat (go_big_quiet_step ((go_at_call 31; refine Calls.blw (v := .bool false) _ ((startsAfter_all lo hi' l2 h2 all _).mono ?_); rintro e w' ⟨rfl, rfl⟩; exact ⟨rfl, below_of_two _ _ (HSZ.out _)⟩)))
    refine wpQuiet_nil ?_
    rintro wc ⟨⟨_, hbc⟩, rfl⟩
    go_wp2_with fail
    have HNE : Hid (∀ j, j < n → N j ≠ hb) := hne
    clear hne
    by_cases hs : seq < 18446744073709551615
    · cases txn with
      | none =>
        refine wp_region_blw (w.heap.size + 1) (w.alloc (.cells #[.string l2, .string h2, .bool true] 29)) (by kernel_rfl) (by kernel_rfl) hbc ?_
        repeat (go_big_quiet_step (fail))
        refine wpQuiet_nil ?_
        rintro wd ⟨⟨_, hbd⟩, rfl⟩
        go_wp2_with fail
        have d4 := i4 ⟨wd, hbd⟩
        have d0 := z0 ⟨wd, hbd⟩
        have d1 := z1 ⟨wd, hbd⟩
        have d2 := z2 ⟨wd, hbd⟩
        simp only at d4 d0 d1 d2
        have HB : Hid (Below (w.heap.size + 1) (w.alloc (.cells #[.string l2, .string h2, .bool true] 29)) wd) := hbd
        clear i0 i1 i2 i3 i4 i5 i7 i8 z0 z1 z2 hba hbb hbc hbd
        (first | go_region_with (first | (go_at_call 28; refine (rec_call HIH.out HRT.out HB.out HND.out HV.out hi).mono ?_; rintro e w' ⟨r, rfl, hr⟩)) | fail)
        all_goals
          go_wp2_with fail
          go_ret
          exact ⟨_, rfl, EachPost.later ‹_› (lowd HB.out) (by rw [← HI.out]; simp [okB])⟩
      | some t =>
        by_cases hov : (all || leB lo hi') = true
        · have HOV : Hid ((all || leB lo hi') = true) := hov
          clear hov
          have c0 := i0 ⟨wc, hbc⟩
          have c1 := i1 ⟨wc, hbc⟩
          have c2 := i2 ⟨wc, hbc⟩
          have c7 := i7 ⟨wc, hbc⟩
          have c8 := i8 ⟨wc, hbc⟩
          have d0 := z0 ⟨wc, hbc⟩
          have d1 := z1 ⟨wc, hbc⟩
          have d2 := z2 ⟨wc, hbc⟩
          have cv : wc.cell? ⟨hb, 0, none⟩ = some v0 := (hbc.cell (p := ⟨hb, 0, none⟩) (by show hb < _; omega)).trans ((World.cell?_alloc_lt _ _ _ hbl).trans HV.out.1)
          have fr : wc.frozen? ⟨hb, 0, none⟩ = false := (hbc.frozen (p := ⟨hb, 0, none⟩) (by show hb < _; omega)).trans ((World.frozen?_alloc_old _ _ _ (by show hb ≠ _; omega)).trans HV.out.2)
          simp only at c0 c1 c2 c7 c8 d0 d1 d2
          have ne1 : N i ≠ hb := HNE.out i hin
          have ne2 : w.heap.size ≠ hb := by omega
          have ne3 := ne1.symm
          have ne4 := ne2.symm
          clear i0 i1 i2 i3 i4 i5 i7 i8 z0 z1 z2
          have HB : Hid (Below (w.heap.size + 1) (w.alloc (.cells #[.string l2, .string h2, .bool true] 29)) wc) := hbc
          clear hba hbb hbc
          go_region_held3 (fun w' => w'.cell? ⟨N i, 0, none⟩ = some (.string lo) ∧ w'.cell? ⟨N i, 1, none⟩ = some (.string hi') ∧ w'.cell? ⟨N i, 2, none⟩ = some (.bool all) ∧ w'.cell? ⟨N i, 7, none⟩ = some (.int .u64 seq) ∧ w'.cell? ⟨N i, 8, none⟩ = some (.pointer (some t)) ∧
               w'.cell? ⟨w.heap.size, 0, none⟩ = some (.string l2) ∧  w'.cell? ⟨w.heap.size, 1, none⟩ = some (.string h2) ∧ w'.cell? ⟨w.heap.size, 2, none⟩ = some (.bool true)) (go_keep)
              (first | (go_at_call 26; refine (overlaps_true lo hi' l2 h2 all _ HOV.out).mono ?_; rintro e w' ⟨rfl, rfl⟩) | (go_at_call 20; refine (closure_any _ hb 0 v0 _ ?_ ?_ _ rfl).mono ?_; (exact cell_two _ _ cv); (exact frozen_two _ _ cv fr); rintro e w' ⟨rfl, rfl⟩))
          go_wp2_with fail
          go_ret
          refine ⟨true, rfl, Or.inr ⟨rfl, i, ((wc.alloc (rngObj lo hi' all)).alloc (rngObj l2 h2 true)).drew, Nat.le_refl _, hin, ?_, fun k h1 h2 => by omega, ?_, rfl⟩⟩
          · rw [← HI.out]
            have h := HOV.out
            have hs' : decide (seq < mxu) = true := by unfold mxu; simpa using hs
            simp only [okB, hs', Option.isSome_some, Bool.and_self, Bool.true_and]
            exact h
          · exact (lowd (Below.alloc (Below.alloc HB.out (le_sized HB.out) _) (le_sized1 HB.out) _)).drew
        · have hov' : (all || leB lo hi') = false := by simpa using hov
          have HOV : Hid ((all || leB lo hi') = false) := hov'
          clear hov hov'
          refine wp_region_blw (w.heap.size + 1) (w.alloc (.cells #[.string l2, .string h2, .bool true] 29)) (by kernel_rfl) (by kernel_rfl) hbc ?_
          repeat (go_big_quiet_step ((go_at_call 26; refine Calls.blw (v := .bool false) _ ((overlaps_false lo hi' l2 h2 all _ HOV.out).mono ?_); rintro e w' ⟨rfl, rfl⟩; exact ⟨rfl, below_of_two _ _ (HSZ.out _)⟩)))
          refine wpQuiet_nil ?_
          rintro wd ⟨⟨_, hbd⟩, rfl⟩
          go_wp2_with fail
          have d4 := i4 ⟨wd, hbd⟩
          have d0 := z0 ⟨wd, hbd⟩
          have d1 := z1 ⟨wd, hbd⟩
          have d2 := z2 ⟨wd, hbd⟩
          simp only at d4 d0 d1 d2
          have HB : Hid (Below (w.heap.size + 1) (w.alloc (.cells #[.string l2, .string h2, .bool true] 29)) wd) := hbd
          clear i0 i1 i2 i3 i4 i5 i7 i8 z0 z1 z2 hba hbb hbc hbd
          (first | go_region_with (first | (go_at_call 28; refine (rec_call HIH.out HRT.out HB.out HND.out HV.out hi).mono ?_; rintro e w' ⟨r, rfl, hr⟩)) | fail)
          all_goals
            go_wp2_with fail
            go_ret
            exact ⟨_, rfl, EachPost.later ‹_› (lowd HB.out) (by rw [← HI.out]; have h := HOV.out; simp only [okB, h, Bool.and_false])⟩
    · have hd : decide (seq < 18446744073709551615) = false := by simpa using hs
      refine wp_region_blw (w.heap.size + 1) (w.alloc (.cells #[.string l2, .string h2, .bool true] 29)) (by kernel_rfl) (by kernel_rfl) hbc ?_
      repeat (go_big_quiet_step (fail))
      refine wpQuiet_nil ?_
      rintro wd ⟨⟨_, hbd⟩, rfl⟩
      go_wp2_with fail
      have d4 := i4 ⟨wd, hbd⟩
      have d0 := z0 ⟨wd, hbd⟩
      have d1 := z1 ⟨wd, hbd⟩
      have d2 := z2 ⟨wd, hbd⟩
      simp only at d4 d0 d1 d2
      have HB : Hid (Below (w.heap.size + 1) (w.alloc (.cells #[.string l2, .string h2, .bool true] 29)) wd) := hbd
      clear i0 i1 i2 i3 i4 i5 i7 i8 z0 z1 z2 hba hbb hbc hbd
      (first | go_region_with (first | (go_at_call 28; refine (rec_call HIH.out HRT.out HB.out HND.out HV.out hi).mono ?_; rintro e w' ⟨r, rfl, hr⟩)) | fail)
      all_goals
        go_wp2_with fail
        go_ret
        exact ⟨_, rfl, EachPost.later ‹_› (lowd HB.out) (by rw [← HI.out]; exact ok_late _ _ _ _ (by omega))⟩
end Go.Proofs.Ybulkdfqa
