/-
  WALK OF LawS5343ADrain; a slice of items that came in, opened.
-/
import Derived.Test.YbulkdfqaA10
import Derived.Lib.Builder
namespace Go.Proofs.Ybulkdfqa
open Go.RowKit
set_option linter.unusedVariables false
set_option linter.unusedSimpArgs false

theorem neqP25 (a : Addr) (w : World) : (binOp .neq 25 (.pointer (some a)) (.pointer (some a))).run Yba.prog w = .ok (.bool false) w := by
  have h : (Yba.prog.info? 35).isSome = true := by kernel_rfl
  obtain ⟨j, hj⟩ := Option.isSome_iff_exists.1 h
  exact Go.Lib.run_neq_ptr_same w a Yba.underlying25 hj

/-- THE STATE OF LawS5343ADrain's LOOP, the items below k taken out -/
structure DInv (w wr : World) (g n k : Nat) (D : Dat) (p : Option Nat) (S : St) (xs : List Nat) : Prop where
  holds : Holds wr g n D S
  tree : Tree D S p xs
  srt : Srt D xs
  mem : ∀ x, x ∈ xs ↔ k ≤ x ∧ x < n
  below : Below w.heap.size w wr
  gle : w.heap.size ≤ g

theorem dinv_step {w wr w1 : World} {g n k : Nat} {D : Dat} {p r : Option Nat} {S S1 : St} {xs : List Nat} {o : Obj} (h : DInv w wr g n k D p S xs) (hk : k < n) (hH : Holds w1 g n D S1) (hR : RemOK D S S1 xs k r)
    (hO : Oth g wr.heap.size (wr.alloc o).drew w1) : ∃ xs', DInv w w1 g n (k + 1) D r S1 xs' := by
  obtain ⟨⟨la, lb, hx, ht⟩, hag⟩ := hR
  have hnd := h.srt.nodup
  have hs := h.srt
  rw [hx] at hnd hs
  obtain ⟨n1, n2, _, _, _⟩ := nodup_parts hnd
  refine ⟨la ++ lb, hH, ht, srt_rem hs, fun x => ?_, ?_, h.gle⟩
  · have hm := h.mem x
    rw [hx] at hm
    simp only [List.mem_append, List.mem_cons] at hm ⊢
    constructor
    · rintro (h1 | h1)
      · have h2 := hm.1 (Or.inl h1)
        have : x ≠ k := fun e => n1 (e ▸ h1)
        omega
      · have h2 := hm.1 (Or.inr (Or.inr h1))
        have : x ≠ k := fun e => n2 (e ▸ h1)
        omega
    · intro h1
      rcases hm.2 (by omega) with h2 | h2 | h2
      · exact Or.inl h2
      · omega
      · exact Or.inr h2
  · have hb1 : Below w.heap.size w (wr.alloc o).drew := (h.below.alloc h.below.size o).drew
    exact hb1.trans (hO.below hb1.size h.gle (h.below.size))

theorem dinv_end {w wr : World} {g n : Nat} {D : Dat} {p : Option Nat} {S : St} {xs : List Nat} (h : DInv w wr g n n D p S xs) : p = none := by
  cases p with
  | none => rfl
  | some r => have := (h.mem r).1 h.tree.head_mem; omega

set_option maxHeartbeats 2000000 in
set_option maxRecDepth 100000 in
theorem drain_small (a : Option Addr) (n cap : Nat) (X : Nat → SrcA) (w : World) (hn0 : 0 < n) (hn : n ≤ 1024) (hX : IsItemsA w a n X) :
    Calls Yba.prog 4 #[.slice a n cap] w fun e w' => e = .returned (.bool true) ∧ Below w.heap.size w w' := by
  have hz : ((n : Int) == 0) = false := by simp; omega
  have hz2 : (n : Int) ≤ 1024 := by omega
  have CB := hid (abuild_any a n cap X w hn hX)
  clear hX
  go_enter Yba.func4, Yba.ntmps4
  go_wp2_with fail
  refine CB.out.mono ?_
  rintro e w1 ⟨p, S, xs, rfl, hI⟩
  obtain ⟨D, hD⟩ : ∃ D, D = Dz (datOf X) n := ⟨_, rfl⟩
  have hI0 : DInv w w1 w.heap.size n 0 D p S xs := by
    rw [hD]; exact ⟨hI.holds, hI.tree, hI.srt, fun x => by rw [hI.mem x]; omega, hI.below, Nat.le_refl _⟩
  have HI0 := hid hI0
  clear hI hI0 hD
  obtain ⟨g, hg⟩ : ∃ g, g = w.heap.size := ⟨_, rfl⟩
  rw [← hg] at HI0 ⊢
  obtain ⟨u, hu⟩ : ∃ u, u = adrO g p := ⟨_, rfl⟩
  rw [← hu]
  have HU := hid (And.intro hg hu)
  clear hg hu
  go_wp2_with fail
  go_loopw [4, 22] (fun t i wr => ∃ k : Nat, k ≤ n ∧ i = .int .i64 k ∧ ∃ pp S xs, t = .pointer (adrO g pp) ∧ DInv w wr g n k D pp S xs) (fun _ i _ => n - (intOf i).toNat)
  case atStart => exact ⟨0, Nat.zero_le _, rfl, p, S, xs, by rw [← HU.out.2], HI0.out⟩
  case round =>
    obtain ⟨k, hk, rfl, pp, S, xs, rfl, hI⟩ := hrel
    by_cases hlt : k < n
    · obtain ⟨dt, ht⟩ := hI.tree
      have hH := hI.holds.alloc (.cells #[.pointer none] 25)
      have gw : g < wr.heap.size := hI.holds.lt
      have hrg : wr.heap.size ≠ g := by omega
      have CR := remove_any g n wr.heap.size D k hrg dt S pp xs (wr.alloc (.cells #[.pointer none] 25)).drew hH ht ((hI.mem k).2 ⟨Nat.le_refl _, hlt⟩) hI.srt (fun x hx => ((hI.mem x).1 hx).2) (.pointer none)
        (by show (wr.alloc (.cells #[.pointer none] 25)).cell? _ = _; simp) (by show (wr.alloc (.cells #[.pointer none] 25)).frozen? _ = _; simp)
      have k0 := hH.cell0 hlt
      have k1 := hH.cell1 hlt
      have k2 := hH.cell2 hlt
      have k7 := hH.cell7 hlt
      obtain ⟨u, hu⟩ : ∃ u, u = adrO g pp := ⟨_, rfl⟩
      rw [← hu] at CR ⊢
      simp only [kyV] at CR
      have HCR := hid CR
      have HI := hid hI
      clear CR hI hH ht hu
      have heq := neqP25
      go_wp2_with fail
      (first | go_region_with (first | (go_at_call 8; refine HCR.out.mono ?_; rintro e w1 ⟨S1, r, rfl, hH1, hR1, hO1, hv1, hf1⟩; obtain ⟨ur, hur⟩ : ∃ u, u = adrO g r := ⟨_, rfl⟩; (rw [← hur]); have HR := hid (And.intro hH1 (And.intro hR1 (And.intro hO1 (And.intro hf1 hur)))); clear hH1 hR1 hO1 hf1 hur)) | fail)
      all_goals
        go_wp2_with fail
        go_quiet (fail)
        go_wp2_with fail
        go_roundw
        case rel =>
          obtain ⟨hH1, hR1, hO1, hf1, hur⟩ := HR.out
          obtain ⟨xs', hF⟩ := dinv_step HI.out hlt hH1 hR1 hO1
          exact ⟨k + 1, by omega, by go_num, r, S1, xs', by rw [← hur], ⟨hF.holds, hF.tree, hF.srt, hF.mem, below_drewN hF.below _, hF.gle⟩⟩
        case measure => simp [intOf]; omega
    · have hkn : k = n := by omega
      subst hkn
      have e := dinv_end hI
      subst e
      have HI := hid hI
      clear hI
      simp only [adrO]
      go_wp2_with fail
      go_ret
      exact ⟨rfl, HI.out.below⟩

set_option maxHeartbeats 1000000 in
theorem drain_any (a : Option Addr) (n cap : Nat) (X : Nat → SrcA) (w : World) (hX : IsItemsA w a n X) :
    Calls Yba.prog 4 #[.slice a n cap] w fun e w' => e = .returned (.bool true) ∧ Below w.heap.size w w' := by
  by_cases h0 : n = 0
  · subst h0
    clear hX
    go_enter Yba.func4, Yba.ntmps4
    go_wp2_with fail
    go_ret
    exact ⟨rfl, Below.refl _ _⟩
  · by_cases h1 : n ≤ 1024
    · exact drain_small a n cap X w (by omega) h1 hX
    · have hz : ((n : Int) == 0) = false := by simp; omega
      have hz2 : (1024 : Int) < n := by omega
      clear hX
      go_enter Yba.func4, Yba.ntmps4
      go_wp2_with fail
      go_ret
      exact ⟨rfl, Below.refl _ _⟩

theorem Yba.cells85 : Yba.prog.cellsOf 85 = 4 := by kernel_rfl
theorem Yba.cellsA33 : Yba.prog.cellsOf 33 = 1 := by kernel_rfl
theorem Yba.cellsA4 : Yba.prog.cellsOf 4 = 1 := by kernel_rfl
theorem Yba.cellsA9 : Yba.prog.cellsOf 9 = 1 := by kernel_rfl

set_option maxRecDepth 100000 in
theorem open_itemA {H : Type} {enc : TypeId × Value → H} {w : World} {base : Nat} {spare : Nat → Bool} {held : Bool} {k : Nat} {cs : List Value} {y : DataW H × List MemPlace}
    (h : DataW.trod enc Yba.prog w base spare held k 85 cs = some y) : ∃ x : SrcA, cs = [.string x.lo, .string x.hi, .bool x.all, .int .u32 x.prio] := by
  obtain ⟨xs, n, _, _, hl, hlen, hf⟩ := DataW.trod_struct Yba.underlying85 h
  rw [Yba.cells85] at hl
  match cs, hl with
  | [c0, c1, c2, c3], _ =>
    match xs, hlen with
    | [y0, y1, y2, y3], _ =>
      have f0 := hf 0 _ rfl
      have f1 := hf 1 _ rfl
      have f2 := hf 2 _ rfl
      have f3 := hf 3 _ rfl
      simp [Yba.cellsA33, Yba.cellsA4, Yba.cellsA9] at f0 f1 f2 f3
      obtain ⟨s0, e0, _⟩ := DataW.trod_string Yba.underlying9 f0
      obtain ⟨s1, e1, _⟩ := DataW.trod_string Yba.underlying9 f1
      obtain ⟨b2, e2, _⟩ := DataW.trod_bool Yba.underlying4 f2
      obtain ⟨n3, e3, _, _⟩ := DataW.trod_int Yba.underlying33 f3
      simp at e0 e1 e2 e3
      subst e0 e1 e2 e3
      exact ⟨⟨s0, s1, b2, n3⟩, rfl⟩

set_option maxRecDepth 100000 in
theorem open_itemsA {H : Type} {enc : TypeId × Value → H} {w : World} {base : Nat} {spare : Nat → Bool} {held : Bool} {k : Nat} {a : Option Addr} {n cap : Nat} {y : DataW H × List MemPlace}
    (h : DataW.trod enc Yba.prog w base spare held k 22 [.slice a n cap] = some y) : ∃ X, IsItemsA w a n X := by
  rcases Go.Deep.open_slice Yba.underlying22 h with ⟨hcs, _⟩ | ⟨ad, len, cp, m, k', D, Pl, hcs, hb, hl, hm, hmm, hx, hall⟩
  · simp at hcs
    obtain ⟨rfl, rfl, rfl⟩ := hcs
    exact ⟨fun _ => ⟨ByteArray.empty, ByteArray.empty, false, 0⟩, Or.inl rfl⟩
  · simp at hcs
    obtain ⟨rfl, rfl, rfl⟩ := hcs
    have hnm : n ≤ m := by rw [hmm]; split <;> omega
    rw [Yba.cells85] at hall
    haveI : Inhabited SrcA := ⟨⟨ByteArray.empty, ByteArray.empty, false, 0⟩⟩
    obtain ⟨X, hX⟩ := Go.Deep.choose_lt (n := n) (p := fun i (x : SrcA) => w.cells? base (ad.add (i * 4)) 4 = some [.string x.lo, .string x.hi, .bool x.all, .int .u32 x.prio]) (fun i hi => by
      obtain ⟨cs', h1, h2⟩ := hall i (by omega)
      obtain ⟨x, rfl⟩ := open_itemA h2
      exact ⟨x, h1⟩)
    refine ⟨X, ?_⟩
    by_cases h0 : n = 0
    · exact Or.inl h0
    right
    obtain ⟨b, off, spot⟩ := ad
    have hs : spot = none := by
      obtain ⟨_, _, hc⟩ := World.cells?_some (hX 0 (by omega))
      have := hc 0 (by omega)
      simpa [Addr.add] using World.cell?_spot this
    subst hs
    refine ⟨b, off, rfl, fun i hi => ?_⟩
    obtain ⟨_, _, hc⟩ := World.cells?_some (hX i hi)
    have e : ∀ j, (Addr.add ⟨b, off, none⟩ (i * 4)).add j = ⟨b, off + i * 4 + j, none⟩ := fun j => by rw [Go.Deep.add_add, Addr.add_lit, Nat.add_assoc]
    refine ⟨?_, ?_, ?_, ?_⟩
    · have := hc 0 (by omega); rw [e] at this; simpa using this
    · have := hc 1 (by omega); rw [e] at this; simpa using this
    · have := hc 2 (by omega); rw [e] at this; simpa using this
    · have := hc 3 (by omega); rw [e] at this; simpa using this
end Go.Proofs.Ybulkdfqa
