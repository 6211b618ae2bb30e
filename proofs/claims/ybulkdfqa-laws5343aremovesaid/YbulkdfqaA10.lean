/-
  WALK OF zzs5343abuild.
-/
import Derived.Test.YbulkdfqaA9
import Derived.Deep.Slices
import Derived.OpenShut
namespace Go.Proofs.Ybulkdfqa
open Go.RowKit
set_option linter.unusedVariables false
set_option linter.unusedSimpArgs false

def zeroNode : Array Value := #[.string ⟨#[]⟩, .string ⟨#[]⟩, .bool false, .pointer none, .pointer none, .pointer none, .int .u64 0, .int .u64 0, .pointer none, .int .u8 0, .int .u32 0, .pointer none]
theorem Yba.info35 : (Yba.prog.info? 35).map (fun i => (i.zero, i.size, i.bytes)) = some (some (.agg zeroNode), 12, 104) := by kernel_rfl

/-- make([]keyItem, n) -/
theorem run_make35 (n : Nat) (hn : n ≤ 1024) (w : World) :
    (Instr.makeSlice 24 (.int .i64 (n : Int)) (.int .i64 (n : Int))).run Yba.prog w = .ok (.slice (some ⟨w.heap.size, 0, none⟩) n n) (w.alloc (.cells (madeCells zeroNode (n * 12)) 35)) := by
  obtain ⟨i, hi, hz, hs, hb⟩ := info_parts Yba.info35
  have hr := run_make (P := Yba.prog) w 24 35 i (.agg zeroNode) Yba.underlying24 hi hz .i64 .i64 n n (by omega) (Int.le_refl _) (by rw [hb]; omega) (by omega)
  simp only [Int.toNat_natCast, hs] at hr
  exact hr

/-- the data of the first k items; the others are still zero -/
def Dz (D : Dat) (k : Nat) : Dat where
  key i := if i < k then D.key i else ⟨⟨#[]⟩, ⟨#[]⟩, false⟩
  seq i := if i < k then D.seq i else 0
  prio i := if i < k then D.prio i else 0

def St0 : St := ⟨fun _ => none, fun _ => none, fun _ => none, fun _ => 0⟩

theorem made_holds (w : World) (n : Nat) (D : Dat) : Holds (w.alloc (.cells (madeCells zeroNode (n * 12)) 35)) w.heap.size n (Dz D 0) St0 := by
  refine ⟨_, Go.Deep.blk_alloc_new _ _, size_madeCells _ _, fun k hk => ?_⟩
  unfold madeCells
  simp only [Array.getElem?_map, Array.getElem?_range, hk, if_true, Option.map_some]
  unfold cellOf
  have h12 : k % 12 < 12 := Nat.mod_lt _ (by omega)
  show some (zeroNode[k % 12]!) = some (fieldV w.heap.size (Dz D 0) St0 (k / 12) (k % 12))
  congr 1
  generalize k % 12 = c at h12
  match c, h12 with
  | 0, _ => rfl | 1, _ => rfl | 2, _ => rfl | 3, _ => rfl | 4, _ => rfl | 5, _ => rfl | 6, _ => rfl | 7, _ => rfl | 8, _ => rfl | 9, _ => rfl | 10, _ => rfl | 11, _ => rfl

/-- an item of the input -/
structure SrcA where
  lo : ByteArray
  hi : ByteArray
  all : Bool
  prio : Int

def IsItemsA (w : World) (a : Option Addr) (n : Nat) (X : Nat → SrcA) : Prop :=
  n = 0 ∨ ∃ b off, a = some ⟨b, off, none⟩ ∧ ∀ i, i < n →
    w.cell? ⟨b, off + i * 4, none⟩ = some (.string (X i).lo) ∧ w.cell? ⟨b, off + i * 4 + 1, none⟩ = some (.string (X i).hi) ∧ w.cell? ⟨b, off + i * 4 + 2, none⟩ = some (.bool (X i).all) ∧
    w.cell? ⟨b, off + i * 4 + 3, none⟩ = some (.int .u32 (X i).prio)

def datOf (X : Nat → SrcA) : Dat := ⟨fun i => ⟨(X i).lo, (X i).hi, (X i).all⟩, fun i => (i : Int) + 1, fun i => (X i).prio⟩

/-- twelve stores: node k is laid anew -/
theorem holds_put {w : World} {g n k : Nat} {D D' : Dat} {S : St} {v0 v1 v2 v3 v4 v5 v6 v7 v8 v9 v10 v11 : Value} (h : Holds w g n D S) (hk : k < n)
    (hk' : ∀ d, d < 12 → fieldV g D' S k d = [v0, v1, v2, v3, v4, v5, v6, v7, v8, v9, v10, v11].getD d (.pointer none)) (ho : ∀ j d, j ≠ k → fieldV g D' S j d = fieldV g D S j d) :
    Holds ((((((((((((w.setCell ⟨g, k * 12, none⟩ v0).setCell ⟨g, k * 12 + 1, none⟩ v1).setCell ⟨g, k * 12 + 2, none⟩ v2).setCell ⟨g, k * 12 + 3, none⟩ v3).setCell ⟨g, k * 12 + 4, none⟩ v4).setCell ⟨g, k * 12 + 5, none⟩ v5).setCell ⟨g, k * 12 + 6, none⟩ v6).setCell ⟨g, k * 12 + 7, none⟩ v7).setCell ⟨g, k * 12 + 8, none⟩ v8).setCell ⟨g, k * 12 + 9, none⟩ v9).setCell ⟨g, k * 12 + 10, none⟩ v10).setCell ⟨g, k * 12 + 11, none⟩ v11) g n D' S := by
  refine World.rowIs.congr (World.rowIs.set (World.rowIs.set (World.rowIs.set (World.rowIs.set (World.rowIs.set (World.rowIs.set (World.rowIs.set (World.rowIs.set (World.rowIs.set (World.rowIs.set (World.rowIs.set (World.rowIs.set h (k * 12) v0) (k * 12 + 1) v1) (k * 12 + 2) v2) (k * 12 + 3) v3) (k * 12 + 4) v4) (k * 12 + 5) v5) (k * 12 + 6) v6) (k * 12 + 7) v7) (k * 12 + 8) v8) (k * 12 + 9) v9) (k * 12 + 10) v10) (k * 12 + 11) v11) (fun o hlt => ?_)
  show _ = fieldV g D' S (o / 12) (o % 12)
  by_cases e : o / 12 = k
  · have hc : o % 12 < 12 := Nat.mod_lt _ (by omega)
    have eo : o = k * 12 + o % 12 := by omega
    rw [e, hk' _ hc]
    generalize o % 12 = c at hc eo
    subst eo
    match c, hc with
    | 0, _ => simp | 1, _ => simp | 2, _ => simp | 3, _ => simp | 4, _ => simp | 5, _ => simp | 6, _ => simp | 7, _ => simp | 8, _ => simp | 9, _ => simp | 10, _ => simp | 11, _ => simp
  · rw [ho _ _ e]
    have n0 : ∀ c, c < 12 → ¬ o = k * 12 + c := fun c hc => by omega
    have n00 : ¬ o = k * 12 := by omega
    simp only [if_neg n00, if_neg (n0 1 (by omega)), if_neg (n0 2 (by omega)), if_neg (n0 3 (by omega)), if_neg (n0 4 (by omega)), if_neg (n0 5 (by omega)), if_neg (n0 6 (by omega)), if_neg (n0 7 (by omega)), if_neg (n0 8 (by omega)), if_neg (n0 9 (by omega)), if_neg (n0 10 (by omega)), if_neg (n0 11 (by omega))]
    rfl

theorem Tr.dcarry {D D' : Dat} {S : St} : ∀ {d : Nat} {p : Option Nat} {xs : List Nat}, Tr D S d p xs → (∀ j ∈ xs, D'.key j = D.key j ∧ D'.seq j = D.seq j ∧ D'.prio j = D.prio j) → Tr D' S d p xs
  | 0, _, _, h, _ => h
  | d + 1, _, xs, h, hs => by
    rcases h with h | ⟨i, ls, rs, hp, hx, hl, hr, hh, m, hm, hl2, hm2⟩
    · exact Or.inl h
    · subst hx
      refine Or.inr ⟨i, ls, rs, hp, rfl, hl.dcarry fun j hj => hs j (by simp [hj]), hr.dcarry fun j hj => hs j (by simp [hj]), fun j hj => ?_, m, hm, ?_, ?_⟩
      · rw [(hs j (by rcases List.mem_append.1 hj with h | h <;> simp [h])).2.2, (hs i (by simp)).2.2]; exact hh j hj
      · exact ⟨hl2.1, fun x hx => by rw [(hs x hx).1, (hs m hl2.1).1]; exact hl2.2 x hx⟩
      · obtain ⟨⟨x, hx, e⟩, h2⟩ := hm2
        exact ⟨⟨x, hx, by rw [(hs x hx).2.1]; exact e⟩, fun y hy => by rw [(hs y hy).2.1]; exact h2 y hy⟩

theorem Srt.dcarry {D D' : Dat} : ∀ {xs : List Nat}, Srt D xs → (∀ j ∈ xs, D'.key j = D.key j ∧ D'.seq j = D.seq j) → Srt D' xs
  | [], _, _ => List.Pairwise.nil
  | a :: xs, h, hs => by
    unfold Srt at h ⊢
    rw [List.pairwise_cons] at h ⊢
    refine ⟨fun b hb => ?_, Srt.dcarry h.2 fun j hj => hs j (by simp [hj])⟩
    have := h.1 b hb
    unfold Dat.ord at this ⊢
    rw [(hs a (by simp)).1, (hs a (by simp)).2, (hs b (by simp [hb])).1, (hs b (by simp [hb])).2]
    exact this

/-- THE STATE OF zzs5343abuild, k ITEMS INSERTED -/
structure ABInv (w wr : World) (n k : Nat) (D : Dat) (p : Option Nat) (S : St) (xs : List Nat) : Prop where
  holds : Holds wr w.heap.size n (Dz D k) S
  tree : Tree (Dz D k) S p xs
  srt : Srt (Dz D k) xs
  mem : ∀ x, x ∈ xs ↔ x < k
  rest : ∀ j, k ≤ j → S.left j = none ∧ S.right j = none ∧ S.last j = none ∧ S.ms j = 0
  below : Below w.heap.size w wr

theorem dz_at (D : Dat) {k j : Nat} (h : j < k) : (Dz D k).key j = D.key j ∧ (Dz D k).seq j = D.seq j ∧ (Dz D k).prio j = D.prio j := by simp [Dz, h]
theorem dz_step (D : Dat) {k j : Nat} (h : j < k) : (Dz D (k + 1)).key j = (Dz D k).key j ∧ (Dz D (k + 1)).seq j = (Dz D k).seq j ∧ (Dz D (k + 1)).prio j = (Dz D k).prio j := by
  have h' : j < k + 1 := by omega
  simp [Dz, h, h']

theorem dz_other (g : Nat) (D : Dat) (S : St) (k j d : Nat) (h : j ≠ k) : fieldV g (Dz D (k + 1)) S j d = fieldV g (Dz D k) S j d := by
  have e : (j < k + 1) = (j < k) := by apply propext; omega
  have e1 : (Dz D (k + 1)).key j = (Dz D k).key j := by simp only [Dz, e]
  have e2 : (Dz D (k + 1)).seq j = (Dz D k).seq j := by simp only [Dz, e]
  have e3 : (Dz D (k + 1)).prio j = (Dz D k).prio j := by simp only [Dz, e]
  unfold fieldV
  rw [e1, e2, e3]

/-- node k laid: ready for insert -/
theorem abinv_lay {w wr : World} {n k : Nat} {X : Nat → SrcA} {p : Option Nat} {S : St} {xs : List Nat} (h : ABInv w wr n k (datOf X) p S xs) (hk : k < n) (o : Obj) :
    Holds (((((((((((((wr.alloc o).setCell ⟨w.heap.size, k * 12, none⟩ (.string (X k).lo)).setCell ⟨w.heap.size, k * 12 + 1, none⟩ (.string (X k).hi)).setCell ⟨w.heap.size, k * 12 + 2, none⟩ (.bool (X k).all)).setCell ⟨w.heap.size, k * 12 + 3, none⟩ (.pointer none)).setCell ⟨w.heap.size, k * 12 + 4, none⟩ (.pointer none)).setCell ⟨w.heap.size, k * 12 + 5, none⟩ (.pointer none)).setCell ⟨w.heap.size, k * 12 + 6, none⟩ (.int .u64 0)).setCell ⟨w.heap.size, k * 12 + 7, none⟩ (.int .u64 (↑k + 1))).setCell ⟨w.heap.size, k * 12 + 8, none⟩ (.pointer none)).setCell ⟨w.heap.size, k * 12 + 9, none⟩ (.int .u8 0)).setCell ⟨w.heap.size, k * 12 + 10, none⟩ (.int .u32 (X k).prio)).setCell ⟨w.heap.size, k * 12 + 11, none⟩ (.pointer none)) w.heap.size n (Dz (datOf X) (k + 1)) S := by
  refine holds_put (h.holds.alloc o) hk (fun d hd => ?_) (fun j d hj => dz_other _ _ _ _ _ _ hj)
  obtain ⟨r1, r2, r3, r4⟩ := h.rest k (Nat.le_refl _)
  obtain ⟨a1, a2, a3⟩ := dz_at (datOf X) (show k < k + 1 by omega)
  match d, hd with
  | 0, _ => simp only [fieldV, a1]; rfl
  | 1, _ => simp only [fieldV, a1]; rfl
  | 2, _ => simp only [fieldV, a1]; rfl
  | 3, _ => simp [fieldV, r1, ptrV, adrO]
  | 4, _ => simp [fieldV, r2, ptrV, adrO]
  | 5, _ => simp [fieldV, r3, ptrV, adrO]
  | 6, _ => simp [fieldV, r4]
  | 7, _ => simp only [fieldV, a2]; rfl
  | 8, _ => rfl
  | 9, _ => rfl
  | 10, _ => simp only [fieldV, a3]; rfl
  | 11, _ => rfl

theorem abinv_below {w wr : World} (hb : Below w.heap.size w wr) (k : Nat) (o : Obj) (v0 v1 v2 v3 v4 v5 v6 v7 v8 v9 v10 v11 : Value) :
    Below w.heap.size w (((((((((((((wr.alloc o).setCell ⟨w.heap.size, k * 12, none⟩ v0).setCell ⟨w.heap.size, k * 12 + 1, none⟩ v1).setCell ⟨w.heap.size, k * 12 + 2, none⟩ v2).setCell ⟨w.heap.size, k * 12 + 3, none⟩ v3).setCell ⟨w.heap.size, k * 12 + 4, none⟩ v4).setCell ⟨w.heap.size, k * 12 + 5, none⟩ v5).setCell ⟨w.heap.size, k * 12 + 6, none⟩ v6).setCell ⟨w.heap.size, k * 12 + 7, none⟩ v7).setCell ⟨w.heap.size, k * 12 + 8, none⟩ v8).setCell ⟨w.heap.size, k * 12 + 9, none⟩ v9).setCell ⟨w.heap.size, k * 12 + 10, none⟩ v10).setCell ⟨w.heap.size, k * 12 + 11, none⟩ v11) :=
  ((((((((((((hb.alloc hb.size o).setCell (Nat.le_refl _) _).setCell (Nat.le_refl _) _).setCell (Nat.le_refl _) _).setCell (Nat.le_refl _) _).setCell (Nat.le_refl _) _).setCell (Nat.le_refl _) _).setCell (Nat.le_refl _) _).setCell (Nat.le_refl _) _).setCell (Nat.le_refl _) _).setCell (Nat.le_refl _) _).setCell (Nat.le_refl _) _).setCell (Nat.le_refl _) _

/-- the insertion of item k -/
theorem abinv_ins {w wr wr' W : World} {n k r : Nat} {X : Nat → SrcA} {p : Option Nat} {S S' : St} {xs : List Nat} (h : ABInv w wr n k (datOf X) p S xs) (hb : Below w.heap.size w W)
    (hH : Holds wr' w.heap.size n (Dz (datOf X) (k + 1)) S') (hI : InsOK (Dz (datOf X) (k + 1)) S S' xs k r) (hO : Oth w.heap.size w.heap.size W wr') :
    ∃ xs', ABInv w wr' n (k + 1) (datOf X) (some r) S' xs' := by
  obtain ⟨⟨la, lb, hx, ha, hb', ht⟩, hag⟩ := hI
  refine ⟨la ++ k :: lb, hH, ht, ?_, fun x => ?_, fun j hj => ?_, hb.trans (hO.below hb.size (Nat.le_refl _) (Nat.le_refl _))⟩
  · refine srt_ins ?_ ha hb'
    rw [← hx]
    exact h.srt.dcarry fun j hj => ⟨(dz_step _ ((h.mem j).1 hj)).1, (dz_step _ ((h.mem j).1 hj)).2.1⟩
  · have hm := h.mem x
    rw [hx] at hm
    simp only [List.mem_append, List.mem_cons] at hm ⊢
    constructor
    · rintro (h1 | h1 | h1)
      · have := hm.1 (Or.inl h1); omega
      · omega
      · have := hm.1 (Or.inr h1); omega
    · intro h1
      by_cases e : x = k
      · exact Or.inr (Or.inl e)
      · rcases hm.2 (by omega) with h2 | h2
        · exact Or.inl h2
        · exact Or.inr (Or.inr h2)
  · have hs := hag j (fun hj' => by have := (h.mem j).1 hj'; omega) (by omega)
    obtain ⟨r1, r2, r3, r4⟩ := h.rest j (by omega)
    exact ⟨hs.1.trans r1, hs.2.1.trans r2, hs.2.2.1.trans r3, hs.2.2.2.trans r4⟩

set_option maxHeartbeats 2000000 in
set_option maxRecDepth 100000 in
theorem abuild_any (a : Option Addr) (n cap : Nat) (X : Nat → SrcA) (w : World) (hn : n ≤ 1024) (hX : IsItemsA w a n X) :
    Calls Yba.prog 7 #[.slice a n cap] w fun e w' => ∃ p S xs, e = .returned (.tuple #[.slice (some ⟨w.heap.size, 0, none⟩) n n, .pointer (adrO w.heap.size p)]) ∧ ABInv w w' n n (datOf X) p S xs := by
  have hmk := run_make35 n hn
  have HX : Hid (IsItemsA w a n X) := hX
  clear hX
  go_enter Yba.func7, Yba.ntmps7
  go_wp2_with fail
  go_loopw [5, 13] (fun p i wr => ∃ k : Nat, k ≤ n ∧ i = .int .i64 k ∧ ∃ pp S xs, p = .pointer (adrO w.heap.size pp) ∧ ABInv w wr n k (datOf X) pp S xs) (fun _ i _ => n - (intOf i).toNat)
  case atStart =>
    exact ⟨0, Nat.zero_le _, rfl, none, St0, [], rfl, made_holds w n _, Tree.empty _ _, List.Pairwise.nil, fun x => by simp, fun j _ => ⟨rfl, rfl, rfl, rfl⟩, (Below.refl _ _).alloc (Nat.le_refl _) _⟩
  case round =>
    obtain ⟨k, hk, rfl, pp, S, xs, rfl, hI⟩ := hrel
    by_cases hlt : k < n
    · rcases HX.out with h0 | ⟨b, off, rfl, hc⟩
      · omega
      obtain ⟨c0, c1, c2, c3⟩ := hc k hlt
      have hbl : b < w.heap.size := World.block_lt_of_cell? _ _ c0
      have d0 := (hI.below.cell (p := ⟨b, off + k * 4, none⟩) hbl).trans c0
      have d1 := (hI.below.cell (p := ⟨b, off + k * 4 + 1, none⟩) hbl).trans c1
      have d2 := (hI.below.cell (p := ⟨b, off + k * 4 + 2, none⟩) hbl).trans c2
      have d3 := (hI.below.cell (p := ⟨b, off + k * 4 + 3, none⟩) hbl).trans c3
      clear c0 c1 c2 c3 hc
      have hH := hI.holds
      have cc : ∀ (o : Obj) (j : Nat), j < 12 → ∃ v, (wr.alloc o).cell? ⟨w.heap.size, k * 12 + j, none⟩ = some v := fun o j hj => ⟨_, (hH.alloc o).cell hlt j hj⟩
      have fz : ∀ (o : Obj) (j : Nat), (wr.alloc o).frozen? ⟨w.heap.size, j, none⟩ = false := fun o j => (hH.alloc o).frz j
      obtain ⟨v0, e0⟩ := cc (.cells #[.string (X k).lo, .string (X k).hi, .bool (X k).all, .int .u32 (X k).prio] 85) 0 (by omega)
      obtain ⟨v1, e1⟩ := cc (.cells #[.string (X k).lo, .string (X k).hi, .bool (X k).all, .int .u32 (X k).prio] 85) 1 (by omega)
      obtain ⟨v2, e2⟩ := cc (.cells #[.string (X k).lo, .string (X k).hi, .bool (X k).all, .int .u32 (X k).prio] 85) 2 (by omega)
      obtain ⟨v3, e3⟩ := cc (.cells #[.string (X k).lo, .string (X k).hi, .bool (X k).all, .int .u32 (X k).prio] 85) 3 (by omega)
      obtain ⟨v4, e4⟩ := cc (.cells #[.string (X k).lo, .string (X k).hi, .bool (X k).all, .int .u32 (X k).prio] 85) 4 (by omega)
      obtain ⟨v5, e5⟩ := cc (.cells #[.string (X k).lo, .string (X k).hi, .bool (X k).all, .int .u32 (X k).prio] 85) 5 (by omega)
      obtain ⟨v6, e6⟩ := cc (.cells #[.string (X k).lo, .string (X k).hi, .bool (X k).all, .int .u32 (X k).prio] 85) 6 (by omega)
      obtain ⟨v7, e7⟩ := cc (.cells #[.string (X k).lo, .string (X k).hi, .bool (X k).all, .int .u32 (X k).prio] 85) 7 (by omega)
      obtain ⟨v8, e8⟩ := cc (.cells #[.string (X k).lo, .string (X k).hi, .bool (X k).all, .int .u32 (X k).prio] 85) 8 (by omega)
      obtain ⟨v9, e9⟩ := cc (.cells #[.string (X k).lo, .string (X k).hi, .bool (X k).all, .int .u32 (X k).prio] 85) 9 (by omega)
      obtain ⟨v10, e10⟩ := cc (.cells #[.string (X k).lo, .string (X k).hi, .bool (X k).all, .int .u32 (X k).prio] 85) 10 (by omega)
      obtain ⟨v11, e11⟩ := cc (.cells #[.string (X k).lo, .string (X k).hi, .bool (X k).all, .int .u32 (X k).prio] 85) 11 (by omega)
      simp only [Nat.add_zero] at e0
      obtain ⟨dt, ht⟩ := hI.tree
      have HL := abinv_lay hI hlt (.cells #[.string (X k).lo, .string (X k).hi, .bool (X k).all, .int .u32 (X k).prio] 85)
      have CI := insert_any w.heap.size n (Dz (datOf X) (k + 1)) k hlt dt S pp xs _ HL (ht.dcarry fun j hj => dz_step _ ((hI.mem j).1 hj)) (fun x hx => by have := (hI.mem x).1 hx; omega) (fun hx => by have := (hI.mem k).1 hx; omega)
        (hI.srt.dcarry fun j hj => ⟨(dz_step _ ((hI.mem j).1 hj)).1, (dz_step _ ((hI.mem j).1 hj)).2.1⟩) (hI.rest k (Nat.le_refl _)).1 (hI.rest k (Nat.le_refl _)).2.1
        (fun x hx e => by
          have hxk := (hI.mem x).1 hx
          have h1 := cmpQ_zero e
          have h2 : (Dz (datOf X) (k + 1)).seq k = (k : Int) + 1 := (dz_at (datOf X) (show k < k + 1 by omega)).2.1
          have h3 : (Dz (datOf X) (k + 1)).seq x = (x : Int) + 1 := (dz_at (datOf X) (show x < k + 1 by omega)).2.1
          simp only at h1
          rw [h2, h3] at h1
          omega)
      have HB := hid (abinv_below hI.below k (.cells #[.string (X k).lo, .string (X k).hi, .bool (X k).all, .int .u32 (X k).prio] 85) (.string (X k).lo) (.string (X k).hi) (.bool (X k).all) (.pointer none) (.pointer none) (.pointer none) (.int .u64 0) (.int .u64 (↑k + 1)) (.pointer none) (.int .u8 0) (.int .u32 (X k).prio) (.pointer none))
      obtain ⟨u, hu⟩ : ∃ u, u = adrO w.heap.size pp := ⟨_, rfl⟩
      rw [← hu] at CI ⊢
      have HCI := hid CI
      have HI := hid hI
      clear cc hH HL CI hu hI ht
      go_wp2_with fail
      refine HCI.out.mono ?_
      rintro e w1 ⟨S1, r, rfl, hr, hH1, hI1, hO1⟩
      have HF := hid (abinv_ins HI.out HB.out hH1 hI1 hO1)
      clear hH1 hI1 hO1
      go_wp2_with fail
      go_roundw
      case rel =>
        obtain ⟨xs', hF⟩ := HF.out
        exact ⟨k + 1, by omega, by go_num, some r, S1, xs', rfl, hF⟩
      case measure => simp [intOf]; omega
    · have hkn : k = n := by omega
      subst hkn
      have HI := hid hI
      clear hI
      obtain ⟨u, hu⟩ : ∃ u, u = adrO w.heap.size pp := ⟨_, rfl⟩
      rw [← hu]
      have HU := hid hu
      clear hu
      go_wp2_with fail
      go_ret2
      exact ⟨pp, S, xs, by rw [← HU.out]; rfl, HI.out⟩
end Go.Proofs.Ybulkdfqa
