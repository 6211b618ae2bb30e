/-
  A SLICE OF ITEMS THAT CAME IN, OPENED.
-/
import Derived.Test.YbulkdfqaB4
import Derived.Deep.Slices
import Derived.OpenShut
namespace Go.Proofs.Ybulkdfqa
open Go.RowKit
open Go.ChangeShapes Go.WideShapes
set_option linter.unusedVariables false
set_option linter.unusedSimpArgs false

theorem Yba.cells92 : Yba.prog.cellsOf 92 = 5 := by kernel_rfl
theorem Yba.cells30 : Yba.prog.cellsOf 30 = 1 := by kernel_rfl
theorem Yba.cells4 : Yba.prog.cellsOf 4 = 1 := by kernel_rfl
theorem Yba.cells9 : Yba.prog.cellsOf 9 = 1 := by kernel_rfl

set_option maxRecDepth 100000 in
theorem open_item {H : Type} {enc : TypeId × Value → H} {w : World} {base : Nat} {spare : Nat → Bool} {held : Bool} {k : Nat} {cs : List Value} {y : DataW H × List MemPlace}
    (h : DataW.trod enc Yba.prog w base spare held k 92 cs = some y) : ∃ x : Src, cs = [.int .u64 x.seq, .bool x.has, .bool x.all, .string x.lo, .string x.hi] ∧ x.seq ≤ mxu := by
  obtain ⟨xs, n, _, _, hl, hlen, hf⟩ := DataW.trod_struct Yba.underlying92 h
  rw [Yba.cells92] at hl
  match cs, hl with
  | [c0, c1, c2, c3, c4], _ =>
    match xs, hlen with
    | [y0, y1, y2, y3, y4], _ =>
      have f0 := hf 0 _ rfl
      have f1 := hf 1 _ rfl
      have f2 := hf 2 _ rfl
      have f3 := hf 3 _ rfl
      have f4 := hf 4 _ rfl
      simp [Yba.cells30, Yba.cells4, Yba.cells9] at f0 f1 f2 f3 f4
      obtain ⟨s, e0, _, ws⟩ := DataW.trod_int Yba.underlying30 f0
      obtain ⟨b1, e1, _⟩ := DataW.trod_bool Yba.underlying4 f1
      obtain ⟨b2, e2, _⟩ := DataW.trod_bool Yba.underlying4 f2
      obtain ⟨s3, e3, _⟩ := DataW.trod_string Yba.underlying9 f3
      obtain ⟨s4, e4, _⟩ := DataW.trod_string Yba.underlying9 f4
      simp at e0 e1 e2 e3 e4
      subst e0 e1 e2 e3 e4
      refine ⟨⟨s, b1, b2, s3, s4⟩, rfl, ?_⟩
      have := bounds_u64 ws
      show s ≤ mxu
      unfold mxu
      omega

set_option maxRecDepth 100000 in
theorem open_items {H : Type} {enc : TypeId × Value → H} {w : World} {base : Nat} {spare : Nat → Bool} {held : Bool} {k : Nat} {a : Option Addr} {n cap : Nat} {y : DataW H × List MemPlace}
    (h : DataW.trod enc Yba.prog w base spare held k 44 [.slice a n cap] = some y) : ∃ X, IsItems w a n X ∧ ∀ i, i < n → (X i).seq ≤ mxu := by
  rcases Go.Deep.open_slice Yba.underlying44 h with ⟨hcs, _⟩ | ⟨ad, len, cp, m, k', D, Pl, hcs, hb, hl, hm, hmm, hx, hall⟩
  · simp at hcs
    obtain ⟨rfl, rfl, rfl⟩ := hcs
    exact ⟨fun _ => ⟨0, false, false, ByteArray.empty, ByteArray.empty⟩, Or.inl rfl, fun i hi => absurd hi (Nat.not_lt_zero _)⟩
  · simp at hcs
    obtain ⟨rfl, rfl, rfl⟩ := hcs
    have hnm : n ≤ m := by rw [hmm]; split <;> omega
    rw [Yba.cells92] at hall
    haveI : Inhabited Src := ⟨⟨0, false, false, ByteArray.empty, ByteArray.empty⟩⟩
    obtain ⟨X, hX⟩ := Go.Deep.choose_lt (n := n) (p := fun i (x : Src) => w.cells? base (ad.add (i * 5)) 5 = some [.int .u64 x.seq, .bool x.has, .bool x.all, .string x.lo, .string x.hi] ∧ x.seq ≤ mxu) (fun i hi => by
      obtain ⟨cs', h1, h2⟩ := hall i (by omega)
      obtain ⟨x, rfl, hs⟩ := open_item h2
      exact ⟨x, h1, hs⟩)
    refine ⟨X, ?_, fun i hi => (hX i hi).2⟩
    by_cases h0 : n = 0
    · exact Or.inl h0
    right
    obtain ⟨b, off, spot⟩ := ad
    have hs : spot = none := by
      obtain ⟨_, _, hc⟩ := World.cells?_some (hX 0 (by omega)).1
      have := hc 0 (by omega)
      simpa [Addr.add] using World.cell?_spot this
    subst hs
    refine ⟨b, off, rfl, fun i hi => ?_⟩
    obtain ⟨_, _, hc⟩ := World.cells?_some (hX i hi).1
    have e : ∀ j, (Addr.add ⟨b, off, none⟩ (i * 5)).add j = ⟨b, off + i * 5 + j, none⟩ := fun j => by rw [Go.Deep.add_add, Addr.add_lit, Nat.add_assoc]
    refine ⟨?_, ?_, ?_, ?_, ?_⟩
    · have := hc 0 (by omega); rw [e] at this; simpa using this
    · have := hc 1 (by omega); rw [e] at this; simpa using this
    · have := hc 2 (by omega); rw [e] at this; simpa using this
    · have := hc 3 (by omega); rw [e] at this; simpa using this
    · have := hc 4 (by omega); rw [e] at this; simpa using this
end Go.Proofs.Ybulkdfqa
