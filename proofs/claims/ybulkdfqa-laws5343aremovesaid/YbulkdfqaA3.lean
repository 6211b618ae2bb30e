/-
  THE STORE IN MEMORY: n nodes of twelve cells each in block g; what stores into them do.
-/
import Derived.Test.YbulkdfqaQ
import Derived.Test.YbulkdfqaA2
import Derived.Deep.OwnRows
import Derived.Deep.RegionHeld3
import Derived.Deep.DrawnRows
import Derived.LaidEqlPtr
namespace Go.Proofs.Ybulkdfqa
open Go.RowKit
set_option linter.unusedVariables false
set_option linter.unusedSimpArgs false

def adrO (g : Nat) : Option Nat → Option Addr
  | none => none
  | some i => some ⟨g, i * 12, none⟩
def ptrV (g : Nat) (p : Option Nat) : Value := .pointer (adrO g p)

def fieldV (g : Nat) (D : Dat) (S : St) (i : Nat) : Nat → Value
  | 0 => .string (D.key i).lo
  | 1 => .string (D.key i).hi
  | 2 => .bool (D.key i).all
  | 3 => ptrV g (S.left i)
  | 4 => ptrV g (S.right i)
  | 5 => ptrV g (S.last i)
  | 6 => .int .u64 (S.ms i)
  | 7 => .int .u64 (D.seq i)
  | 8 => .pointer none
  | 9 => .int .u8 0
  | 10 => .int .u32 (D.prio i)
  | _ => .pointer none

def cellOf (g : Nat) (D : Dat) (S : St) (k : Nat) : Value := fieldV g D S (k / 12) (k % 12)

theorem cellOf_at (g : Nat) (D : Dat) (S : St) (i c : Nat) (hc : c < 12) : cellOf g D S (i * 12 + c) = fieldV g D S i c := by
  unfold cellOf
  rw [show (i * 12 + c) / 12 = i by omega, show (i * 12 + c) % 12 = c by omega]

/-- THE n NODES LIE IN BLOCK g -/
def Holds (w : World) (g n : Nat) (D : Dat) (S : St) : Prop := w.rowIs g 35 (n * 12) (cellOf g D S)

namespace Holds
variable {w w' : World} {g n : Nat} {D : Dat} {S : St}

theorem cell (h : Holds w g n D S) {i : Nat} (hi : i < n) (c : Nat) (hc : c < 12) : w.cell? ⟨g, i * 12 + c, none⟩ = some (fieldV g D S i c) := by
  rw [← cellOf_at g D S i c hc]
  exact World.rowIs.cell h (by omega)
theorem cell0 (h : Holds w g n D S) {i : Nat} (hi : i < n) : w.cell? ⟨g, i * 12, none⟩ = some (.string (D.key i).lo) := h.cell hi 0 (by omega)
theorem cell1 (h : Holds w g n D S) {i : Nat} (hi : i < n) : w.cell? ⟨g, i * 12 + 1, none⟩ = some (.string (D.key i).hi) := h.cell hi 1 (by omega)
theorem cell2 (h : Holds w g n D S) {i : Nat} (hi : i < n) : w.cell? ⟨g, i * 12 + 2, none⟩ = some (.bool (D.key i).all) := h.cell hi 2 (by omega)
theorem cell3 (h : Holds w g n D S) {i : Nat} (hi : i < n) : w.cell? ⟨g, i * 12 + 3, none⟩ = some (ptrV g (S.left i)) := h.cell hi 3 (by omega)
theorem cell4 (h : Holds w g n D S) {i : Nat} (hi : i < n) : w.cell? ⟨g, i * 12 + 4, none⟩ = some (ptrV g (S.right i)) := h.cell hi 4 (by omega)
theorem cell5 (h : Holds w g n D S) {i : Nat} (hi : i < n) : w.cell? ⟨g, i * 12 + 5, none⟩ = some (ptrV g (S.last i)) := h.cell hi 5 (by omega)
theorem cell6 (h : Holds w g n D S) {i : Nat} (hi : i < n) : w.cell? ⟨g, i * 12 + 6, none⟩ = some (.int .u64 (S.ms i)) := h.cell hi 6 (by omega)
theorem cell7 (h : Holds w g n D S) {i : Nat} (hi : i < n) : w.cell? ⟨g, i * 12 + 7, none⟩ = some (.int .u64 (D.seq i)) := h.cell hi 7 (by omega)
theorem cell10 (h : Holds w g n D S) {i : Nat} (hi : i < n) : w.cell? ⟨g, i * 12 + 10, none⟩ = some (.int .u32 (D.prio i)) := h.cell hi 10 (by omega)
theorem frz (h : Holds w g n D S) (o : Nat) : w.frozen? ⟨g, o, none⟩ = false := World.rowIs.frozen h o
theorem lt (h : Holds w g n D S) : g < w.heap.size := World.rowIs.lt h
theorem alloc (h : Holds w g n D S) (o : Obj) : Holds (w.alloc o) g n D S := World.rowIs.alloc h o
theorem drew (h : Holds w g n D S) : Holds w.drew g n D S := h
theorem other (h : Holds w g n D S) {a : Addr} (ha : g ≠ a.block) (v : Value) : Holds (w.setCell a v) g n D S := World.rowIs.setOther h ha v
theorem of_block (h : Holds w g n D S) (e : w'.heap[g]? = w.heap[g]?) : Holds w' g n D S := World.rowIs.of_block h e

theorem set (h : Holds w g n D S) {S' : St} {i c : Nat} (hi : i < n) (hc : c < 12) (v : Value) (e1 : fieldV g D S' i c = v)
    (e2 : ∀ j d, d < 12 → (j ≠ i ∨ d ≠ c) → fieldV g D S' j d = fieldV g D S j d) : Holds (w.setCell ⟨g, i * 12 + c, none⟩ v) g n D S' := by
  refine World.rowIs.congr (World.rowIs.set h (i * 12 + c) v) (fun k hk => ?_)
  by_cases e : k = i * 12 + c
  · rw [if_pos e, e, cellOf_at g D S' i c hc, e1]
  · rw [if_neg e]
    show fieldV g D S (k / 12) (k % 12) = fieldV g D S' (k / 12) (k % 12)
    rw [e2 (k / 12) (k % 12) (by omega) (by omega)]

theorem setLeft (h : Holds w g n D S) {i : Nat} (hi : i < n) (p : Option Nat) : Holds (w.setCell ⟨g, i * 12 + 3, none⟩ (ptrV g p)) g n D (S.setLeft i p) := by
  refine h.set hi (by omega) _ (by simp [fieldV, St.setLeft]) (fun j d hd hne => ?_)
  by_cases e : j = i
  · match d, hd, hne with
    | 3, _, hne => exact absurd rfl (hne.resolve_left (fun h => h e))
    | 0, _, _ => rfl | 1, _, _ => rfl | 2, _, _ => rfl | 4, _, _ => rfl | 5, _, _ => rfl | 6, _, _ => rfl | 7, _, _ => rfl | 8, _, _ => rfl | 9, _, _ => rfl | 10, _, _ => rfl | 11, _, _ => rfl
  · match d, hd with
    | 3, _ => simp [fieldV, St.setLeft, upd_other _ _ e]
    | 0, _ => rfl | 1, _ => rfl | 2, _ => rfl | 4, _ => rfl | 5, _ => rfl | 6, _ => rfl | 7, _ => rfl | 8, _ => rfl | 9, _ => rfl | 10, _ => rfl | 11, _ => rfl
theorem setRight (h : Holds w g n D S) {i : Nat} (hi : i < n) (p : Option Nat) : Holds (w.setCell ⟨g, i * 12 + 4, none⟩ (ptrV g p)) g n D (S.setRight i p) := by
  refine h.set hi (by omega) _ (by simp [fieldV, St.setRight]) (fun j d hd hne => ?_)
  by_cases e : j = i
  · match d, hd, hne with
    | 4, _, hne => exact absurd rfl (hne.resolve_left (fun h => h e))
    | 0, _, _ => rfl | 1, _, _ => rfl | 2, _, _ => rfl | 3, _, _ => rfl | 5, _, _ => rfl | 6, _, _ => rfl | 7, _, _ => rfl | 8, _, _ => rfl | 9, _, _ => rfl | 10, _, _ => rfl | 11, _, _ => rfl
  · match d, hd with
    | 4, _ => simp [fieldV, St.setRight, upd_other _ _ e]
    | 0, _ => rfl | 1, _ => rfl | 2, _ => rfl | 3, _ => rfl | 5, _ => rfl | 6, _ => rfl | 7, _ => rfl | 8, _ => rfl | 9, _ => rfl | 10, _ => rfl | 11, _ => rfl
theorem setLast (h : Holds w g n D S) {i : Nat} (hi : i < n) (p : Option Nat) : Holds (w.setCell ⟨g, i * 12 + 5, none⟩ (ptrV g p)) g n D (S.setLast i p) := by
  refine h.set hi (by omega) _ (by simp [fieldV, St.setLast]) (fun j d hd hne => ?_)
  by_cases e : j = i
  · match d, hd, hne with
    | 5, _, hne => exact absurd rfl (hne.resolve_left (fun h => h e))
    | 0, _, _ => rfl | 1, _, _ => rfl | 2, _, _ => rfl | 3, _, _ => rfl | 4, _, _ => rfl | 6, _, _ => rfl | 7, _, _ => rfl | 8, _, _ => rfl | 9, _, _ => rfl | 10, _, _ => rfl | 11, _, _ => rfl
  · match d, hd with
    | 5, _ => simp [fieldV, St.setLast, upd_other _ _ e]
    | 0, _ => rfl | 1, _ => rfl | 2, _ => rfl | 3, _ => rfl | 4, _ => rfl | 6, _ => rfl | 7, _ => rfl | 8, _ => rfl | 9, _ => rfl | 10, _ => rfl | 11, _ => rfl
theorem setMs (h : Holds w g n D S) {i : Nat} (hi : i < n) (v : Int) : Holds (w.setCell ⟨g, i * 12 + 6, none⟩ (.int .u64 v)) g n D (S.setMs i v) := by
  refine h.set hi (by omega) _ (by simp [fieldV, St.setMs]) (fun j d hd hne => ?_)
  by_cases e : j = i
  · match d, hd, hne with
    | 6, _, hne => exact absurd rfl (hne.resolve_left (fun h => h e))
    | 0, _, _ => rfl | 1, _, _ => rfl | 2, _, _ => rfl | 3, _, _ => rfl | 4, _, _ => rfl | 5, _, _ => rfl | 7, _, _ => rfl | 8, _, _ => rfl | 9, _, _ => rfl | 10, _, _ => rfl | 11, _, _ => rfl
  · match d, hd with
    | 6, _ => simp [fieldV, St.setMs, upd_other _ _ e]
    | 0, _ => rfl | 1, _ => rfl | 2, _ => rfl | 3, _ => rfl | 4, _ => rfl | 5, _ => rfl | 7, _ => rfl | 8, _ => rfl | 9, _ => rfl | 10, _ => rfl | 11, _ => rfl
end Holds

/-- ALL OLD BLOCKS BUT g AND r ARE AS THEY WERE -/
structure Oth (g r : Nat) (w w' : World) : Prop where
  os : w'.os = w.os
  tape : w'.tape = w.tape
  output : w'.output = w.output
  size : w.heap.size ≤ w'.heap.size
  block : ∀ k, k < w.heap.size → k ≠ g → k ≠ r → w'.heap[k]? = w.heap[k]?

namespace Oth
variable {g r : Nat} {w w' w'' : World}
theorem refl (g r : Nat) (w : World) : Oth g r w w := ⟨rfl, rfl, rfl, Nat.le_refl _, fun _ _ _ _ => rfl⟩
theorem trans (h : Oth g r w w') (k : Oth g r w' w'') : Oth g r w w'' :=
  ⟨k.os.trans h.os, k.tape.trans h.tape, k.output.trans h.output, Nat.le_trans h.size k.size, fun i h1 h2 h3 => (k.block i (Nat.lt_of_lt_of_le h1 h.size) h2 h3).trans (h.block i h1 h2 h3)⟩
theorem of_below (h : Below w.heap.size w w') : Oth g r w w' := ⟨h.os, h.tape, h.output, h.size, fun k hk _ _ => h.block k hk⟩
theorem alloc (h : Oth g r w w') (o : Obj) : Oth g r w (w'.alloc o) := h.trans (of_below ((Below.refl _ _).alloc (Nat.le_refl _) o))
theorem drew (h : Oth g r w w') : Oth g r w w'.drew := ⟨h.os, h.tape, h.output, h.size, h.block⟩
theorem setG (h : Oth g r w w') (o : Nat) (v : Value) : Oth g r w (w'.setCell ⟨g, o, none⟩ v) :=
  h.trans ⟨rfl, rfl, rfl, by simp, fun k hk h2 h3 => Below.heap_setCell _ _ _ _ h2⟩
theorem setR (h : Oth g r w w') (o : Nat) (v : Value) : Oth g r w (w'.setCell ⟨r, o, none⟩ v) :=
  h.trans ⟨rfl, rfl, rfl, by simp, fun k hk h2 h3 => Below.heap_setCell _ _ _ _ h3⟩
theorem cell (h : Oth g r w w') {a : Addr} (h1 : a.block < w.heap.size) (h2 : a.block ≠ g) (h3 : a.block ≠ r) : w'.cell? a = w.cell? a := World.cell?_of_block (w := w) (h.block _ h1 h2 h3)
theorem frozen (h : Oth g r w w') {a : Addr} (h1 : a.block < w.heap.size) (h2 : a.block ≠ g) (h3 : a.block ≠ r) : w'.frozen? a = w.frozen? a := World.frozen?_of_block (w := w) (h.block _ h1 h2 h3)
theorem widen (h : Oth g g w w') : Oth g r w w' := ⟨h.os, h.tape, h.output, h.size, fun k h1 h2 _ => h.block k h1 h2 h2⟩
theorem below {B : Nat} (h : Oth g r w w') (hB : B ≤ w.heap.size) (hg : B ≤ g) (hr : B ≤ r) : Below B w w' := ⟨h.os, h.tape, h.output, h.size, fun k hk => h.block k (by omega) (by omega) (by omega)⟩
end Oth

end Go.Proofs.Ybulkdfqa
