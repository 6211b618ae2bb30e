/-
  A REGION THAT DRAWS ITS ORDER, WHOSE OPERATIONS ONLY READ AND WHOSE CALLEES ONLY READ OR MAKE NEW MEMORY: ONE WALK, IN THE TEXT's ORDER: the guide's theorem 'wp_region_quiet' at the class 'below block B the world is as w0 was'.
-/
import Derived.Test.YbulkdfqaRows
import Derived.WalkKit
import Derived.WalkSpells
import Derived.WalkLawsBesides
import Derived.Deep.QuietTactic
import Derived.BigQuiet
namespace Go.Proofs.Ybulkdfqa
open Go.RowKit

theorem hid {p : Prop} (h : p) : Hid p := h

/-- A WORLD THAT BELOW BLOCK B IS AS w0 WAS -/
structure Blw (B : Nat) (w0 : World) where
  val : World
  prop : Below B w0 val

theorem wp_region_blw {P : Program} {id : Nat} {Q : Exit → Act → World → Prop} {a : Act} {w : World} {l : List Oper} (B : Nat) (w0 : World) (hm : P.follows .mixedOrders = true) (hB : Region.lexB .any l.toArray = true)
    (h0 : Below B w0 w)
    (h : wpQuiet P l.toArray (fun w' => ∃ x : Blw B w0, w' = x.val) (fun a' => ∀ w', (∃ x : Blw B w0, w' = x.val) → Q .normal a' w') l a) : (Code.region id l.toArray true).wp P Q a w :=
  wp_region_quiet (C := fun w' => ∃ x : Blw B w0, w' = x.val) hm hB ⟨⟨w.drew, h0.drew⟩, rfl⟩ (by simpa using h)

/-- a callee that leaves 'Below' -/
theorem Calls.blw {P : Program} {f : FuncId} {args : Array Value} {B : Nat} {w0 : World} {v : Value} (x : Blw B w0)
    (h : Calls P f args x.val fun e w' => e = .returned v ∧ Below B x.val w') : Calls P f args x.val fun e w' => e = .returned v ∧ ∃ y : Blw B w0, w' = y.val :=
  h.mono fun _ w' ⟨he, hb⟩ => ⟨he, ⟨w', x.prop.trans hb⟩, rfl⟩

end Go.Proofs.Ybulkdfqa
