/-
  WALKS OF THE LEAVES ON THE ROADS OF LawS5343BList AND LawS5343BTree: overlaps, endsBefore, startsAfter, listed, the closure of autoIncrement.
-/
import Derived.Test.YbulkdfqaRows
import Derived.WalkKit
import Derived.WalkSpells
import Derived.WalkLawsBesides
import Derived.Deep.OwnRows
import Derived.Deep.RegionHeld3
import Derived.Deep.DrawnRows
namespace Go.Proofs.Ybulkdfqa
open Go.RowKit

/-- lo <= hi, on strings, as the walk spells it. -/
def leB (lo hi : ByteArray) : Bool := Op.bytesLess lo.toList hi.toList || lo.toList == hi.toList

/-- the three cells of a KeyRange -/
def rng (lo hi : ByteArray) (all : Bool) : Value := .agg #[.string lo, .string hi, .bool all]
def rngObj (lo hi : ByteArray) (all : Bool) : Obj := .cells #[.string lo, .string hi, .bool all] 29

set_option maxHeartbeats 400000 in
theorem overlaps_all (lo hi l2 h2 : ByteArray) (all : Bool) (w : World) :
    Calls Yba.prog 26 #[rng lo hi all, rng l2 h2 true] w fun e w' => e = .returned (.bool (all || leB lo hi)) ∧ w' = (w.alloc (rngObj lo hi all)).alloc (rngObj l2 h2 true) := by
  unfold rng rngObj
  cases all
  · go_enter Yba.func26, Yba.ntmps26
    go_wp2
    go_ret
    exact ⟨rfl, rfl⟩
  · go_enter Yba.func26, Yba.ntmps26
    go_wp2
    go_ret
    exact ⟨rfl, rfl⟩

set_option maxHeartbeats 400000 in
theorem endsBefore_all (lo hi l2 h2 : ByteArray) (all : Bool) (w : World) :
    Calls Yba.prog 30 #[rng lo hi all, rng l2 h2 true] w fun e w' => e = .returned (.bool false) ∧ w' = (w.alloc (rngObj lo hi all)).alloc (rngObj l2 h2 true) := by
  unfold rng rngObj
  cases all
  · go_enter Yba.func30, Yba.ntmps30
    go_wp2
    go_ret
    exact ⟨rfl, rfl⟩
  · go_enter Yba.func30, Yba.ntmps30
    go_wp2
    go_ret
    exact ⟨rfl, rfl⟩

set_option maxHeartbeats 400000 in
theorem startsAfter_all (lo hi l2 h2 : ByteArray) (all : Bool) (w : World) :
    Calls Yba.prog 31 #[rng lo hi all, rng l2 h2 true] w fun e w' => e = .returned (.bool false) ∧ w' = (w.alloc (rngObj lo hi all)).alloc (rngObj l2 h2 true) := by
  unfold rng rngObj
  cases all
  · go_enter Yba.func31, Yba.ntmps31
    go_wp2
    go_ret
    exact ⟨rfl, rfl⟩
  · go_enter Yba.func31, Yba.ntmps31
    go_wp2
    go_ret
    exact ⟨rfl, rfl⟩

set_option maxHeartbeats 400000 in
theorem closure_any (p : Value) (hb ho : Nat) (v : Value) (w : World) (hc : w.cell? ⟨hb, ho, none⟩ = some v) (hf : w.frozen? ⟨hb, ho, none⟩ = false) (pa : Option Addr) (hp : p = .pointer pa) :
    Calls Yba.prog 20 #[p, .pointer (some ⟨hb, ho, none⟩)] w fun e w' => e = .returned (.bool true) ∧ w' = w.setCell ⟨hb, ho, none⟩ p := by
  subst hp
  go_enter Yba.func20, Yba.ntmps20
  go_wp2
  go_ret
  exact ⟨rfl, rfl⟩

end Go.Proofs.Ybulkdfqa
