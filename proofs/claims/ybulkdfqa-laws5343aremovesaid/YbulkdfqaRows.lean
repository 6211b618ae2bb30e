/-
  No cell of these rows narrows 'for every input' (looked for: loops, veiled, ifaces, maps, wideKeys, modest, calm, conditions, laid).
  DERIVED. THE GIVEN ROWS OF THIS SEAT. 4 by the template 'for every input the law returns true; each argument reads behind the call as it read before'; 0 by the template 'total and deterministic' (their statements: YbulkdfqaTotals.lean).
  GIVEN WITH THE SEED: the statements are not yours to turn. If you find one false, say at which input.
  Laid BY PROGRAM, IN A SANDBOX (cutbox-rows.mjs): the forced cells as the released guide's own fill.sh prints them over the translation ef0be51e5e4e7233… (all of the seat's roots in one cut). By AI agents, Wed Nov 11 2026. No macro, syntax, notation, axiom, sorry.
-/
import Derived.Test.YbulkdfqaChecked
import GoSem.Claim
import GoSem.ClaimJoined
import GoSem.ClaimMapViews
import Derived.JoinedTies
import Derived.KernelRfl
namespace Go.Proofs.Ybulkdfqa
/- THE CELL 'sum', in the pinned program and in every row, IS THE sha256 OF THE DUMP (.gsa) THAT YbulkdfqaProg.lean LOADS. Nothing in Lean hashes anything: it is a label: what it is worth is what the hold of that sum in a sandbox is worth. -/
noncomputable def Yba.pinned : Pinned := { name := "ybulkdfqa", sum := "ef0be51e5e4e72339d68e2b6132a77aa7fa6f3dbf6a15046a9d1600b65f21fc2", checked := Yba.checked }
namespace Rows
def none {H : Type} : Left H := { results := [], args := [] }

/-- 'holdfast.LawS5343ARemove': WHATEVER THE INPUT: true; the input reads as it did. -/
def lawS5343ARemoveSpec : ChangeSpec := { name := "lawS5343ARemove", fn := fun _ => fun
  | [d1, d2] => { results := [.lit (.bool true)], args := [d1, d2] }
  | _ => none }
def lawS5343ARemoveRow : OpenClaim := { program := "ybulkdfqa", sum := "ef0be51e5e4e72339d68e2b6132a77aa7fa6f3dbf6a15046a9d1600b65f21fc2", func := "example.com/holdfast/holdfast.LawS5343ARemove", spec := "lawS5343ARemove", inPlace := ["internal/bytealg.abigen_runtime_cmpstring"], recurses := true, apart := false }
def LawS5343ARemoveSaid : Prop := lawS5343ARemoveRow.holds Yba.pinned (OpenSpec.ofChange lawS5343ARemoveSpec)

/-- ITS FALSE NEIGHBOUR: 'it returns false'. Refute it at one input. -/
def lawS5343ARemoveWrong : ChangeSpec := { name := "lawS5343ARemove", fn := fun _ => fun
  | [d1, d2] => { results := [.lit (.bool false)], args := [d1, d2] }
  | _ => none }
def LawS5343ARemoveWrongFalsely : Prop := lawS5343ARemoveRow.holds Yba.pinned (OpenSpec.ofChange lawS5343ARemoveWrong)

/-- 'holdfast.LawS5343ADrain': WHATEVER THE INPUT: true; the input reads as it did. -/
def lawS5343ADrainSpec : ChangeSpec := { name := "lawS5343ADrain", fn := fun _ => fun
  | [d] => { results := [.lit (.bool true)], args := [d] }
  | _ => none }
def lawS5343ADrainRow : OpenClaim := { program := "ybulkdfqa", sum := "ef0be51e5e4e72339d68e2b6132a77aa7fa6f3dbf6a15046a9d1600b65f21fc2", func := "example.com/holdfast/holdfast.LawS5343ADrain", spec := "lawS5343ADrain", inPlace := ["internal/bytealg.abigen_runtime_cmpstring"], recurses := true, apart := false }
def LawS5343ADrainSaid : Prop := lawS5343ADrainRow.holds Yba.pinned (OpenSpec.ofChange lawS5343ADrainSpec)

/-- ITS FALSE NEIGHBOUR: 'it returns false'. Refute it at one input. -/
def lawS5343ADrainWrong : ChangeSpec := { name := "lawS5343ADrain", fn := fun _ => fun
  | [d] => { results := [.lit (.bool false)], args := [d] }
  | _ => none }
def LawS5343ADrainWrongFalsely : Prop := lawS5343ADrainRow.holds Yba.pinned (OpenSpec.ofChange lawS5343ADrainWrong)

/-- 'holdfast.LawS5343BList': WHATEVER THE INPUT: true; the input reads as it did. -/
def lawS5343BListSpec : ChangeSpec := { name := "lawS5343BList", fn := fun _ => fun
  | [d1, d2] => { results := [.lit (.bool true)], args := [d1, d2] }
  | _ => none }
def lawS5343BListRow : OpenClaim := { program := "ybulkdfqa", sum := "ef0be51e5e4e72339d68e2b6132a77aa7fa6f3dbf6a15046a9d1600b65f21fc2", func := "example.com/holdfast/holdfast.LawS5343BList", spec := "lawS5343BList", unfollowed := true, recurses := true, apart := false }
def LawS5343BListSaid : Prop := lawS5343BListRow.holds Yba.pinned (OpenSpec.ofChange lawS5343BListSpec)

/-- ITS FALSE NEIGHBOUR: 'it returns false'. Refute it at one input. -/
def lawS5343BListWrong : ChangeSpec := { name := "lawS5343BList", fn := fun _ => fun
  | [d1, d2] => { results := [.lit (.bool false)], args := [d1, d2] }
  | _ => none }
def LawS5343BListWrongFalsely : Prop := lawS5343BListRow.holds Yba.pinned (OpenSpec.ofChange lawS5343BListWrong)

/-- 'holdfast.LawS5343BTree': WHATEVER THE INPUT: true; the input reads as it did. -/
def lawS5343BTreeSpec : ChangeSpec := { name := "lawS5343BTree", fn := fun _ => fun
  | [d] => { results := [.lit (.bool true)], args := [d] }
  | _ => none }
def lawS5343BTreeRow : OpenClaim := { program := "ybulkdfqa", sum := "ef0be51e5e4e72339d68e2b6132a77aa7fa6f3dbf6a15046a9d1600b65f21fc2", func := "example.com/holdfast/holdfast.LawS5343BTree", spec := "lawS5343BTree", unfollowed := true, recurses := true, apart := false }
def LawS5343BTreeSaid : Prop := lawS5343BTreeRow.holds Yba.pinned (OpenSpec.ofChange lawS5343BTreeSpec)

/-- ITS FALSE NEIGHBOUR: 'it returns false'. Refute it at one input. -/
def lawS5343BTreeWrong : ChangeSpec := { name := "lawS5343BTree", fn := fun _ => fun
  | [d] => { results := [.lit (.bool false)], args := [d] }
  | _ => none }
def LawS5343BTreeWrongFalsely : Prop := lawS5343BTreeRow.holds Yba.pinned (OpenSpec.ofChange lawS5343BTreeWrong)

end Rows
end Go.Proofs.Ybulkdfqa
