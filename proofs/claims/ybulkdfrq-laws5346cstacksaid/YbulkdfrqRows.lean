/-
  No cell of these rows narrows 'for every input' (looked for: loops, veiled, ifaces, maps, wideKeys, modest, calm, conditions, laid).
  DERIVED. THE GIVEN ROWS OF THIS SEAT. 4 by the template 'for every input the law returns true; each argument reads behind the call as it read before'; 0 by the template 'total and deterministic' (their statements: YbulkdfrqTotals.lean).
  GIVEN WITH THE SEED: the statements are not yours to turn. If you find one false, say at which input.
  Laid BY PROGRAM, IN A SANDBOX (cutbox-rows.mjs): the forced cells as the released guide's own fill.sh prints them over the translation e89aff8d8ed4cc4c… (all of the seat's roots in one cut). By AI agents, Wed Nov 11 2026. No macro, syntax, notation, axiom, sorry.
-/
import Derived.Test.YbulkdfrqChecked
import GoSem.Claim
import GoSem.ClaimJoined
import GoSem.ClaimMapViews
import Derived.JoinedTies
import Derived.KernelRfl
namespace Go.Proofs.Ybulkdfrq
/- THE CELL 'sum', in the pinned program and in every row, IS THE sha256 OF THE DUMP (.gsa) THAT YbulkdfrqProg.lean LOADS. Nothing in Lean hashes anything: it is a label: what it is worth is what the hold of that sum in a sandbox is worth. -/
noncomputable def Yba.pinned : Pinned := { name := "ybulkdfrq", sum := "e89aff8d8ed4cc4c0887c1454ca573d0c85cdc622d8730f6ecd0f79eb29d2022", checked := Yba.checked }
namespace Rows
def none {H : Type} : Left H := { results := [], args := [] }

/-- 'bcf.LawS5346BExact': WHATEVER THE INPUT: true; the input reads as it did. -/
def lawS5346BExactSpec : ChangeSpec := { name := "lawS5346BExact", fn := fun _ => fun
  | [d] => { results := [.lit (.bool true)], args := [d] }
  | _ => none }
def lawS5346BExactRow : OpenClaim := { program := "ybulkdfrq", sum := "e89aff8d8ed4cc4c0887c1454ca573d0c85cdc622d8730f6ecd0f79eb29d2022", func := "example.com/bloomcade/bloomcade/internal/bcf.LawS5346BExact", spec := "lawS5346BExact", apart := false }
def LawS5346BExactSaid : Prop := lawS5346BExactRow.holds Yba.pinned (OpenSpec.ofChange lawS5346BExactSpec)

/-- ITS FALSE NEIGHBOUR: 'it returns false'. Refute it at one input. -/
def lawS5346BExactWrong : ChangeSpec := { name := "lawS5346BExact", fn := fun _ => fun
  | [d] => { results := [.lit (.bool false)], args := [d] }
  | _ => none }
def LawS5346BExactWrongFalsely : Prop := lawS5346BExactRow.holds Yba.pinned (OpenSpec.ofChange lawS5346BExactWrong)

/-- 'bcf.LawS5346BRoundTrip': WHATEVER THE INPUT: true; the input reads as it did. -/
def lawS5346BRoundTripSpec : ChangeSpec := { name := "lawS5346BRoundTrip", fn := fun _ => fun
  | [d] => { results := [.lit (.bool true)], args := [d] }
  | _ => none }
def lawS5346BRoundTripRow : OpenClaim := { program := "ybulkdfrq", sum := "e89aff8d8ed4cc4c0887c1454ca573d0c85cdc622d8730f6ecd0f79eb29d2022", func := "example.com/bloomcade/bloomcade/internal/bcf.LawS5346BRoundTrip", spec := "lawS5346BRoundTrip", apart := false }
def LawS5346BRoundTripSaid : Prop := lawS5346BRoundTripRow.holds Yba.pinned (OpenSpec.ofChange lawS5346BRoundTripSpec)

/-- ITS FALSE NEIGHBOUR: 'it returns false'. Refute it at one input. -/
def lawS5346BRoundTripWrong : ChangeSpec := { name := "lawS5346BRoundTrip", fn := fun _ => fun
  | [d] => { results := [.lit (.bool false)], args := [d] }
  | _ => none }
def LawS5346BRoundTripWrongFalsely : Prop := lawS5346BRoundTripRow.holds Yba.pinned (OpenSpec.ofChange lawS5346BRoundTripWrong)

/-- 'spill.LawS5346CLastOut': WHATEVER THE INPUT: true; the input reads as it did. -/
def lawS5346CLastOutSpec : ChangeSpec := { name := "lawS5346CLastOut", fn := fun _ => fun
  | [d] => { results := [.lit (.bool true)], args := [d] }
  | _ => none }
def lawS5346CLastOutRow : OpenClaim := { program := "ybulkdfrq", sum := "e89aff8d8ed4cc4c0887c1454ca573d0c85cdc622d8730f6ecd0f79eb29d2022", func := "example.com/bloomcade/bloomcade/internal/spill.LawS5346CLastOut", spec := "lawS5346CLastOut", apart := false }
def LawS5346CLastOutSaid : Prop := lawS5346CLastOutRow.holds Yba.pinned (OpenSpec.ofChange lawS5346CLastOutSpec)

/-- ITS FALSE NEIGHBOUR: 'it returns false'. Refute it at one input. -/
def lawS5346CLastOutWrong : ChangeSpec := { name := "lawS5346CLastOut", fn := fun _ => fun
  | [d] => { results := [.lit (.bool false)], args := [d] }
  | _ => none }
def LawS5346CLastOutWrongFalsely : Prop := lawS5346CLastOutRow.holds Yba.pinned (OpenSpec.ofChange lawS5346CLastOutWrong)

/-- 'spill.LawS5346CStack': WHATEVER THE INPUT: true; the input reads as it did. -/
def lawS5346CStackSpec : ChangeSpec := { name := "lawS5346CStack", fn := fun _ => fun
  | [d1, d2] => { results := [.lit (.bool true)], args := [d1, d2] }
  | _ => none }
def lawS5346CStackRow : OpenClaim := { program := "ybulkdfrq", sum := "e89aff8d8ed4cc4c0887c1454ca573d0c85cdc622d8730f6ecd0f79eb29d2022", func := "example.com/bloomcade/bloomcade/internal/spill.LawS5346CStack", spec := "lawS5346CStack", apart := false }
def LawS5346CStackSaid : Prop := lawS5346CStackRow.holds Yba.pinned (OpenSpec.ofChange lawS5346CStackSpec)

/-- ITS FALSE NEIGHBOUR: 'it returns false'. Refute it at one input. -/
def lawS5346CStackWrong : ChangeSpec := { name := "lawS5346CStack", fn := fun _ => fun
  | [d1, d2] => { results := [.lit (.bool false)], args := [d1, d2] }
  | _ => none }
def LawS5346CStackWrongFalsely : Prop := lawS5346CStackRow.holds Yba.pinned (OpenSpec.ofChange lawS5346CStackWrong)

end Rows
end Go.Proofs.Ybulkdfrq
