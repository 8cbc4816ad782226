/-
  No cell of these rows narrows 'for every input' (looked for: loops, veiled, ifaces, maps, wideKeys, modest, calm, conditions, laid).
  DERIVED. THE GIVEN ROWS OF THIS SEAT. 2 by the template 'for every input the law returns true; each argument reads behind the call as it read before'; 0 by the template 'total and deterministic' (their statements: YbulkalasTotals.lean).
  GIVEN WITH THE SEED: the statements are not yours to turn. If you find one false, say at which input.
  Laid BY PROGRAM, IN A SANDBOX (cutbox-rows.mjs): the forced cells as the released guide's own fill.sh prints them over the translation 65fc2c5ed93b293b… (all of the seat's roots in one cut). By AI agents, Wed Nov 11 2026. No macro, syntax, notation, axiom, sorry.
-/
import Derived.Test.YbulkalasChecked
import GoSem.Claim
import GoSem.ClaimJoined
import GoSem.ClaimMapViews
import Derived.JoinedTies
import Derived.KernelRfl
namespace Go.Proofs.Ybulkalas
/- THE CELL 'sum', in the pinned program and in every row, IS THE sha256 OF THE DUMP (.gsa) THAT YbulkalasProg.lean LOADS. Nothing in Lean hashes anything: it is a label: what it is worth is what the hold of that sum in a sandbox is worth. -/
noncomputable def Yba.pinned : Pinned := { name := "ybulkalas", sum := "65fc2c5ed93b293bf3496afd4cec36855f6eac1721420758b694ae9378609d2b", checked := Yba.checked }
namespace Rows
def none {H : Type} : Left H := { results := [], args := [] }

/-- 'measure.LawS1838BExact': WHATEVER THE INPUT: true; the input reads as it did. -/
def lawS1838BExactSpec : ChangeSpec := { name := "lawS1838BExact", fn := fun _ => fun
  | [d1, d2, d3, d4] => { results := [.lit (.bool true)], args := [d1, d2, d3, d4] }
  | _ => none }
def lawS1838BExactRow : OpenClaim := { program := "ybulkalas", sum := "65fc2c5ed93b293bf3496afd4cec36855f6eac1721420758b694ae9378609d2b", func := "example.com/benchwright/benchwright/internal/measure.LawS1838BExact", spec := "lawS1838BExact", apart := false }
def LawS1838BExactSaid : Prop := lawS1838BExactRow.holds Yba.pinned (OpenSpec.ofChange lawS1838BExactSpec)

/-- ITS FALSE NEIGHBOUR: 'it returns false'. Refute it at one input. -/
def lawS1838BExactWrong : ChangeSpec := { name := "lawS1838BExact", fn := fun _ => fun
  | [d1, d2, d3, d4] => { results := [.lit (.bool false)], args := [d1, d2, d3, d4] }
  | _ => none }
def LawS1838BExactWrongFalsely : Prop := lawS1838BExactRow.holds Yba.pinned (OpenSpec.ofChange lawS1838BExactWrong)

/-- 'measure.LawS1838BMonotone': WHATEVER THE INPUT: true; the input reads as it did. -/
def lawS1838BMonotoneSpec : ChangeSpec := { name := "lawS1838BMonotone", fn := fun _ => fun
  | [d1, d2, d3, d4] => { results := [.lit (.bool true)], args := [d1, d2, d3, d4] }
  | _ => none }
def lawS1838BMonotoneRow : OpenClaim := { program := "ybulkalas", sum := "65fc2c5ed93b293bf3496afd4cec36855f6eac1721420758b694ae9378609d2b", func := "example.com/benchwright/benchwright/internal/measure.LawS1838BMonotone", spec := "lawS1838BMonotone", apart := false }
def LawS1838BMonotoneSaid : Prop := lawS1838BMonotoneRow.holds Yba.pinned (OpenSpec.ofChange lawS1838BMonotoneSpec)

/-- ITS FALSE NEIGHBOUR: 'it returns false'. Refute it at one input. -/
def lawS1838BMonotoneWrong : ChangeSpec := { name := "lawS1838BMonotone", fn := fun _ => fun
  | [d1, d2, d3, d4] => { results := [.lit (.bool false)], args := [d1, d2, d3, d4] }
  | _ => none }
def LawS1838BMonotoneWrongFalsely : Prop := lawS1838BMonotoneRow.holds Yba.pinned (OpenSpec.ofChange lawS1838BMonotoneWrong)

end Rows
end Go.Proofs.Ybulkalas
