/-
  No cell of these rows narrows 'for every input' (looked for: loops, veiled, ifaces, maps, wideKeys, modest, calm, conditions, laid).
  DERIVED. THE GIVEN ROWS OF THIS SEAT. 4 by the template 'for every input the law returns true; each argument reads behind the call as it read before'; 0 by the template 'total and deterministic' (their statements: YbulkakpkTotals.lean).
  GIVEN WITH THE SEED: the statements are not yours to turn. If you find one false, say at which input.
  Laid BY PROGRAM, IN A SANDBOX (cutbox-rows.mjs): the forced cells as the released guide's own fill.sh prints them over the translation a1ee007086fc211b… (all of the seat's roots in one cut). By AI agents, Wed Nov 11 2026. No macro, syntax, notation, axiom, sorry.
-/
import Derived.Test.YbulkakpkChecked
import GoSem.Claim
import GoSem.ClaimJoined
import GoSem.ClaimMapViews
import Derived.JoinedTies
import Derived.KernelRfl
namespace Go.Proofs.Ybulkakpk
/- THE CELL 'sum', in the pinned program and in every row, IS THE sha256 OF THE DUMP (.gsa) THAT YbulkakpkProg.lean LOADS. Nothing in Lean hashes anything: it is a label: what it is worth is what the hold of that sum in a sandbox is worth. -/
noncomputable def Yba.pinned : Pinned := { name := "ybulkakpk", sum := "a1ee007086fc211b72eaac27cfe362693df32d3231ce2deca5f84d9eccd10605", checked := Yba.checked }
namespace Rows
def none {H : Type} : Left H := { results := [], args := [] }

/-- 'wire.LawS1817BExact': WHATEVER THE INPUT: true; the input reads as it did. -/
def lawS1817BExactSpec : ChangeSpec := { name := "lawS1817BExact", fn := fun _ => fun
  | [d1, d2, d3, d4, d5] => { results := [.lit (.bool true)], args := [d1, d2, d3, d4, d5] }
  | _ => none }
def lawS1817BExactRow : OpenClaim := { program := "ybulkakpk", sum := "a1ee007086fc211b72eaac27cfe362693df32d3231ce2deca5f84d9eccd10605", func := "example.com/antecedent/antecedent/internal/wire.LawS1817BExact", spec := "lawS1817BExact", apart := false }
def LawS1817BExactSaid : Prop := lawS1817BExactRow.holds Yba.pinned (OpenSpec.ofChange lawS1817BExactSpec)

/-- ITS FALSE NEIGHBOUR: 'it returns false'. Refute it at one input. -/
def lawS1817BExactWrong : ChangeSpec := { name := "lawS1817BExact", fn := fun _ => fun
  | [d1, d2, d3, d4, d5] => { results := [.lit (.bool false)], args := [d1, d2, d3, d4, d5] }
  | _ => none }
def LawS1817BExactWrongFalsely : Prop := lawS1817BExactRow.holds Yba.pinned (OpenSpec.ofChange lawS1817BExactWrong)

/-- 'wire.LawS1817BSymmetric': WHATEVER THE INPUT: true; the input reads as it did. -/
def lawS1817BSymmetricSpec : ChangeSpec := { name := "lawS1817BSymmetric", fn := fun _ => fun
  | [d1, d2, d3, d4, d5] => { results := [.lit (.bool true)], args := [d1, d2, d3, d4, d5] }
  | _ => none }
def lawS1817BSymmetricRow : OpenClaim := { program := "ybulkakpk", sum := "a1ee007086fc211b72eaac27cfe362693df32d3231ce2deca5f84d9eccd10605", func := "example.com/antecedent/antecedent/internal/wire.LawS1817BSymmetric", spec := "lawS1817BSymmetric", apart := false }
def LawS1817BSymmetricSaid : Prop := lawS1817BSymmetricRow.holds Yba.pinned (OpenSpec.ofChange lawS1817BSymmetricSpec)

/-- ITS FALSE NEIGHBOUR: 'it returns false'. Refute it at one input. -/
def lawS1817BSymmetricWrong : ChangeSpec := { name := "lawS1817BSymmetric", fn := fun _ => fun
  | [d1, d2, d3, d4, d5] => { results := [.lit (.bool false)], args := [d1, d2, d3, d4, d5] }
  | _ => none }
def LawS1817BSymmetricWrongFalsely : Prop := lawS1817BSymmetricRow.holds Yba.pinned (OpenSpec.ofChange lawS1817BSymmetricWrong)

/-- 'cluster.LawS1817CForward': WHATEVER THE INPUT: true; the input reads as it did. -/
def lawS1817CForwardSpec : ChangeSpec := { name := "lawS1817CForward", fn := fun _ => fun
  | [d1, d2, d3] => { results := [.lit (.bool true)], args := [d1, d2, d3] }
  | _ => none }
def lawS1817CForwardRow : OpenClaim := { program := "ybulkakpk", sum := "a1ee007086fc211b72eaac27cfe362693df32d3231ce2deca5f84d9eccd10605", func := "example.com/antecedent/antecedent/internal/cluster.LawS1817CForward", spec := "lawS1817CForward", apart := false }
def LawS1817CForwardSaid : Prop := lawS1817CForwardRow.holds Yba.pinned (OpenSpec.ofChange lawS1817CForwardSpec)

/-- ITS FALSE NEIGHBOUR: 'it returns false'. Refute it at one input. -/
def lawS1817CForwardWrong : ChangeSpec := { name := "lawS1817CForward", fn := fun _ => fun
  | [d1, d2, d3] => { results := [.lit (.bool false)], args := [d1, d2, d3] }
  | _ => none }
def LawS1817CForwardWrongFalsely : Prop := lawS1817CForwardRow.holds Yba.pinned (OpenSpec.ofChange lawS1817CForwardWrong)

/-- 'cluster.LawS1817CFrom': WHATEVER THE INPUT: true; the input reads as it did. -/
def lawS1817CFromSpec : ChangeSpec := { name := "lawS1817CFrom", fn := fun _ => fun
  | [d1, d2, d3] => { results := [.lit (.bool true)], args := [d1, d2, d3] }
  | _ => none }
def lawS1817CFromRow : OpenClaim := { program := "ybulkakpk", sum := "a1ee007086fc211b72eaac27cfe362693df32d3231ce2deca5f84d9eccd10605", func := "example.com/antecedent/antecedent/internal/cluster.LawS1817CFrom", spec := "lawS1817CFrom", apart := false }
def LawS1817CFromSaid : Prop := lawS1817CFromRow.holds Yba.pinned (OpenSpec.ofChange lawS1817CFromSpec)

/-- ITS FALSE NEIGHBOUR: 'it returns false'. Refute it at one input. -/
def lawS1817CFromWrong : ChangeSpec := { name := "lawS1817CFrom", fn := fun _ => fun
  | [d1, d2, d3] => { results := [.lit (.bool false)], args := [d1, d2, d3] }
  | _ => none }
def LawS1817CFromWrongFalsely : Prop := lawS1817CFromRow.holds Yba.pinned (OpenSpec.ofChange lawS1817CFromWrong)

end Rows
end Go.Proofs.Ybulkakpk
