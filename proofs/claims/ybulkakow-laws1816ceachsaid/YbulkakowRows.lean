/-
  No cell of these rows narrows 'for every input' (looked for: loops, veiled, ifaces, maps, wideKeys, modest, calm, conditions, laid).
  DERIVED. THE GIVEN ROWS OF THIS SEAT. 4 by the template 'for every input the law returns true; each argument reads behind the call as it read before'; 0 by the template 'total and deterministic' (their statements: YbulkakowTotals.lean).
  GIVEN WITH THE SEED: the statements are not yours to turn. If you find one false, say at which input.
  Laid BY PROGRAM, IN A SANDBOX (cutbox-rows.mjs): the forced cells as the released guide's own fill.sh prints them over the translation 819d77995b737a3a… (all of the seat's roots in one cut). By AI agents, Wed Nov 11 2026. No macro, syntax, notation, axiom, sorry.
-/
import Derived.Test.YbulkakowChecked
import GoSem.Claim
import GoSem.ClaimJoined
import GoSem.ClaimMapViews
import Derived.JoinedTies
import Derived.KernelRfl
namespace Go.Proofs.Ybulkakow
/- THE CELL 'sum', in the pinned program and in every row, IS THE sha256 OF THE DUMP (.gsa) THAT YbulkakowProg.lean LOADS. Nothing in Lean hashes anything: it is a label: what it is worth is what the hold of that sum in a sandbox is worth. -/
noncomputable def Yba.pinned : Pinned := { name := "ybulkakow", sum := "819d77995b737a3abe35c371eebaea0350756769f6c584a61eea51c8ba50da5d", checked := Yba.checked }
namespace Rows
def none {H : Type} : Left H := { results := [], args := [] }

/-- 'jsonval.LawS1816AWalk': WHATEVER THE INPUT: true; the input reads as it did. -/
def lawS1816AWalkSpec : ChangeSpec := { name := "lawS1816AWalk", fn := fun _ => fun
  | [d1, d2, d3] => { results := [.lit (.bool true)], args := [d1, d2, d3] }
  | _ => none }
def lawS1816AWalkRow : OpenClaim := { program := "ybulkakow", sum := "819d77995b737a3abe35c371eebaea0350756769f6c584a61eea51c8ba50da5d", func := "example.com/placefold/placefold/internal/jsonval.LawS1816AWalk", spec := "lawS1816AWalk", inPlace := ["internal/bytealg.Count", "internal/bytealg.IndexByte", "internal/bytealg.Index"], named := ["internal/bytealg.MaxLen"], apart := false }
def LawS1816AWalkSaid : Prop := lawS1816AWalkRow.holds Yba.pinned (OpenSpec.ofChange lawS1816AWalkSpec)

/-- ITS FALSE NEIGHBOUR: 'it returns false'. Refute it at one input. -/
def lawS1816AWalkWrong : ChangeSpec := { name := "lawS1816AWalk", fn := fun _ => fun
  | [d1, d2, d3] => { results := [.lit (.bool false)], args := [d1, d2, d3] }
  | _ => none }
def LawS1816AWalkWrongFalsely : Prop := lawS1816AWalkRow.holds Yba.pinned (OpenSpec.ofChange lawS1816AWalkWrong)

/-- 'jsonval.LawS1816AConcat': WHATEVER THE INPUT: true; the input reads as it did. -/
def lawS1816AConcatSpec : ChangeSpec := { name := "lawS1816AConcat", fn := fun _ => fun
  | [d1, d2, d3, d4] => { results := [.lit (.bool true)], args := [d1, d2, d3, d4] }
  | _ => none }
def lawS1816AConcatRow : OpenClaim := { program := "ybulkakow", sum := "819d77995b737a3abe35c371eebaea0350756769f6c584a61eea51c8ba50da5d", func := "example.com/placefold/placefold/internal/jsonval.LawS1816AConcat", spec := "lawS1816AConcat", inPlace := ["internal/bytealg.Count", "internal/bytealg.IndexByte", "internal/bytealg.Index"], named := ["internal/bytealg.MaxLen"], apart := false }
def LawS1816AConcatSaid : Prop := lawS1816AConcatRow.holds Yba.pinned (OpenSpec.ofChange lawS1816AConcatSpec)

/-- ITS FALSE NEIGHBOUR: 'it returns false'. Refute it at one input. -/
def lawS1816AConcatWrong : ChangeSpec := { name := "lawS1816AConcat", fn := fun _ => fun
  | [d1, d2, d3, d4] => { results := [.lit (.bool false)], args := [d1, d2, d3, d4] }
  | _ => none }
def LawS1816AConcatWrongFalsely : Prop := lawS1816AConcatRow.holds Yba.pinned (OpenSpec.ofChange lawS1816AConcatWrong)

/-- 'place.LawS1816CFind': WHATEVER THE INPUT: true; the input reads as it did. -/
def lawS1816CFindSpec : ChangeSpec := { name := "lawS1816CFind", fn := fun _ => fun
  | [d1, d2, d3, d4] => { results := [.lit (.bool true)], args := [d1, d2, d3, d4] }
  | _ => none }
def lawS1816CFindRow : OpenClaim := { program := "ybulkakow", sum := "819d77995b737a3abe35c371eebaea0350756769f6c584a61eea51c8ba50da5d", func := "example.com/placefold/placefold/internal/place.LawS1816CFind", spec := "lawS1816CFind", inPlace := ["internal/bytealg.abigen_runtime_cmpstring"], unfollowed := true, recurses := true, apart := false }
def LawS1816CFindSaid : Prop := lawS1816CFindRow.holds Yba.pinned (OpenSpec.ofChange lawS1816CFindSpec)

/-- ITS FALSE NEIGHBOUR: 'it returns false'. Refute it at one input. -/
def lawS1816CFindWrong : ChangeSpec := { name := "lawS1816CFind", fn := fun _ => fun
  | [d1, d2, d3, d4] => { results := [.lit (.bool false)], args := [d1, d2, d3, d4] }
  | _ => none }
def LawS1816CFindWrongFalsely : Prop := lawS1816CFindRow.holds Yba.pinned (OpenSpec.ofChange lawS1816CFindWrong)

/-- 'place.LawS1816CEach': WHATEVER THE INPUT: true; the input reads as it did. -/
def lawS1816CEachSpec : ChangeSpec := { name := "lawS1816CEach", fn := fun _ => fun
  | [d] => { results := [.lit (.bool true)], args := [d] }
  | _ => none }
def lawS1816CEachRow : OpenClaim := { program := "ybulkakow", sum := "819d77995b737a3abe35c371eebaea0350756769f6c584a61eea51c8ba50da5d", func := "example.com/placefold/placefold/internal/place.LawS1816CEach", spec := "lawS1816CEach", inPlace := ["internal/bytealg.abigen_runtime_cmpstring"], unfollowed := true, recurses := true, apart := false }
def LawS1816CEachSaid : Prop := lawS1816CEachRow.holds Yba.pinned (OpenSpec.ofChange lawS1816CEachSpec)

/-- ITS FALSE NEIGHBOUR: 'it returns false'. Refute it at one input. -/
def lawS1816CEachWrong : ChangeSpec := { name := "lawS1816CEach", fn := fun _ => fun
  | [d] => { results := [.lit (.bool false)], args := [d] }
  | _ => none }
def LawS1816CEachWrongFalsely : Prop := lawS1816CEachRow.holds Yba.pinned (OpenSpec.ofChange lawS1816CEachWrong)

end Rows
end Go.Proofs.Ybulkakow
