/-
  No cell of these rows narrows 'for every input' (looked for: loops, veiled, ifaces, maps, wideKeys, modest, calm, conditions, laid).
  DERIVED. THE GIVEN ROWS OF THIS SEAT. 2 by the template 'for every input the law returns true; each argument reads behind the call as it read before'; 0 by the template 'total and deterministic' (their statements: YbulkakqmTotals.lean).
  GIVEN WITH THE SEED: the statements are not yours to turn. If you find one false, say at which input.
  Laid BY PROGRAM, IN A SANDBOX (cutbox-rows.mjs): the forced cells as the released guide's own fill.sh prints them over the translation d079bb5db2885d85… (all of the seat's roots in one cut). By AI agents, Wed Nov 11 2026. No macro, syntax, notation, axiom, sorry.
-/
import Derived.Test.YbulkakqmChecked
import GoSem.Claim
import GoSem.ClaimJoined
import GoSem.ClaimMapViews
import Derived.JoinedTies
import Derived.KernelRfl
namespace Go.Proofs.Ybulkakqm
/- THE CELL 'sum', in the pinned program and in every row, IS THE sha256 OF THE DUMP (.gsa) THAT YbulkakqmProg.lean LOADS. Nothing in Lean hashes anything: it is a label: what it is worth is what the hold of that sum in a sandbox is worth. -/
noncomputable def Yba.pinned : Pinned := { name := "ybulkakqm", sum := "d079bb5db2885d8563464498aa133c89a959754920d8aa51135140b4d99db194", checked := Yba.checked }
namespace Rows
def none {H : Type} : Left H := { results := [], args := [] }

/-- 'code.LawS1819BBigEndian': WHATEVER THE INPUT: true; the input reads as it did. -/
def lawS1819BBigEndianSpec : ChangeSpec := { name := "lawS1819BBigEndian", fn := fun _ => fun
  | [d1, d2] => { results := [.lit (.bool true)], args := [d1, d2] }
  | _ => none }
def lawS1819BBigEndianRow : OpenClaim := { program := "ybulkakqm", sum := "d079bb5db2885d8563464498aa133c89a959754920d8aa51135140b4d99db194", func := "example.com/opstone/opstone/pkg/code.LawS1819BBigEndian", spec := "lawS1819BBigEndian", apart := false }
def LawS1819BBigEndianSaid : Prop := lawS1819BBigEndianRow.holds Yba.pinned (OpenSpec.ofChange lawS1819BBigEndianSpec)

/-- ITS FALSE NEIGHBOUR: 'it returns false'. Refute it at one input. -/
def lawS1819BBigEndianWrong : ChangeSpec := { name := "lawS1819BBigEndian", fn := fun _ => fun
  | [d1, d2] => { results := [.lit (.bool false)], args := [d1, d2] }
  | _ => none }
def LawS1819BBigEndianWrongFalsely : Prop := lawS1819BBigEndianRow.holds Yba.pinned (OpenSpec.ofChange lawS1819BBigEndianWrong)

/-- 'code.LawS1819CRoom': WHATEVER THE INPUT: true; the input reads as it did. -/
def lawS1819CRoomSpec : ChangeSpec := { name := "lawS1819CRoom", fn := fun _ => fun
  | [d1, d2] => { results := [.lit (.bool true)], args := [d1, d2] }
  | _ => none }
def lawS1819CRoomRow : OpenClaim := { program := "ybulkakqm", sum := "d079bb5db2885d8563464498aa133c89a959754920d8aa51135140b4d99db194", func := "example.com/opstone/opstone/pkg/code.LawS1819CRoom", spec := "lawS1819CRoom", apart := false }
def LawS1819CRoomSaid : Prop := lawS1819CRoomRow.holds Yba.pinned (OpenSpec.ofChange lawS1819CRoomSpec)

/-- ITS FALSE NEIGHBOUR: 'it returns false'. Refute it at one input. -/
def lawS1819CRoomWrong : ChangeSpec := { name := "lawS1819CRoom", fn := fun _ => fun
  | [d1, d2] => { results := [.lit (.bool false)], args := [d1, d2] }
  | _ => none }
def LawS1819CRoomWrongFalsely : Prop := lawS1819CRoomRow.holds Yba.pinned (OpenSpec.ofChange lawS1819CRoomWrong)

end Rows
end Go.Proofs.Ybulkakqm
