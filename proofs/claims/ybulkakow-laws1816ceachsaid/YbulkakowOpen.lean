/-
  From what the reader gives of a slice of strings to what the walks are told.
-/
import Derived.Test.YbulkakowSet
import Derived.ProofKit
import Derived.OpenShut
import Derived.ShutString
import Derived.ChangeOld
import Derived.Below
import Derived.SliceStrings
namespace Go.Proofs.Ybulkakow.Rec
open Go.ChangeShapes Go.WideShapes Go.ChangeAt Go.RowKit
set_option linter.unusedVariables false

theorem own : ownKnob Yba.prog.godebug = none := by kernel_rfl
theorem laidOut : laidOutB Yba.prog = true := by kernel_rfl

theorem strs_of {H : Type} {enc : TypeId × Value → H} {W : World} {base : Nat} {spare : Nat → Bool} {held : Bool} {a : Option Addr} {n c : Nat} {x : DataW H × List MemPlace} {fuel : Nat}
    (hf : DataW.trod enc Yba.prog W base spare held fuel 29 (Value.slice a n c).cells.toList = some x) : n ≤ maxLen ∧ ∃ S, IsStrs W a n S := by
  rcases open_strings Yba.underlying29 Yba.underlying9 (by kernel_rfl) hf with ⟨hcs, _⟩ | ⟨y, l, cp, ss, hcs, _, hl, hm, hz, _, hcell, hws⟩
  · simp [Value.cells] at hcs
    exact ⟨by omega, fun _ => ⟨#[]⟩, .inl hcs.2.1⟩
  · simp [Value.cells] at hcs
    obtain ⟨rfl, rfl, rfl⟩ := hcs
    refine ⟨by omega, fun i => ss.getD i ByteArray.empty, ?_⟩
    have hz' : n ≤ ss.length := by split at hz <;> omega
    by_cases h0 : n = 0
    · exact .inl h0
    · obtain ⟨b, off, spot⟩ := y
      have hc := hcell 0 (by omega)
      have hspot : spot = none := by simpa [Addr.add] using World.cell?_spot hc
      subst hspot
      exact .inr ⟨b, off, rfl, fun i hi => by rw [← add_plain]; exact hcell i (by omega)⟩

end Go.Proofs.Ybulkakow.Rec
