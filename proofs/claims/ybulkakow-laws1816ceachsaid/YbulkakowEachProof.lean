/-
  LawS1816CEachSaid: the row over the walk.
-/
import Derived.Test.YbulkakowEachWalk
import Derived.Test.YbulkakowOpen
namespace Go.Proofs.Ybulkakow.Rec
open Go.RowKit
set_option maxHeartbeats 400000 in
theorem each_long (a : Option Addr) (n c : Nat) (w : World) (hm : n ≤ maxLen) (h : 1024 < n) :
    Calls Yba.prog 6 #[.slice a n c] w fun e w' => e = .returned (.bool true) ∧ Below w.heap.size w w' := by
  unfold maxLen at hm
  have d0 : decide ((1024 : Int) < (n : Int)) = true := by simp; omega
  go_enter Yba.func6, Yba.ntmps6
  go_wp2_with fail
  go_ret
  exact ⟨rfl, Below.refl _ _⟩

theorem each_all (a : Option Addr) (n c : Nat) (S : Nat → ByteArray) (w : World) (hm : n ≤ maxLen) (hS : IsStrs w a n S) :
    Calls Yba.prog 6 #[.slice a n c] w fun e w' => e = .returned (.bool true) ∧ Below w.heap.size w w' := by
  by_cases h : 1024 < n
  · exact each_long a n c w hm h
  · exact each_any a n c S w (by omega) hS
end Go.Proofs.Ybulkakow.Rec

namespace Go.Proofs.Ybulkakow.lawS1816CEach
open Go.ChangeShapes Go.WideShapes Go.ChangeAt Go.RowKit Go.Proofs.Ybulkakow.Rec
set_option linter.unusedVariables false

set_option maxRecDepth 100000 in
theorem lifted (os : Os) (started : os.Started) (H : Type) (enc : TypeId × Value → H) :
    ReturnsInHanded {} Yba.checked os 6 .any (Rows.lawS1816CEachSpec.pre6 enc Yba.prog Yba.f6 Rows.lawS1816CEachRow.domain false) (Rows.lawS1816CEachSpec.post enc Yba.prog Yba.f6 false true false false) := by
  refine returnsInHanded_of_change (C := Yba.checked) own started (by kernel_rfl) Yba.func6
    (ChangeSpec.witness6 (enc := enc) (C := Yba.checked) false ⟨#[], #[.slice none 0 0], []⟩ 8 (by kernel_rfl) (by kernel_rfl) (by kernel_rfl) (by kernel_rfl)) ?_
  intro W base args ds gs before hval0 hW hcnd _
  have hval : ∀ (j : Nat) t v, Yba.f6.params[j]? = some t → args[j]? = some v → Value.okWide Yba.prog W .any base t v := hval0
  have hW' := hW
  obtain ⟨p, q, hA0, hV, rfl, hfz, hnd⟩ := hW
  have hA : DataW.TrodAll enc Yba.prog W 0 (fun _ => true) true Yba.f6.params.toList args.toList ds p := hA0
  rw [Yba.params6] at hA hval
  obtain ⟨v0, vs0, d0, ds0, p0, q0, hargs, rfl, rfl, h0, r0⟩ := trodAll_cons hA
  obtain ⟨rfl, rfl, rfl⟩ := trodAll_nil r0
  obtain rfl : args = #[v0] := by cases args; simp_all
  obtain ⟨rfl, rfl⟩ := trodVars_none hV
  obtain ⟨a0, n0, c0, rfl⟩ := okWide_slice Yba.underlying29 (hval 0 29 v0 rfl rfl)
  have k0 := h0
  have lt0 : ∀ x ∈ p0, x.block < W.heap.size := by obtain ⟨m, hm⟩ := k0; exact DataW.trod_lt m _ _ _ hm
  obtain ⟨hm0, S, hS⟩ : n0 ≤ maxLen ∧ ∃ S, IsStrs W a0 n0 S := by obtain ⟨fuel, hf⟩ := h0; exact strs_of hf
  clear hA0 hval0
  refine (each_all a0 n0 c0 S W hm0 hS).mono fun e W' ⟨he, bel⟩ => ?_
  subst he
  exact ⟨_, rfl, _, _, _, [], _, [], hW', trodAll_mk1 (shut_bool Yba.underlying4 _), (trodAll_cons_mk (Below.trod laidOut (by kernel_rfl) (of_decide_eq_true (by kernel_rfl)) k0 bel lt0) trodAll_mk0), rfl, bel.frame _, fun h => by cases h⟩

theorem over : Rows.lawS1816CEachRow.holds Yba.pinned (OpenSpec.ofChange Rows.lawS1816CEachSpec) :=
  OpenClaim.holds_of_wide 6 Yba.f6 rfl rfl rfl rfl rfl rfl rfl ⟨rfl, rfl, rfl, rfl, rfl⟩ rfl rfl rfl rfl rfl (by kernel_rfl) Yba.func6 (by kernel_rfl)
    (of_decide_eq_true (by kernel_rfl)) (by unfold Func.isWrapper; first | (rw [if_pos (by decide +kernel)]; kernel_rfl) | (rw [if_neg (by decide +kernel)]; exact ⟨rfl, rfl⟩))
    (fun os started H enc _ => lifted os started H enc)

/-- THE STATEMENT -/
theorem proved : Rows.LawS1816CEachSaid := over
end Go.Proofs.Ybulkakow.lawS1816CEach
