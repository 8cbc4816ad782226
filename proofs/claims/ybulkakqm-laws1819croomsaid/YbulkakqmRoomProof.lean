/-
  LawS1819CRoomSaid: the early returns; the argument opened; the row over the walk.
-/
import Derived.Test.YbulkakqmLawWalk
import Derived.ProofKit
import Derived.OpenShut
import Derived.ShutString
import Derived.ChangeOld
import Derived.Below
import Derived.Deep.Slices
import Derived.Deep.Strs
namespace Go.Proofs.Ybulkakqm.Room
open Go.RowKit
set_option linter.unusedVariables false

set_option maxRecDepth 100000 in
set_option maxHeartbeats 400000 in
theorem law_long (a : Option Addr) (k c : Nat) (n : Int) (w : World) (hm : k ≤ maxLen) (h : 256 < k) :
    Calls Yba.prog 4 #[.slice a k c, .int .i64 n] w fun e w' => e = .returned (.bool true) ∧ Below w.heap.size w w' := by
  unfold maxLen at hm
  have d0 : decide ((256 : Int) < (k : Int)) = true := by simp; omega
  go_enter Yba.func4, Yba.ntmps4
  go_wp2
  go_ret
  exact ⟨rfl, Below.refl _ _⟩

set_option maxRecDepth 100000 in
set_option maxHeartbeats 400000 in
theorem law_out (a : Option Addr) (k c : Nat) (n : Int) (w : World) (hk : k ≤ 256) (h : n < -1000 ∨ 200000 < n) :
    Calls Yba.prog 4 #[.slice a k c, .int .i64 n] w fun e w' => e = .returned (.bool true) ∧ Below w.heap.size w w' := by
  have d0 : decide ((256 : Int) < (k : Int)) = false := by simp; omega
  by_cases h1 : n < -1000
  · have d1 : decide (n < (-1000 : Int)) = true := by simp; omega
    go_enter Yba.func4, Yba.ntmps4
    go_wp2
    go_ret
    exact ⟨rfl, Below.refl _ _⟩
  · have d1 : decide (n < (-1000 : Int)) = false := by simp; omega
    have d2 : decide ((200000 : Int) < n) = true := by simp; omega
    go_enter Yba.func4, Yba.ntmps4
    go_wp2
    go_ret
    exact ⟨rfl, Below.refl _ _⟩

theorem law_all (a : Option Addr) (k c : Nat) (R E : Nat → Int) (G : Nat → Bool) (n : Int) (w : World) (hm : k ≤ maxLen) (hcs : IsDescs w a k R E G) :
    Calls Yba.prog 4 #[.slice a k c, .int .i64 n] w fun e w' => e = .returned (.bool true) ∧ Below w.heap.size w w' := by
  by_cases h1 : 256 < k
  · exact law_long a k c n w hm h1
  · by_cases h2 : n < -1000 ∨ 200000 < n
    · exact law_out a k c n w (by omega) h2
    · exact law_any a k c R E G n w (by omega) (by omega) (by omega) hcs

theorem bounds_u16' {x : Int} (h : (Lit.int .u16 x).wf = true) : 0 ≤ x ∧ x ≤ 65535 := by
  simp only [Lit.wf, IntKind.min, IntKind.max, IntKind.signed, IntKind.bits, Bool.and_eq_true] at h
  simp at h
  omega

open Go.Deep in
theorem descs_of {H : Type} {enc : TypeId × Value → H} {W : World} {base : Nat} {spare : Nat → Bool} {held : Bool} {a : Option Addr} {k c : Nat} {x : DataW H × List MemPlace} {fuel : Nat}
    (hf : DataW.trod enc Yba.prog W base spare held fuel 27 (Value.slice a k c).cells.toList = some x) : k ≤ maxLen ∧ ∃ R E G, IsDescs W a k R E G := by
  rcases open_slice Yba.underlying27 hf with ⟨hcs, _⟩ | ⟨y, len, cap, m, nf, D, Pl, hcs, hb, hl, hm, hmm, _, hx⟩
  · simp [Value.cells] at hcs
    exact ⟨by omega, fun _ => 0, fun _ => 0, fun _ => false, .inl hcs.2.1⟩
  · simp [Value.cells] at hcs
    obtain ⟨rfl, rfl, rfl⟩ := hcs
    refine ⟨by omega, ?_⟩
    have hlm : k ≤ m := by rw [hmm]; split <;> omega
    have c32 : Yba.prog.cellsOf 32 = 3 := by kernel_rfl
    have c30 : Yba.prog.cellsOf 30 = 1 := by kernel_rfl
    have c4 : Yba.prog.cellsOf 4 = 1 := by kernel_rfl
    have each : ∀ i, i < k → ∃ q : Int × Int × Bool, (0 ≤ q.1 ∧ q.1 ≤ 65535 ∧ 0 ≤ q.2.1 ∧ q.2.1 ≤ 65535) ∧ W.cell? ((y.add (i * 3)).add 0) = some (.int .u16 q.1) ∧ W.cell? ((y.add (i * 3)).add 1) = some (.int .u16 q.2.1) ∧ W.cell? ((y.add (i * 3)).add 2) = some (.bool q.2.2) := by
      intro i hi
      obtain ⟨cs', h1, h2⟩ := hx i (by omega)
      rw [c32] at h1
      obtain ⟨_, hlen, hcell⟩ := World.cells?_some h1
      obtain ⟨y0, y1, y2, n', _, _, g0, g1, g2⟩ := trod_struct3 Yba.underlying32 h2
      match cs', hlen with
      | [v0, v1, v2], _ =>
        simp only [c30, c4] at g0 g1 g2
        obtain ⟨r, e0, _, w0⟩ := DataW.trod_int Yba.underlying30 g0
        obtain ⟨e, e1, _, w1⟩ := DataW.trod_int Yba.underlying30 g1
        obtain ⟨g, e2, _⟩ := DataW.trod_bool Yba.underlying4 g2
        simp at e0 e1 e2
        subst e0 e1 e2
        have t0 := hcell 0 (by omega)
        have t1 := hcell 1 (by omega)
        have t2 := hcell 2 (by omega)
        exact ⟨(r, e, g), ⟨(bounds_u16' w0).1, (bounds_u16' w0).2, (bounds_u16' w1).1, (bounds_u16' w1).2⟩, by simpa using t0, by simpa using t1, by simpa using t2⟩
    obtain ⟨q, hq⟩ := choose_lt each
    refine ⟨fun i => (q i).1, fun i => (q i).2.1, fun i => (q i).2.2, ?_⟩
    by_cases h0 : k = 0
    · exact .inl h0
    · obtain ⟨b, off, spot⟩ := y
      have hc := (hq 0 (by omega)).2.1
      have hspot : spot = none := by simpa [Addr.add] using World.cell?_spot hc
      subst hspot
      refine .inr ⟨b, off, rfl, fun i hi => ?_⟩
      obtain ⟨p0, p1, p2, p3⟩ := hq i hi
      rw [add_plain, add_plain] at p1 p2 p3
      exact ⟨p0, p1, p2, p3⟩

end Go.Proofs.Ybulkakqm.Room

namespace Go.Proofs.Ybulkakqm.lawS1819CRoom
open Go.ChangeShapes Go.WideShapes Go.ChangeAt Go.RowKit Go.Proofs.Ybulkakqm.Room
set_option linter.unusedVariables false

theorem own : ownKnob Yba.prog.godebug = none := by kernel_rfl
theorem laidOut : laidOutB Yba.prog = true := by kernel_rfl

set_option maxRecDepth 100000 in
theorem lifted (os : Os) (started : os.Started) (H : Type) (enc : TypeId × Value → H) :
    ReturnsInHanded {} Yba.checked os 4 .any (Rows.lawS1819CRoomSpec.pre6 enc Yba.prog Yba.f4 Rows.lawS1819CRoomRow.domain false) (Rows.lawS1819CRoomSpec.post enc Yba.prog Yba.f4 false true false false) := by
  refine returnsInHanded_of_change (C := Yba.checked) own started (by kernel_rfl) Yba.func4
    (ChangeSpec.witness6 (enc := enc) (C := Yba.checked) false ⟨#[], #[.slice none 0 0, .int .i64 0], []⟩ 8 (by kernel_rfl) (by kernel_rfl) (by kernel_rfl) (by kernel_rfl)) ?_
  intro W base args ds gs before hval0 hW hcnd _
  have hval : ∀ (j : Nat) t v, Yba.f4.params[j]? = some t → args[j]? = some v → Value.okWide Yba.prog W .any base t v := hval0
  have hW' := hW
  obtain ⟨p, q, hA0, hV, rfl, hfz, hnd⟩ := hW
  have hA : DataW.TrodAll enc Yba.prog W 0 (fun _ => true) true Yba.f4.params.toList args.toList ds p := hA0
  rw [Yba.params4] at hA hval
  obtain ⟨v0, vs0, d0, ds0, p0, q0, hargs, rfl, rfl, h0, r0⟩ := trodAll_cons hA
  obtain ⟨v1, vs1, d1, ds1, p1, q1, rfl, rfl, rfl, h1, r1⟩ := trodAll_cons r0
  obtain ⟨rfl, rfl, rfl⟩ := trodAll_nil r1
  obtain rfl : args = #[v0, v1] := by cases args; simp_all
  obtain ⟨rfl, rfl⟩ := trodVars_none hV
  obtain ⟨a0, n0, c0, rfl⟩ := okWide_slice Yba.underlying27 (hval 0 27 v0 rfl rfl)
  have k0 := h0
  have lt0 : ∀ x ∈ p0, x.block < W.heap.size := by obtain ⟨m, hm⟩ := k0; exact DataW.trod_lt m _ _ _ hm
  obtain ⟨hm0, R, E, G, hS⟩ : n0 ≤ maxLen ∧ ∃ R E G, IsDescs W a0 n0 R E G := by obtain ⟨fuel, hf⟩ := h0; exact descs_of hf
  obtain ⟨a1, rfl, rfl, rfl, w1⟩ := open_int Yba.underlying3 (hval 1 3 v1 rfl rfl) h1
  clear hA0 hval0
  refine (law_all a0 n0 c0 R E G a1 W hm0 hS).mono fun e W' ⟨he, bel⟩ => ?_
  subst he
  exact ⟨_, rfl, _, _, _, [], _, [], hW', trodAll_mk1 (shut_bool Yba.underlying4 _), (trodAll_cons_mk (Below.trod laidOut (by kernel_rfl) (of_decide_eq_true (by kernel_rfl)) k0 bel lt0) (trodAll_cons_mk (shut_int Yba.underlying3 w1) trodAll_mk0)), rfl, bel.frame _, fun h => by cases h⟩

theorem over : Rows.lawS1819CRoomRow.holds Yba.pinned (OpenSpec.ofChange Rows.lawS1819CRoomSpec) :=
  OpenClaim.holds_of_wide 4 Yba.f4 rfl rfl rfl rfl rfl rfl rfl ⟨rfl, rfl, rfl, rfl, rfl⟩ rfl rfl rfl rfl rfl (by kernel_rfl) Yba.func4 (by kernel_rfl)
    (of_decide_eq_true (by kernel_rfl)) (by unfold Func.isWrapper; first | (rw [if_pos (by decide +kernel)]; kernel_rfl) | (rw [if_neg (by decide +kernel)]; exact ⟨rfl, rfl⟩))
    (fun os started H enc _ => lifted os started H enc)

/-- THE STATEMENT -/
theorem proved : Rows.LawS1819CRoomSaid := over
end Go.Proofs.Ybulkakqm.lawS1819CRoom
