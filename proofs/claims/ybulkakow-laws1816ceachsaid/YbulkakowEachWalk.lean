/-
  The walk of LawS1816CEach.
-/
import Derived.Test.YbulkakowFindWalk
import Derived.Lib.QuietBelow
namespace Go.Proofs.Ybulkakow.Rec
open Go.RowKit Go.Sort Go.Shelf Go.Lib Go.Proofs
set_option linter.unusedVariables false

set_option maxHeartbeats 2000000 in
theorem each_any (a : Option Addr) (n c : Nat) (S : Nat → ByteArray) (w : World) (hn : n ≤ 1024) (hS : IsStrs w a n S) :
    Calls Yba.prog 6 #[.slice a n c] w fun e w' => e = .returned (.bool true) ∧ Below w.heap.size w w' := by
  have AS : Aside (IsStrs w a n S) := hS
  clear hS
  go_enter Yba.func6, Yba.ntmps6
  go_wp2_with fail
  refine (set_any a n c S w hn AS.out).mono ?_
  rintro e w1 ⟨g, m, T, R, hm, rfl, hSet, hT, hB⟩
  have hwl := hB.size
  have W : Aside (SetAt (w1.alloc (.cells #[.slice (some ⟨g, 0, none⟩) m m, .int .i64 0, .slice none 0 0] 33)) g m T R ∧ Below w.heap.size w (w1.alloc (.cells #[.slice (some ⟨g, 0, none⟩) m m, .int .i64 0, .slice none 0 0] 33))) := by
    have hb : Below w1.heap.size w1 (w1.alloc (.cells #[.slice (some ⟨g, 0, none⟩) m m, .int .i64 0, .slice none 0 0] 33)) := (Below.refl _ _).alloc (Nat.le_refl _) _
    exact ⟨setAt_below hSet (Nat.le_refl _) hb, hB.trans (hb.mono hwl)⟩
  have A : Aside (∀ a b, a < b → b < m → T a < T b) := hT
  clear hSet hT hB AS
  unfold setV
  have hq := ne46
  go_wp2
  go_loopg [4] m (fun gk s4 wr => ∃ k : Nat, k ≤ m ∧ m - k ≤ gk ∧ s4 = .int .i64 k ∧ Aside (Below (w1.heap.size + 1) (w1.alloc (.cells #[.slice (some ⟨g, 0, none⟩) m m, .int .i64 0, .slice none 0 0] 33)) wr))
  case atStart => exact ⟨0, Nat.zero_le _, Nat.le_refl _, rfl, Below.refl _ _⟩
  case round =>
    obtain ⟨k, hk, hg, rfl, X⟩ := hrel
    have c0 : wr.cell? ⟨w1.heap.size, 0, none⟩ = some (.slice (some ⟨g, 0, none⟩) m m) := (X.out.cell (p := ⟨w1.heap.size, 0, none⟩) (Nat.lt_succ_self _)).trans (by simp)
    by_cases hkm : k < m
    · have c1 : wr.cell? ⟨w1.heap.size, 1, none⟩ = some (.int .i64 0) := (X.out.cell (p := ⟨w1.heap.size, 1, none⟩) (Nat.lt_succ_self _)).trans (by simp)
      have c2 : wr.cell? ⟨w1.heap.size, 2, none⟩ = some (.slice none 0 0) := (X.out.cell (p := ⟨w1.heap.size, 2, none⟩) (Nat.lt_succ_self _)).trans (by simp)
      have hV : SetAt wr g m T R := setAt_below W.out.1 (by simp) X.out
      have d0 := cell_regrown c0
      have d1 := cell_regrown c1
      have d2 := cell_regrown c2
      have d3 := cell_regrown (hV k hkm).1
      have d4 := cell_regrown (hV k hkm).2.2.1
      unfold encStr at d4
      have cR : ∀ d os, Calls Yba.prog 10 #[setV g m, .string ⟨(T k).toArray⟩] (grow (redrawn wr d) os) fun e w'' => e = .returned (.pointer (some ⟨R k, 0, none⟩)) ∧ ∃ p : Regrown, w'' = grow (redrawn wr p.d) p.os := fun d os =>
        Calls.regrown_of (record_any g m T R ⟨(T k).toArray⟩ _ hm (setAt_below hV (Nat.le_refl _) (below_regrown wr d os)) A.out _ (.inl ⟨k, hkm, rfl, rfl⟩))
      unfold setV at cR
      clear hV
      have CR : Aside _ := cR
      clear cR
      go_wp2
      refine wp_region_quiet_below (by kernel_rfl) (by kernel_rfl) ?_
      repeat (quiet_step (exact CR.out _ _))
      refine wpQuiet_nil ?_
      intro _ hw'
      obtain ⟨⟨dq, osq⟩, hw''⟩ := hw'
      subst hw''
      go_wp2
      go_roundg (m - (k + 1))
      case measure => omega
      case rel => exact ⟨k + 1, by omega, Nat.le_refl _, by go_num, X.out.trans ((below_regrown wr dq osq).mono (by have := X.out.size; simp at this; omega))⟩
    · go_wp2
      go_ret
      exact ⟨rfl, W.out.2.trans (X.out.mono (by omega))⟩

end Go.Proofs.Ybulkakow.Rec
