/-
  The walks for LawS1817BExact: zzs1817bsame at one slice twice; NewSpan; the law.
-/
import Derived.Test.YbulkakpkRows
import Derived.WalkKit
import Derived.WalkSpells
import Derived.WalkLawsBesides
import Derived.BigQuiet
import Derived.Deep.QuietTactic
import Derived.Lib.Builder
namespace Go.Proofs.Ybulkakpk.lawS1817BExact
open Go.RowKit
set_option linter.unusedVariables false

theorem info9 : ∃ j, Yba.prog.info? 9 = some j := by
  have h : (Yba.prog.info? 9).isSome = true := by kernel_rfl
  exact Option.isSome_iff_exists.1 h

/-- What the walk is told of a slice that came in: it has no element; or its address is plain. -/
def Plain (a : Option Addr) (n : Nat) : Prop := n = 0 ∨ (0 < n ∧ n ≤ maxLen ∧ ∃ b off, a = some ⟨b, off, none⟩)

set_option maxHeartbeats 400000 in
theorem same_any (a : Option Addr) (n c : Nat) (w : World) (h : Plain a n) :
    Calls Yba.prog 8 #[.slice a n c, .slice a n c] w fun e w' => e = .returned (.bool true) ∧ ∃ k, w' = w.drewN k := by
  have q22 : ∀ (w : World) (a : Option Addr) (n c n' c' : Nat), (binOp .eql 22 (.slice a n c) (.slice none n' c')).run Yba.prog w = .ok (.bool a.isNone) w := fun w a n c n' c' => Lib.run_eql_slice_nil w _ _ a n c n' c' Yba.underlying22
  obtain ⟨j, hj⟩ := info9
  have n40 : ∀ (w : World) (x : Addr), (binOp .neq 40 (.pointer (some x)) (.pointer (some x))).run Yba.prog w = .ok (.bool false) w := fun w x => Lib.run_neq_ptr_same w x Yba.underlying40 hj
  clear hj
  rcases h with rfl | ⟨h0, hm, b, off, rfl⟩
  · have hd : decide ((0 : Int) < 0) = false := rfl
    go_enter Yba.func8, Yba.ntmps8
    go_wp2
    go_quiet (fail)
    go_wp2
    go_ret
    exact ⟨rfl, _, rfl⟩
  · unfold maxLen at hm
    have hp : (0 : Int) < (n : Int) := by omega
    go_enter Yba.func8, Yba.ntmps8
    go_wp2
    go_quiet (fail)
    go_wp2
    go_ret
    exact ⟨rfl, _, rfl⟩

theorem less_asymm : ∀ x y : List UInt8, Op.bytesLess x y = true → Op.bytesLess y x = false
  | [], [], h => by simp [Op.bytesLess] at h
  | _ :: _, [], h => by simp [Op.bytesLess] at h
  | [], _ :: _, _ => by simp [Op.bytesLess]
  | a :: x, b :: y, h => by
    simp only [Op.bytesLess, Bool.or_eq_true, Bool.and_eq_true, decide_eq_true_eq, beq_iff_eq] at h
    simp only [Op.bytesLess, Bool.or_eq_false_iff, Bool.and_eq_false_iff, decide_eq_false_iff_not]
    rcases h with h | ⟨rfl, h⟩
    · have h' : a.toNat < b.toNat := h
      refine ⟨fun (hh : b < a) => ?_, Or.inl ?_⟩
      · have : b.toNat < a.toNat := hh
        omega
      · rw [beq_eq_false_iff_ne]
        intro e
        subst e
        omega
    · refine ⟨fun (hh : a < a) => ?_, Or.inr (less_asymm x y h)⟩
      have : a.toNat < a.toNat := hh
      omega

set_option maxHeartbeats 400000 in
theorem span_lt (s0 : ByteArray) (a1 : Option Addr) (n1 c1 : Nat) (s2 : ByteArray) (a3 : Option Addr) (n3 c3 : Nat) (b4 : Bool) (w : World) (hlt : Op.bytesLess s2.toList s0.toList = true) :
    Calls Yba.prog 7 #[.string s0, .slice a1 n1 c1, .string s2, .slice a3 n3 c3, .bool b4] w fun e w' => e = .returned (.agg #[.string s2, .string s0, .slice a3 n3 c3, .slice a1 n1 c1, .bool b4, .string ⟨#[]⟩]) ∧ ∃ cs, w' = w.alloc (.cells cs 26) := by
  go_enter Yba.func7, Yba.ntmps7
  go_wp2
  exact bodyPost_ret (v := .agg #[.string s2, .string s0, .slice a3 n3 c3, .slice a1 n1 c1, .bool b4, .string ⟨#[]⟩]) (by simp [results, Yba.results7, go_sem]) rfl ⟨rfl, _, rfl⟩

set_option maxHeartbeats 400000 in
theorem span_ge (s0 : ByteArray) (a1 : Option Addr) (n1 c1 : Nat) (s2 : ByteArray) (a3 : Option Addr) (n3 c3 : Nat) (b4 : Bool) (w : World) (hlt : Op.bytesLess s2.toList s0.toList = false) :
    Calls Yba.prog 7 #[.string s0, .slice a1 n1 c1, .string s2, .slice a3 n3 c3, .bool b4] w fun e w' => e = .returned (.agg #[.string s0, .string s2, .slice a1 n1 c1, .slice a3 n3 c3, .bool b4, .string ⟨#[]⟩]) ∧ ∃ cs, w' = w.alloc (.cells cs 26) := by
  go_enter Yba.func7, Yba.ntmps7
  go_wp2
  exact bodyPost_ret (v := .agg #[.string s0, .string s2, .slice a1 n1 c1, .slice a3 n3 c3, .bool b4, .string ⟨#[]⟩]) (by simp [results, Yba.results7, go_sem]) rfl ⟨rfl, _, rfl⟩

set_option maxHeartbeats 1000000 in
theorem law_any (s0 : ByteArray) (a1 : Option Addr) (n1 c1 : Nat) (s2 : ByteArray) (a3 : Option Addr) (n3 c3 : Nat) (b4 : Bool) (w : World) (h1 : Plain a1 n1) (h3 : Plain a3 n3) :
    Calls Yba.prog 3 #[.string s0, .slice a1 n1 c1, .string s2, .slice a3 n3 c3, .bool b4] w fun e w' => e = .returned (.bool true) ∧ Below w.heap.size w w' := by
  cases hlt : Op.bytesLess s2.toList s0.toList
  · go_enter Yba.func3, Yba.ntmps3
    go_wp2_with (first
      | (go_at_call 7; refine (span_ge _ _ _ _ _ _ _ _ _ _ hlt).mono ?_; rintro e w' ⟨rfl, cs, rfl⟩))
    refine (same_any _ _ _ _ h1).mono ?_
    rintro e w' ⟨rfl, k1, rfl⟩
    go_wp2_with fail
    refine (same_any _ _ _ _ h3).mono ?_
    rintro e w' ⟨rfl, k2, rfl⟩
    go_wp2_with fail
    go_ret
    exact ⟨rfl, below_drewN (((Below.refl _ _).alloc (Nat.le_refl _) _).alloc (by simp) _) _⟩
  · have hgt := less_asymm _ _ hlt
    go_enter Yba.func3, Yba.ntmps3
    go_wp2_with (first
      | (go_at_call 7; refine (span_lt _ _ _ _ _ _ _ _ _ _ hlt).mono ?_; rintro e w' ⟨rfl, cs, rfl⟩))
    refine (same_any _ _ _ _ h3).mono ?_
    rintro e w' ⟨rfl, k1, rfl⟩
    go_wp2_with fail
    refine (same_any _ _ _ _ h1).mono ?_
    rintro e w' ⟨rfl, k2, rfl⟩
    go_wp2_with fail
    go_ret
    exact ⟨rfl, below_drewN (((Below.refl _ _).alloc (Nat.le_refl _) _).alloc (by simp) _) _⟩

end Go.Proofs.Ybulkakpk.lawS1817BExact
