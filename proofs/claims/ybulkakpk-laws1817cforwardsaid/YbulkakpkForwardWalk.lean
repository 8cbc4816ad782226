/-
  The walk of LawS1817CForward.
-/
import Derived.Test.YbulkakpkNumWalk
import Derived.RegionCalls
import Derived.Deep.RegionWith
namespace Go.Proofs.Ybulkakpk.Num
open Go.RowKit
set_option linter.unusedVariables false

theorem entries_drew {w : World} {g n : Nat} {S : Nat → ByteArray} {Z : Nat → Int} {k : Nat} (h : Entries w g n S Z k) : Entries w.drew g n S Z k := h

set_option maxHeartbeats 1000000 in
theorem forward_any (a0 : Option Addr) (n0 c0 : Nat) (a1 : Option Addr) (n1 c1 : Nat) (num : Int) (S : Nat → ByteArray) (Z : Nat → Int) (w : World)
    (hn0 : n0 ≤ 1024) (hn1 : n1 ≤ 1024) (hS : IsStrs w a0 n0 S) (hZ : IsInts w a1 n1 Z) :
    Calls Yba.prog 5 #[.slice a0 n0 c0, .slice a1 n1 c1, .int .i64 num] w fun e w' => e = .returned (.bool true) ∧ Below w.heap.size w w' := by
  have AS : Aside (IsStrs w a0 n0 S) := hS
  have AZ : Aside (IsInts w a1 n1 Z) := hZ
  clear hS hZ
  have d0 : decide ((1024 : Int) < (n0 : Int)) = false := by simp; omega
  have d1 : decide ((1024 : Int) < (n1 : Int)) = false := by simp; omega
  go_enter Yba.func5, Yba.ntmps5
  go_wp2_with (go_at_call 10; refine (build_any a0 n0 c0 a1 n1 c1 S Z _ hn0 hn1 AS.out AZ.out).mono ?_; rintro e w1 ⟨n, hn, rfl, hE, hB⟩; have E : Aside (Entries w1 w.heap.size n S Z n ∧ Below w.heap.size w w1) := ⟨hE, hB⟩; have hgl := entries_lt hE; clear hE hB)
  go_loopg [9] n (fun gk s wr => ∃ k : Nat, k ≤ n ∧ n - k ≤ gk ∧ s = .int .i64 k ∧ Aside (wr = w1.alloc (.cells #[.string (atF S Z num k).1, .int .i64 (atF S Z num k).2] 36)))
  case atStart => exact ⟨0, Nat.zero_le _, Nat.le_refl _, rfl, rfl⟩
  case round =>
    obtain ⟨k, hk, hg, rfl, A⟩ := hrel
    obtain hwr := A.out
    clear A
    by_cases hkn : k < n
    · have c1 : ∀ o, (w1.alloc o).cell? ⟨w.heap.size, k * 2 + 1, none⟩ = some (.int .i64 (Z k)) := fun o => (entries_cell (entries_alloc E.out.1 o) (by omega)).2
      have c0 : ∀ o, (w1.alloc o).cell? ⟨w.heap.size, k * 2, none⟩ = some (.string (S k)) := fun o => (entries_cell (entries_alloc E.out.1 o) (by omega)).1
      by_cases hz : Z k ≤ num
      · have hA := atF_hit (S := S) hz
        generalize atF S Z num k = p at hwr
        obtain ⟨s, z⟩ := p
        subst hwr
        have HA : Aside (atF S Z num (k + 1) = (S k, Z k)) := hA
        clear hA
        go_wp2
        go_roundg (n - (k + 1))
        case measure => omega
        case rel =>
          refine ⟨k + 1, by omega, Nat.le_refl _, by go_num, ?_⟩
          rw [HA.out]
          exact rfl
      · have hA := atF_miss (S := S) hz
        generalize hp : atF S Z num k = p at hwr hA
        obtain ⟨s, z⟩ := p
        clear hp
        subst hwr
        have HA : Aside (atF S Z num (k + 1) = (s, z)) := hA
        clear hA
        go_wp2
        go_roundg (n - (k + 1))
        case measure => omega
        case rel =>
          refine ⟨k + 1, by omega, Nat.le_refl _, by go_num, ?_⟩
          rw [HA.out]
          exact rfl
    · obtain rfl : k = n := by omega
      have hat := fun W h => at_any w.heap.size k k num S Z W hn h
      have hq := eq36 (atF S Z num k).1 (atF S Z num k).2
      generalize atF S Z num k = p at hwr hat hq
      obtain ⟨s, z⟩ := p
      simp only at hwr hat hq
      subst hwr
      have HT : Aside _ := hat
      clear hat
      go_wp2
      go_region_with (go_at_call 11; refine (HT.out _ (by first | exact entries_alloc E.out.1 _ | exact entries_drew (entries_alloc E.out.1 _))).mono ?_; rintro e w' ⟨rfl, cs, rfl⟩)
      all_goals go_wp2
      all_goals go_ret
      all_goals exact ⟨rfl, ((E.out.2.alloc (by omega) _).alloc (by simp; omega) _).drew⟩

set_option maxHeartbeats 400000 in
theorem forward_long (a0 : Option Addr) (n0 c0 : Nat) (a1 : Option Addr) (n1 c1 : Nat) (num : Int) (w : World) (hm0 : n0 ≤ maxLen) (hm1 : n1 ≤ maxLen) (h : 1024 < n0 ∨ 1024 < n1) :
    Calls Yba.prog 5 #[.slice a0 n0 c0, .slice a1 n1 c1, .int .i64 num] w fun e w' => e = .returned (.bool true) ∧ Below w.heap.size w w' := by
  unfold maxLen at hm0 hm1
  by_cases h0 : 1024 < n0
  · have d0 : decide ((1024 : Int) < (n0 : Int)) = true := by simp; omega
    go_enter Yba.func5, Yba.ntmps5
    go_wp2
    go_ret
    exact ⟨rfl, Below.refl _ _⟩
  · have d0 : decide ((1024 : Int) < (n0 : Int)) = false := by simp; omega
    have d1 : decide ((1024 : Int) < (n1 : Int)) = true := by simp; omega
    go_enter Yba.func5, Yba.ntmps5
    go_wp2
    go_ret
    exact ⟨rfl, Below.refl _ _⟩

theorem forward_all (a0 : Option Addr) (n0 c0 : Nat) (a1 : Option Addr) (n1 c1 : Nat) (num : Int) (S : Nat → ByteArray) (Z : Nat → Int) (w : World)
    (hm0 : n0 ≤ maxLen) (hm1 : n1 ≤ maxLen) (hS : IsStrs w a0 n0 S) (hZ : IsInts w a1 n1 Z) :
    Calls Yba.prog 5 #[.slice a0 n0 c0, .slice a1 n1 c1, .int .i64 num] w fun e w' => e = .returned (.bool true) ∧ Below w.heap.size w w' := by
  by_cases h : 1024 < n0 ∨ 1024 < n1
  · exact forward_long a0 n0 c0 a1 n1 c1 num w hm0 hm1 h
  · exact forward_any a0 n0 c0 a1 n1 c1 num S Z w (by omega) (by omega) hS hZ

end Go.Proofs.Ybulkakpk.Num
