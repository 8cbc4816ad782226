/-
  The walk of LawS1817CFrom.
-/
import Derived.Test.YbulkakpkNumWalk
namespace Go.Proofs.Ybulkakpk.Num
open Go.RowKit
set_option linter.unusedVariables false

/-- Has one of the first k entries a number of at most num? -/
def foundF (Z : Nat → Int) (num : Int) : Nat → Bool
  | 0 => false
  | k + 1 => if Z k ≤ num then true else foundF Z num k

theorem found_hit {Z : Nat → Int} {num : Int} {k : Nat} (h : Z k ≤ num) : foundF Z num (k + 1) = true := by simp [foundF, h]
theorem found_miss {Z : Nat → Int} {num : Int} {k : Nat} (h : ¬ Z k ≤ num) : foundF Z num (k + 1) = foundF Z num k := by simp [foundF, h]

theorem none_found {S : Nat → ByteArray} {Z : Nat → Int} {num : Int} : ∀ n, foundF Z num n = false → atF S Z num n = (⟨#[]⟩, 0) ∧ fromF Z num n = 0
  | 0, _ => ⟨rfl, rfl⟩
  | k + 1, h => by
    by_cases hz : Z k ≤ num
    · rw [found_hit hz] at h; cases h
    · rw [found_miss hz] at h
      rw [atF_miss hz, fromF_miss hz]
      exact none_found k h

theorem some_found {S : Nat → ByteArray} {Z : Nat → Int} {num : Int} : ∀ n, foundF Z num n = true → 0 < n ∧ atF S Z num n = (S (fromF Z num n), Z (fromF Z num n))
  | 0, h => by cases h
  | k + 1, h => by
    refine ⟨Nat.succ_pos _, ?_⟩
    by_cases hz : Z k ≤ num
    · rw [atF_hit hz]
      rcases Nat.eq_zero_or_pos k with rfl | hk
      · rw [fromF_one]
      · rw [fromF_hit hk hz]
    · rw [found_miss hz] at h
      rw [atF_miss hz, fromF_miss hz]
      exact (some_found k h).2

set_option maxHeartbeats 1000000 in
theorem from_law (a0 : Option Addr) (n0 c0 : Nat) (a1 : Option Addr) (n1 c1 : Nat) (num : Int) (S : Nat → ByteArray) (Z : Nat → Int) (w : World)
    (hn0 : n0 ≤ 1024) (hn1 : n1 ≤ 1024) (hS : IsStrs w a0 n0 S) (hZ : IsInts w a1 n1 Z) :
    Calls Yba.prog 6 #[.slice a0 n0 c0, .slice a1 n1 c1, .int .i64 num] w fun e w' => e = .returned (.bool true) ∧ Below w.heap.size w w' := by
  have AS : Aside (IsStrs w a0 n0 S) := hS
  have AZ : Aside (IsInts w a1 n1 Z) := hZ
  clear hS hZ
  have d0 : decide ((1024 : Int) < (n0 : Int)) = false := by simp; omega
  have d1 : decide ((1024 : Int) < (n1 : Int)) = false := by simp; omega
  go_enter Yba.func6, Yba.ntmps6
  go_wp2_with fail
  refine (build_any a0 n0 c0 a1 n1 c1 S Z _ hn0 hn1 AS.out AZ.out).mono ?_
  rintro e w1 ⟨n, hn, rfl, hE, hB⟩
  have E : Aside (Entries w1 w.heap.size n S Z n ∧ Below w.heap.size w w1) := ⟨hE, hB⟩
  have hgl := entries_lt hE
  clear hE hB
  go_wp2_with fail
  refine (at_any w.heap.size n n num S Z _ hn E.out.1).mono ?_
  rintro e w' ⟨rfl, cs, rfl⟩
  have hsome := some_found (S := S) (Z := Z) (num := num) n
  have hnone := none_found (S := S) (Z := Z) (num := num) n
  generalize atF S Z num n = p at hsome hnone ⊢
  obtain ⟨s, z⟩ := p
  have H1 : Aside _ := hsome
  have H2 : Aside _ := hnone
  clear hsome hnone
  go_wp2_with fail
  refine (from_any w.heap.size n num S Z _ hn (entries_alloc (entries_alloc E.out.1 _) _)).mono ?_
  rintro e w' ⟨rfl, rfl⟩
  have hlt : 0 < n → fromF Z num n < n := fromF_lt n
  generalize fromF Z num n = j at H1 H2 hlt ⊢
  have hq : ∀ s z w, (binOp .eql 36 (.agg #[.string s, .int .i64 z]) (.agg #[.string s, .int .i64 z])).run Yba.prog w = .ok (.bool true) w := eq36
  go_wp2
  go_loopg [10, 11] n (fun gk s10 s11 wr => ∃ k : Nat, k ≤ n ∧ n - k ≤ gk ∧ s11 = .int .i64 k ∧ s10 = .bool (foundF Z num k) ∧ Aside (wr = (w1.alloc (.cells cs 36)).alloc (.cells #[.string s, .int .i64 z] 36)))
  case atStart => exact ⟨0, Nat.zero_le _, Nat.le_refl _, rfl, rfl, rfl⟩
  case round =>
    obtain ⟨k, hk, hg, rfl, rfl, A⟩ := hrel
    obtain hwr := A.out
    clear A
    subst hwr
    by_cases hkn : k < n
    · have c1 : ((w1.alloc (.cells cs 36)).alloc (.cells #[.string s, .int .i64 z] 36)).cell? ⟨w.heap.size, k * 2 + 1, none⟩ = some (.int .i64 (Z k)) := (entries_cell (entries_alloc (entries_alloc E.out.1 _) _) (by omega)).2
      clear H1 H2 hlt
      by_cases hz : Z k ≤ num
      · have HA : Aside (foundF Z num (k + 1) = true) := found_hit hz
        go_wp2
        go_roundg (n - (k + 1))
        case measure => omega
        case rel => exact ⟨k + 1, by omega, Nat.le_refl _, by go_num, by rw [HA.out], rfl⟩
      · have HA : Aside (foundF Z num (k + 1) = foundF Z num k) := found_miss hz
        generalize foundF Z num k = fo at HA ⊢
        go_wp2
        go_roundg (n - (k + 1))
        case measure => omega
        case rel => exact ⟨k + 1, by omega, Nat.le_refl _, by go_num, by rw [HA.out], rfl⟩
    · obtain rfl : k = n := by omega
      cases hf : foundF Z num k
      · obtain ⟨hp, hj⟩ := H2.out hf
        simp only [Prod.mk.injEq] at hp
        obtain ⟨rfl, rfl⟩ := hp
        subst hj
        clear H1 H2 hlt hf
        go_wp2
        go_ret
        exact ⟨rfl, ((E.out.2.alloc (by omega) _).alloc (by simp; omega) _)⟩
      · obtain ⟨hpos, hp⟩ := H1.out hf
        simp only [Prod.mk.injEq] at hp
        obtain ⟨rfl, rfl⟩ := hp
        have hjn := hlt hpos
        have c0 := (entries_cell (entries_alloc (entries_alloc E.out.1 (.cells cs 36)) (.cells #[.string (S j), .int .i64 (Z j)] 36)) hjn).1
        have c1 := (entries_cell (entries_alloc (entries_alloc E.out.1 (.cells cs 36)) (.cells #[.string (S j), .int .i64 (Z j)] 36)) hjn).2
        clear H1 H2 hlt hf
        obtain ⟨m, hm⟩ : ∃ m, k - j = m := ⟨_, rfl⟩
        rw [hm]
        have hm0 : 0 < m := by omega
        have hm1 : m ≤ 1024 := by omega
        have hd' : (0 : Int) < (m : Int) := by omega
        clear hm hjn hpos
        generalize S j = s at *
        generalize Z j = z at *
        go_wp2
        go_quiet (fail)
        go_wp2
        go_ret
        exact ⟨rfl, below_drewN ((E.out.2.alloc (by omega) _).alloc (by simp; omega) _) _⟩

set_option maxHeartbeats 400000 in
theorem from_long (a0 : Option Addr) (n0 c0 : Nat) (a1 : Option Addr) (n1 c1 : Nat) (num : Int) (w : World) (hm0 : n0 ≤ maxLen) (hm1 : n1 ≤ maxLen) (h : 1024 < n0 ∨ 1024 < n1) :
    Calls Yba.prog 6 #[.slice a0 n0 c0, .slice a1 n1 c1, .int .i64 num] w fun e w' => e = .returned (.bool true) ∧ Below w.heap.size w w' := by
  unfold maxLen at hm0 hm1
  by_cases h0 : 1024 < n0
  · have d0 : decide ((1024 : Int) < (n0 : Int)) = true := by simp; omega
    go_enter Yba.func6, Yba.ntmps6
    go_wp2
    go_ret
    exact ⟨rfl, Below.refl _ _⟩
  · have d0 : decide ((1024 : Int) < (n0 : Int)) = false := by simp; omega
    have d1 : decide ((1024 : Int) < (n1 : Int)) = true := by simp; omega
    go_enter Yba.func6, Yba.ntmps6
    go_wp2
    go_ret
    exact ⟨rfl, Below.refl _ _⟩

theorem from_all (a0 : Option Addr) (n0 c0 : Nat) (a1 : Option Addr) (n1 c1 : Nat) (num : Int) (S : Nat → ByteArray) (Z : Nat → Int) (w : World)
    (hm0 : n0 ≤ maxLen) (hm1 : n1 ≤ maxLen) (hS : IsStrs w a0 n0 S) (hZ : IsInts w a1 n1 Z) :
    Calls Yba.prog 6 #[.slice a0 n0 c0, .slice a1 n1 c1, .int .i64 num] w fun e w' => e = .returned (.bool true) ∧ Below w.heap.size w w' := by
  by_cases h : 1024 < n0 ∨ 1024 < n1
  · exact from_long a0 n0 c0 a1 n1 c1 num w hm0 hm1 h
  · exact from_law a0 n0 c0 a1 n1 c1 num S Z w (by omega) (by omega) hS hZ

end Go.Proofs.Ybulkakpk.Num
