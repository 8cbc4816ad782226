/-
  The walks of zzs1817cbuild, (numbering).at and (numbering).from.
-/
import Derived.Test.YbulkakpkRows
import Derived.WalkKit
import Derived.WalkSpells
import Derived.WalkLawsBesides
import Derived.BigQuiet
import Derived.BigRegion
import Derived.Deep.QuietTactic
import Derived.Deep.OwnRows
import Derived.Deep.LoopGhost
namespace Go.Proofs.Ybulkakpk.Num
open Go.RowKit
set_option linter.unusedVariables false

theorem info36 : (Yba.prog.info? 36).map (fun i => (i.zero, i.size, i.bytes)) = some (some (.agg #[.string ⟨#[]⟩, .int .i64 0]), 2, 24) := by kernel_rfl

/-- What make lays: n entries, each an empty string and a zero. -/
def zeros (n : Nat) : Array Value := madeCells #[.string ⟨#[]⟩, .int .i64 0] (n * 2)

theorem run_mk (n : Nat) (hn : n ≤ 1024) (w : World) :
    (Instr.makeSlice 33 (.int .i64 (n : Int)) (.int .i64 (n : Int))).run Yba.prog w = .ok (.slice (some ⟨w.heap.size, 0, none⟩) n n) (w.alloc (.cells (zeros n) 36)) := by
  obtain ⟨i, hi, hz⟩ := Option.map_eq_some_iff.1 info36
  simp only [Prod.mk.injEq] at hz
  obtain ⟨hz0, hz1, hz2⟩ := hz
  have hr := run_make (P := Yba.prog) w 33 36 i _ Yba.underlying33 hi hz0 .i64 .i64 n n (by omega) (Int.le_refl _) (by rw [hz2]; omega) (by omega)
  simp only [Int.toNat_natCast, hz1] at hr
  exact hr

theorem zeros_get (n i : Nat) (hi : i < n * 2) : (zeros n)[i]? = some (if i % 2 = 0 then .string ⟨#[]⟩ else .int .i64 0) := by
  simp only [zeros, madeCells, Array.getElem?_map]
  rw [Array.getElem?_range, if_pos hi]
  rcases Nat.mod_two_eq_zero_or_one i with h | h <;> simp [h]

theorem zeros_size (n : Nat) : (zeros n).size = n * 2 := size_madeCells _ _

theorem lt_of_cell {w : World} {b o : Nat} {v : Value} (h : w.cell? ⟨b, o, none⟩ = some v) : b < w.heap.size := by
  by_cases hb : b < w.heap.size
  · exact hb
  · have : w.heap[b]? = none := by simp; omega
    simp [World.cell?, this] at h

/-- The first k entries of the row lie at block g. -/
def Entries (w : World) (g n : Nat) (S : Nat → ByteArray) (Z : Nat → Int) (k : Nat) : Prop :=
  ∃ f, w.rowIs g 36 (n * 2) f ∧ ∀ i, i < k → f (i * 2) = .string (S i) ∧ f (i * 2 + 1) = .int .i64 (Z i)

theorem entries_start (w : World) (n : Nat) (S : Nat → ByteArray) (Z : Nat → Int) : Entries (w.alloc (.cells (zeros n) 36)) w.heap.size n S Z 0 := by
  have h := World.rowIs_alloc w (zeros n) 36 (fun i => if i % 2 = 0 then .string ⟨#[]⟩ else .int .i64 0) (fun i hi => zeros_get n i (by rw [zeros_size] at hi; exact hi))
  rw [zeros_size] at h
  exact ⟨_, h, fun i hi => absurd hi (Nat.not_lt_zero _)⟩

theorem entries_step {w : World} {g n : Nat} {S : Nat → ByteArray} {Z : Nat → Int} {k : Nat} (h : Entries w g n S Z k) :
    Entries ((w.setCell ⟨g, k * 2, none⟩ (.string (S k))).setCell ⟨g, k * 2 + 1, none⟩ (.int .i64 (Z k))) g n S Z (k + 1) := by
  obtain ⟨f, hr, hf⟩ := h
  refine ⟨_, (hr.set (k * 2) (.string (S k))).set (k * 2 + 1) (.int .i64 (Z k)), fun i hi => ?_⟩
  by_cases e : i = k
  · subst e
    refine ⟨?_, ?_⟩
    · rw [if_neg (by omega), if_pos rfl]
    · rw [if_pos rfl]
  · have := hf i (by omega)
    refine ⟨?_, ?_⟩
    · rw [if_neg (by omega), if_neg (by omega)]; exact this.1
    · rw [if_neg (by omega), if_neg (by omega)]; exact this.2

set_option maxHeartbeats 1000000 in
theorem build_core (b0 o0 n0 c0 b1 o1 n1 c1 : Nat) (S : Nat → ByteArray) (Z : Nat → Int) (w : World) (n : Nat)
    (hn : (n1 < n0 ∧ n = n1) ∨ (n0 ≤ n1 ∧ n = n0)) (hn0 : n0 ≤ 1024) (hn1 : n1 ≤ 1024)
    (hS : ∀ i, i < n0 → w.cell? ⟨b0, o0 + i, none⟩ = some (.string (S i))) (hZ : ∀ i, i < n1 → w.cell? ⟨b1, o1 + i, none⟩ = some (.int .i64 (Z i))) :
    Calls Yba.prog 10 #[.slice (some ⟨b0, o0, none⟩) n0 c0, .slice (some ⟨b1, o1, none⟩) n1 c1] w fun e w' =>
      e = .returned (.slice (some ⟨w.heap.size, 0, none⟩) n n) ∧ Entries w' w.heap.size n S Z n ∧ Below w.heap.size w w' := by
  have AS : Aside (∀ i, i < n0 → w.cell? ⟨b0, o0 + i, none⟩ = some (.string (S i))) := hS
  have AZ : Aside (∀ i, i < n1 → w.cell? ⟨b1, o1 + i, none⟩ = some (.int .i64 (Z i))) := hZ
  clear hS hZ
  rcases hn with ⟨hlt, rfl⟩ | ⟨hlt, rfl⟩
  all_goals
    have hmk := run_mk n (by omega)
    go_enter Yba.func10, Yba.ntmps10
    go_wp2
    clear hmk
    go_loopg [7] n (fun gk s wr => ∃ k : Nat, k ≤ n ∧ n - k ≤ gk ∧ s = .int .i64 k ∧ Aside (Entries wr w.heap.size n S Z k ∧ Below w.heap.size w wr))
    case atStart => exact ⟨0, Nat.zero_le _, Nat.le_refl _, rfl, entries_start _ _ _ _, (Below.refl _ _).alloc (Nat.le_refl _) _⟩
    case round =>
      obtain ⟨k, hk, hg, rfl, A⟩ := hrel
      by_cases hkn : k < n
      · have cS : wr.cell? ⟨b0, o0 + k, none⟩ = some (.string (S k)) := by
          have h := AS.out k (by omega)
          rw [← h]
          exact A.out.2.cell (p := ⟨b0, o0 + k, none⟩) (lt_of_cell h)
        have cZ : wr.cell? ⟨b1, o1 + k, none⟩ = some (.int .i64 (Z k)) := by
          have h := AZ.out k (by omega)
          rw [← h]
          exact A.out.2.cell (p := ⟨b1, o1 + k, none⟩) (lt_of_cell h)
        obtain ⟨u0, cu0⟩ : ∃ u, wr.cell? ⟨w.heap.size, k * 2, none⟩ = some u := by
          obtain ⟨f, hr, _⟩ := A.out.1
          exact ⟨_, hr.cell (i := k * 2) (by omega)⟩
        obtain ⟨u1, cu1⟩ : ∃ u, wr.cell? ⟨w.heap.size, k * 2 + 1, none⟩ = some u := by
          obtain ⟨f, hr, _⟩ := A.out.1
          exact ⟨_, hr.cell (i := k * 2 + 1) (by omega)⟩
        have f0 : wr.frozen? ⟨w.heap.size, k * 2, none⟩ = false := by
          obtain ⟨f, hr, _⟩ := A.out.1
          exact hr.frozen _
        have f1 : wr.frozen? ⟨w.heap.size, k * 2 + 1, none⟩ = false := by
          obtain ⟨f, hr, _⟩ := A.out.1
          exact hr.frozen _
        go_wp2
        go_region
        go_wp2
        go_roundg (n - (k + 1))
        case measure => omega
        case rel =>
          refine ⟨k + 1, by omega, Nat.le_refl _, by go_num, ?_⟩
          exact ⟨entries_step A.out.1, ((A.out.2.setCell (Nat.le_refl _) _).setCell (Nat.le_refl _) _).drew⟩
      · go_wp2
        go_ret
        obtain rfl : k = n := by omega
        exact ⟨rfl, A.out⟩

/-- What the walk is told of a slice of strings, of int64: it has no element; or its cells lie there. -/
def IsStrs (w : World) (a : Option Addr) (n : Nat) (S : Nat → ByteArray) : Prop := n = 0 ∨ ∃ b o, a = some ⟨b, o, none⟩ ∧ ∀ i, i < n → w.cell? ⟨b, o + i, none⟩ = some (.string (S i))
def IsInts (w : World) (a : Option Addr) (n : Nat) (Z : Nat → Int) : Prop := n = 0 ∨ ∃ b o, a = some ⟨b, o, none⟩ ∧ ∀ i, i < n → w.cell? ⟨b, o + i, none⟩ = some (.int .i64 (Z i))

set_option maxHeartbeats 1000000 in
theorem build_zero (a0 : Option Addr) (n0 c0 : Nat) (a1 : Option Addr) (n1 c1 : Nat) (S : Nat → ByteArray) (Z : Nat → Int) (w : World)
    (hn : (0 < n0 ∧ n1 = 0) ∨ n0 = 0) (hn0 : n0 ≤ 1024) (hn1 : n1 ≤ 1024) :
    Calls Yba.prog 10 #[.slice a0 n0 c0, .slice a1 n1 c1] w fun e w' =>
      e = .returned (.slice (some ⟨w.heap.size, 0, none⟩) 0 0) ∧ Entries w' w.heap.size 0 S Z 0 ∧ Below w.heap.size w w' := by
  have hmk : ∀ w, (Instr.makeSlice 33 (.int .i64 0) (.int .i64 0)).run Yba.prog w = .ok (.slice (some ⟨w.heap.size, 0, none⟩) 0 0) (w.alloc (.cells (zeros 0) 36)) := fun w => run_mk 0 (by omega) w
  rcases hn with ⟨hlt, rfl⟩ | rfl
  · go_enter Yba.func10, Yba.ntmps10
    go_wp2
    refine wp_loop_rounds 1 ?_
    rw [rounds_succ]
    go_wp2
    go_ret
    exact ⟨rfl, entries_start _ _ _ _, (Below.refl _ _).alloc (Nat.le_refl _) _⟩
  · go_enter Yba.func10, Yba.ntmps10
    go_wp2
    refine wp_loop_rounds 1 ?_
    rw [rounds_succ]
    go_wp2
    go_ret
    exact ⟨rfl, entries_start _ _ _ _, (Below.refl _ _).alloc (Nat.le_refl _) _⟩

theorem build_any (a0 : Option Addr) (n0 c0 : Nat) (a1 : Option Addr) (n1 c1 : Nat) (S : Nat → ByteArray) (Z : Nat → Int) (w : World)
    (hn0 : n0 ≤ 1024) (hn1 : n1 ≤ 1024) (hS : IsStrs w a0 n0 S) (hZ : IsInts w a1 n1 Z) :
    Calls Yba.prog 10 #[.slice a0 n0 c0, .slice a1 n1 c1] w fun e w' =>
      ∃ n, n ≤ 1024 ∧ e = .returned (.slice (some ⟨w.heap.size, 0, none⟩) n n) ∧ Entries w' w.heap.size n S Z n ∧ Below w.heap.size w w' := by
  by_cases h0 : n0 = 0
  · exact (build_zero a0 n0 c0 a1 n1 c1 S Z w (.inr h0) hn0 hn1).mono fun e w' h => ⟨0, by omega, h⟩
  · by_cases h1 : n1 = 0
    · exact (build_zero a0 n0 c0 a1 n1 c1 S Z w (.inl ⟨by omega, h1⟩) hn0 hn1).mono fun e w' h => ⟨0, by omega, h⟩
    · rcases hS with hS | ⟨b0, o0, rfl, hS⟩
      · exact absurd hS h0
      rcases hZ with hZ | ⟨b1, o1, rfl, hZ⟩
      · exact absurd hZ h1
      by_cases hlt : n1 < n0
      · exact (build_core b0 o0 n0 c0 b1 o1 n1 c1 S Z w n1 (.inl ⟨hlt, rfl⟩) hn0 hn1 hS hZ).mono fun e w' h => ⟨n1, by omega, h⟩
      · exact (build_core b0 o0 n0 c0 b1 o1 n1 c1 S Z w n0 (.inr ⟨by omega, rfl⟩) hn0 hn1 hS hZ).mono fun e w' h => ⟨n0, by omega, h⟩

/-! ### at -/
/-- The last of the first k entries whose number is at most num; the zero value when none is. -/
def atF (S : Nat → ByteArray) (Z : Nat → Int) (num : Int) : Nat → ByteArray × Int
  | 0 => (⟨#[]⟩, 0)
  | k + 1 => if Z k ≤ num then (S k, Z k) else atF S Z num k

theorem atF_hit {S : Nat → ByteArray} {Z : Nat → Int} {num : Int} {k : Nat} (h : Z k ≤ num) : atF S Z num (k + 1) = (S k, Z k) := by simp [atF, h]
theorem atF_miss {S : Nat → ByteArray} {Z : Nat → Int} {num : Int} {k : Nat} (h : ¬ Z k ≤ num) : atF S Z num (k + 1) = atF S Z num k := by simp [atF, h]

/-- The row of n entries. -/
theorem entries_cell {w : World} {g n : Nat} {S : Nat → ByteArray} {Z : Nat → Int} (h : Entries w g n S Z n) {i : Nat} (hi : i < n) :
    w.cell? ⟨g, i * 2, none⟩ = some (.string (S i)) ∧ w.cell? ⟨g, i * 2 + 1, none⟩ = some (.int .i64 (Z i)) := by
  obtain ⟨f, hr, hf⟩ := h
  have := hf i hi
  exact ⟨by rw [hr.cell (i := i * 2) (by omega), this.1], by rw [hr.cell (i := i * 2 + 1) (by omega), this.2]⟩
theorem entries_lt {w : World} {g n : Nat} {S : Nat → ByteArray} {Z : Nat → Int} {k : Nat} (h : Entries w g n S Z k) : g < w.heap.size := by
  obtain ⟨f, hr, _⟩ := h
  exact hr.lt
theorem entries_alloc {w : World} {g n : Nat} {S : Nat → ByteArray} {Z : Nat → Int} {k : Nat} (h : Entries w g n S Z k) (o : Obj) : Entries (w.alloc o) g n S Z k := by
  obtain ⟨f, hr, hf⟩ := h
  exact ⟨f, hr.alloc o, hf⟩
theorem entries_setOther {w : World} {g n : Nat} {S : Nat → ByteArray} {Z : Nat → Int} {k : Nat} (h : Entries w g n S Z k) {a : Addr} (ha : g ≠ a.block) (v : Value) : Entries (w.setCell a v) g n S Z k := by
  obtain ⟨f, hr, hf⟩ := h
  exact ⟨f, hr.setOther ha v, hf⟩

set_option maxHeartbeats 1000000 in
theorem at_any (g n c : Nat) (num : Int) (S : Nat → ByteArray) (Z : Nat → Int) (w : World) (hn : n ≤ 1024) (h : Entries w g n S Z n) :
    Calls Yba.prog 11 #[.slice (some ⟨g, 0, none⟩) n c, .int .i64 num] w fun e w' =>
      e = .returned (.agg #[.string (atF S Z num n).1, .int .i64 (atF S Z num n).2]) ∧ ∃ cs, w' = w.alloc (.cells cs 36) := by
  have E : Aside (Entries w g n S Z n) := h
  have hgl := entries_lt h
  clear h
  go_enter Yba.func11, Yba.ntmps11
  go_wp2
  go_loopg [5] (n + 1) (fun gk s wr => ∃ k : Nat, k ≤ n ∧ k < gk ∧ s = .int .i64 ((k : Int) - 1) ∧ Aside (wr = w.alloc (.cells #[.string ⟨#[]⟩, .int .i64 0] 36) ∧ atF S Z num n = atF S Z num k))
  case atStart => exact ⟨n, Nat.le_refl _, by omega, rfl, rfl, rfl⟩
  case round =>
    obtain ⟨k, hk, hg, rfl, A⟩ := hrel
    obtain ⟨hwr, hat⟩ := A.out
    clear A
    subst hwr
    have H : Aside (atF S Z num n = atF S Z num k) := hat
    clear hat
    rcases k with _ | k
    · go_wp2
      exact bodyPost_ret (v := .agg #[.string ⟨#[]⟩, .int .i64 0]) (by simp [results, Yba.results11, go_sem]) rfl ⟨by rw [H.out]; rfl, _, rfl⟩
    · have c1 : (w.alloc (.cells #[.string ⟨#[]⟩, .int .i64 0] 36)).cell? ⟨g, k * 2 + 1, none⟩ = some (.int .i64 (Z k)) := (entries_cell (entries_alloc E.out _) (by omega)).2
      have c0 : (w.alloc (.cells #[.string ⟨#[]⟩, .int .i64 0] 36)).cell? ⟨g, k * 2, none⟩ = some (.string (S k)) := (entries_cell (entries_alloc E.out _) (by omega)).1
      by_cases hz : Z k ≤ num
      · go_wp2
        exact bodyPost_ret (v := .agg #[.string (S k), .int .i64 (Z k)]) (by simp [results, Yba.results11, go_sem]) rfl ⟨by rw [H.out, atF_hit hz], _, rfl⟩
      · go_wp2
        go_roundg (k + 1)
        case measure => omega
        case rel => exact ⟨k, by omega, by omega, by go_num, rfl, by rw [H.out, atF_miss (by omega)]⟩

theorem eq36 (s : ByteArray) (z : Int) (w : World) : (binOp .eql 36 (.agg #[.string s, .int .i64 z]) (.agg #[.string s, .int .i64 z])).run Yba.prog w = .ok (.bool true) w := by
  have u2 := Yba.underlying2
  have u9 := Yba.underlying9
  have a2 := Yba.isAgg2
  have a9 := Yba.isAgg9
  have z2 := Yba.sizeOf2
  have z9 := Yba.sizeOf9
  have hS : Yba.prog.underlying 36 = some (.struct (Yba.prog.fieldsOf 36)) := by kernel_rfl
  have hp : Yba.prog.stoodInHeld 36 = false := by kernel_rfl
  rw [run_eql_struct, show (10000 : Nat) = 9999 + 1 from rfl, run_equalIn_agg w 9999 36 _ _ hS hp]
  simp only [Program.fieldsOf, Yba.underlying36]
  go_simp

/-! ### from -/
/-- The place from which 'from' hands m on, of the first k entries. -/
def fromF (Z : Nat → Int) (num : Int) : Nat → Nat
  | 0 => 0
  | k + 1 => if 0 < k ∧ Z k ≤ num then k else fromF Z num k

theorem fromF_hit {Z : Nat → Int} {num : Int} {k : Nat} (hk : 0 < k) (h : Z k ≤ num) : fromF Z num (k + 1) = k := by simp [fromF, h, hk]
theorem fromF_miss {Z : Nat → Int} {num : Int} {k : Nat} (h : ¬ Z k ≤ num) : fromF Z num (k + 1) = fromF Z num k := by simp [fromF, h]
theorem fromF_one {Z : Nat → Int} {num : Int} : fromF Z num 1 = 0 := by simp [fromF]
theorem fromF_lt {Z : Nat → Int} {num : Int} : ∀ k, 0 < k → fromF Z num k < k
  | 0, h => absurd h (Nat.lt_irrefl _)
  | k + 1, _ => by
    unfold fromF
    split
    · omega
    · rcases Nat.eq_zero_or_pos k with rfl | hk
      · simp [fromF]
      · have := fromF_lt (Z := Z) (num := num) k hk
        omega

set_option maxHeartbeats 1000000 in
theorem from_any (g n : Nat) (num : Int) (S : Nat → ByteArray) (Z : Nat → Int) (w : World) (hn : n ≤ 1024) (h : Entries w g n S Z n) :
    Calls Yba.prog 12 #[.slice (some ⟨g, 0, none⟩) n n, .int .i64 num] w fun e w' =>
      e = .returned (.slice (some ⟨g, fromF Z num n * 2, none⟩) (n - fromF Z num n) (n - fromF Z num n)) ∧ w' = w := by
  have E : Aside (Entries w g n S Z n) := h
  have hgl := entries_lt h
  clear h
  go_enter Yba.func12, Yba.ntmps12
  go_wp2
  go_loopg [5] (n + 1) (fun gk s wr => ∃ k : Nat, k ≤ n ∧ k < gk ∧ s = .int .i64 ((k : Int) - 1) ∧ Aside (wr = w ∧ fromF Z num n = fromF Z num k))
  case atStart => exact ⟨n, Nat.le_refl _, by omega, rfl, rfl, rfl⟩
  case round =>
    obtain ⟨k, hk, hg, rfl, A⟩ := hrel
    obtain ⟨hwr, hat⟩ := A.out
    clear A
    subst hwr
    have H : Aside (fromF Z num n = fromF Z num k) := hat
    clear hat
    rcases k with _ | k
    · go_wp2
      go_ret
      exact ⟨by rw [H.out]; rfl, rfl⟩
    · have c1 : wr.cell? ⟨g, k * 2 + 1, none⟩ = some (.int .i64 (Z k)) := (entries_cell E.out (by omega)).2
      rcases Nat.eq_zero_or_pos k with hk0 | hk0
      · subst hk0
        go_wp2
        go_ret
        exact ⟨by rw [H.out, fromF_one]; rfl, rfl⟩
      · by_cases hz : Z k ≤ num
        · go_wp2
          go_ret
          rw [H.out, fromF_hit hk0 hz]
          exact ⟨rfl, rfl⟩
        · go_wp2
          go_roundg (k + 1)
          case measure => omega
          case rel => exact ⟨k, by omega, by omega, by go_num, rfl, by rw [H.out, fromF_miss (by omega)]⟩

end Go.Proofs.Ybulkakpk.Num
