/-
  The walks of ReadOperand and LawS1819BBigEndian.
-/
import Derived.Test.YbulkakqmRows
import Derived.WalkKit
import Derived.WalkSpells
import Derived.WalkLawsBesides
import Derived.BigQuiet
import Derived.Deep.QuietTactic
import Derived.Deep.LoopGhost
namespace Go.Proofs.Ybulkakqm.Big
open Go.RowKit
set_option linter.unusedVariables false

/-- The first k numbers of Z read as a number to the base 256. -/
def be (Z : Nat → Int) : Nat → Int
  | 0 => 0
  | k + 1 => be Z k * 256 + Z k

theorem be_bd (Z : Nat → Int) : ∀ k, (∀ i, i < k → 0 ≤ Z i ∧ Z i ≤ 255) → 0 ≤ be Z k ∧ be Z k < 256 ^ k
  | 0, _ => by simp [be]
  | k + 1, h => by
    have ih := be_bd Z k (fun i hi => h i (by omega))
    have hz := h k (by omega)
    have e : (256 : Int) ^ (k + 1) = 256 ^ k * 256 := by rw [Int.pow_succ]
    rw [e]
    simp only [be]
    omega

theorem wrapEq (x : Int) : IntKind.i64.wrap x = wrap64 x := by rw [IntKind.wrap_i64]; unfold wrap64; omega

/-- 'n<<8 | b' of a byte b is 'n*256 + b', wrapped. -/
theorem or_step (x z : Int) (h0 : 0 ≤ z) (h1 : z ≤ 255) : bits .or .i64 (wrap64 (x * 256)) z = wrap64 (x * 256 + z) := by
  obtain ⟨q, hq, hq2⟩ : ∃ q : Nat, (wrap64 (x * 256) % 18446744073709551616).toNat = 256 * q ∧ ((256 * q : Nat) : Int) = (x * 256) % 18446744073709551616 :=
    ⟨(x % 72057594037927936).toNat, by unfold wrap64; omega, by omega⟩
  have e1 : (BitVec.ofInt 64 (wrap64 (x * 256))).toNat = 256 * q := by rw [BitVec.toNat_ofInt]; exact hq
  have e2 : (BitVec.ofInt 64 z).toNat = z.toNat := by
    rw [BitVec.toNat_ofInt]
    show (z % 18446744073709551616).toNat = z.toNat
    omega
  have e3 : (256 * q ||| z.toNat) = 256 * q + z.toNat := (Nat.two_pow_add_eq_or_of_lt (i := 8) (by omega) q).symm
  show IntKind.i64.wrap ((BitVec.ofInt 64 (wrap64 (x * 256)) ||| BitVec.ofInt 64 z).toNat : Int) = _
  rw [BitVec.toNat_or, e1, e2, e3, wrapEq]
  unfold wrap64
  omega

theorem wrap_step (y z : Int) : wrap64 (wrap64 y * 256 + z) = wrap64 (y * 256 + z) := by
  unfold wrap64
  omega

set_option maxHeartbeats 400000 in
theorem read_any (b o n c wd : Nat) (Z : Nat → Int) (w : World) (hn : n ≤ 1024) (hc : n ≤ c) (hcm : c ≤ maxLen) (hwd : wd ≤ n) (hw8 : wd ≤ 8) (hZ : ∀ i, i < n → 0 ≤ Z i ∧ Z i ≤ 255)
    (hcell : ∀ i, i < n → w.cell? ⟨b, o + i, none⟩ = some (.int .u8 (Z i))) :
    Calls Yba.prog 5 #[.slice (some ⟨b, o, none⟩) n c, .int .i64 wd] w fun e w' => e = .returned (.int .i64 (wrap64 (be Z wd))) ∧ w' = w := by
  unfold maxLen at hcm
  have C : Aside (∀ i, i < n → w.cell? ⟨b, o + i, none⟩ = some (.int .u8 (Z i))) := hcell
  have HZ : Aside (∀ i, i < n → 0 ≤ Z i ∧ Z i ≤ 255) := hZ
  clear hcell hZ
  go_enter Yba.func5, Yba.ntmps5
  go_wp2
  go_loopg [5, 12] wd (fun gk s5 s12 wr => ∃ k : Nat, k ≤ wd ∧ wd - k ≤ gk ∧ s12 = .int .i64 k ∧ s5 = .int .i64 (wrap64 (be Z k)) ∧ Aside (wr = w))
  case atStart => exact ⟨0, Nat.zero_le _, Nat.le_refl _, rfl, by simp [be, wrap64], rfl⟩
  case round =>
    obtain ⟨k, hk, hg, rfl, rfl, A⟩ := hrel
    obtain hwr := A.out
    clear A
    subst hwr
    by_cases hkn : k < wd
    · have c1 := C.out k (by omega)
      have hz := HZ.out k (by omega)
      generalize hzk : Z k = z at c1 hz
      generalize hx : wrap64 (be Z k) = x
      go_wp2
      go_roundg (wd - (k + 1))
      case measure => omega
      case rel =>
        refine ⟨k + 1, by omega, Nat.le_refl _, by go_num, ?_, rfl⟩
        rw [or_step x z hz.1 hz.2, ← hx, wrap_step, ← hzk]
        rfl
    · obtain rfl : k = wd := by omega
      go_wp2
      go_ret
      exact ⟨rfl, rfl⟩

theorem be_lt8 (Z : Nat → Int) (k : Nat) (hk : k ≤ 8) (h : ∀ i, i < k → 0 ≤ Z i ∧ Z i ≤ 255) : 0 ≤ be Z k ∧ be Z k < 18446744073709551616 := by
  have hb := be_bd Z k h
  rcases (show k = 0 ∨ k = 1 ∨ k = 2 ∨ k = 3 ∨ k = 4 ∨ k = 5 ∨ k = 6 ∨ k = 7 ∨ k = 8 by omega) with rfl | rfl | rfl | rfl | rfl | rfl | rfl | rfl | rfl <;> simp at hb <;> omega
theorem be_lt7 (Z : Nat → Int) (k : Nat) (hk : k ≤ 7) (h : ∀ i, i < k → 0 ≤ Z i ∧ Z i ≤ 255) : 0 ≤ be Z k ∧ be Z k < 72057594037927936 := by
  have hb := be_bd Z k h
  rcases (show k = 0 ∨ k = 1 ∨ k = 2 ∨ k = 3 ∨ k = 4 ∨ k = 5 ∨ k = 6 ∨ k = 7 by omega) with rfl | rfl | rfl | rfl | rfl | rfl | rfl | rfl <;> simp at hb <;> omega

set_option maxHeartbeats 400000 in
theorem law_core (b o n c : Nat) (Z : Nat → Int) (a1 : Int) (w : World) (hn : n ≤ 1024) (hc : n ≤ c) (hcm : c ≤ maxLen) (h0 : 0 ≤ a1) (h1 : a1 ≤ 255) (hZ : ∀ i, i < n → 0 ≤ Z i ∧ Z i ≤ 255)
    (hcell : ∀ i, i < n → w.cell? ⟨b, o + i, none⟩ = some (.int .u8 (Z i))) :
    Calls Yba.prog 3 #[.slice (some ⟨b, o, none⟩) n c, .int .u8 a1] w fun e w' => e = .returned (.bool true) ∧ Below w.heap.size w w' := by
  obtain ⟨wd, hwd⟩ : ∃ wd : Nat, a1 % 9 = wd := ⟨(a1 % 9).toNat, by omega⟩
  have C : Aside (∀ i, i < n → w.cell? ⟨b, o + i, none⟩ = some (.int .u8 (Z i))) := hcell
  have HZ : Aside (∀ i, i < n → 0 ≤ Z i ∧ Z i ≤ 255) := hZ
  clear hcell hZ
  have hw8 : wd ≤ 8 := by omega
  have d0 : decide ((1024 : Int) < (n : Int)) = false := by simp; omega
  by_cases hlt : n < wd
  · go_enter Yba.func3, Yba.ntmps3
    go_wp2
    go_loopg [6, 7] n (fun gk s6 s7 wr => ∃ k : Nat, k ≤ n ∧ n - k ≤ gk ∧ s7 = .int .i64 k ∧ s6 = .int .u64 (be Z k) ∧ Aside (wr = w))
    case atStart => exact ⟨0, Nat.zero_le _, Nat.le_refl _, rfl, rfl, rfl⟩
    case round =>
      obtain ⟨k, hk, hg, rfl, rfl, A⟩ := hrel
      obtain hwr := A.out
      clear A
      subst hwr
      by_cases hkn : k < n
      · have c1 := C.out k (by omega)
        have hz := HZ.out k (by omega)
        have hb := be_lt7 Z k (by omega) (fun i hi => HZ.out i (by omega))
        have HS : Aside (be Z (k + 1) = be Z k * 256 + Z k) := rfl
        generalize Z k = z at c1 hz HS
        generalize be Z k = x at hb HS
        go_wp2
        go_roundg (n - (k + 1))
        case measure => omega
        case rel =>
          refine ⟨k + 1, by omega, Nat.le_refl _, by go_num, ?_, rfl⟩
          rw [HS.out]
      · obtain rfl : k = n := by omega
        have hr := read_any b o k c k Z wr hn hc hcm (by omega) (by omega) HZ.out C.out
        have hb := be_lt8 Z k (by omega) (fun i hi => HZ.out i (by omega))
        generalize be Z k = x at hr hb
        have HR : Aside _ := hr
        clear hr
        go_wp2_with fail
        refine Calls.mono HR.out ?_
        rintro e w' ⟨rfl, rfl⟩
        go_wp2
        go_ret
        exact ⟨rfl, Below.refl _ _⟩
  · go_enter Yba.func3, Yba.ntmps3
    go_wp2
    rw [hwd]
    clear hwd h0 h1
    go_loopg [6, 7] wd (fun gk s6 s7 wr => ∃ k : Nat, k ≤ wd ∧ wd - k ≤ gk ∧ s7 = .int .i64 k ∧ s6 = .int .u64 (be Z k) ∧ Aside (wr = w))
    case atStart => exact ⟨0, Nat.zero_le _, Nat.le_refl _, rfl, rfl, rfl⟩
    case round =>
      obtain ⟨k, hk, hg, rfl, rfl, A⟩ := hrel
      obtain hwr := A.out
      clear A
      subst hwr
      by_cases hkn : k < wd
      · have c1 := C.out k (by omega)
        have hz := HZ.out k (by omega)
        have hb := be_lt7 Z k (by omega) (fun i hi => HZ.out i (by omega))
        have HS : Aside (be Z (k + 1) = be Z k * 256 + Z k) := rfl
        generalize Z k = z at c1 hz HS
        generalize be Z k = x at hb HS
        go_wp2
        go_roundg (wd - (k + 1))
        case measure => omega
        case rel =>
          refine ⟨k + 1, by omega, Nat.le_refl _, by go_num, ?_, rfl⟩
          rw [HS.out]
      · obtain rfl : k = wd := by omega
        have hr := read_any b o n c k Z wr hn hc hcm (by omega) (by omega) HZ.out C.out
        have hb := be_lt8 Z k (by omega) (fun i hi => HZ.out i (by omega))
        generalize be Z k = x at hr hb
        have HR : Aside _ := hr
        clear hr
        go_wp2_with fail
        refine Calls.mono HR.out ?_
        rintro e w' ⟨rfl, rfl⟩
        go_wp2
        go_ret
        exact ⟨rfl, Below.refl _ _⟩

set_option maxHeartbeats 400000 in
theorem law_zero (a : Option Addr) (c : Nat) (a1 : Int) (w : World) (hcm : c ≤ maxLen) (h0 : 0 ≤ a1) (h1 : a1 ≤ 255) :
    Calls Yba.prog 3 #[.slice a 0 c, .int .u8 a1] w fun e w' => e = .returned (.bool true) ∧ Below w.heap.size w w' := by
  unfold maxLen at hcm
  obtain ⟨wd, hwd⟩ : ∃ wd : Nat, a1 % 9 = wd := ⟨(a1 % 9).toNat, by omega⟩
  rcases Nat.eq_zero_or_pos wd with rfl | hpos
  · go_enter Yba.func3, Yba.ntmps3
    go_wp2
    refine wp_loop_rounds 1 ?_
    rw [rounds_succ]
    go_wp2
    refine wp_loop_rounds 1 ?_
    rw [rounds_succ]
    go_wp2
    go_ret
    exact ⟨rfl, Below.refl _ _⟩
  · have d1 : decide ((0 : Int) < a1 % 9) = true := by simp; omega
    go_enter Yba.func3, Yba.ntmps3
    go_wp2
    refine wp_loop_rounds 1 ?_
    rw [rounds_succ]
    go_wp2
    refine wp_loop_rounds 1 ?_
    rw [rounds_succ]
    go_wp2
    go_ret
    exact ⟨rfl, Below.refl _ _⟩

set_option maxHeartbeats 400000 in
theorem law_long (a : Option Addr) (n c : Nat) (a1 : Int) (w : World) (hm : n ≤ maxLen) (h : 1024 < n) :
    Calls Yba.prog 3 #[.slice a n c, .int .u8 a1] w fun e w' => e = .returned (.bool true) ∧ Below w.heap.size w w' := by
  unfold maxLen at hm
  have d0 : decide ((1024 : Int) < (n : Int)) = true := by simp; omega
  go_enter Yba.func3, Yba.ntmps3
  go_wp2
  go_ret
  exact ⟨rfl, Below.refl _ _⟩

end Go.Proofs.Ybulkakqm.Big
