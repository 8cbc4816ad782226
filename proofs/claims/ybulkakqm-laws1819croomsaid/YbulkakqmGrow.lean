/-
  The walks of zzs1819csame, zzs1819cmax and grow.
-/
import Derived.Test.YbulkakqmRows
import Derived.WalkKit
import Derived.WalkSpells
import Derived.WalkLawsBesides
import Derived.BigQuiet
import Derived.Deep.QuietTactic
import Derived.Deep.LoopGhost
import Derived.Deep.OwnRows
import Derived.Laws.CopyOwn
namespace Go.Proofs.Ybulkakqm.Room
open Go.RowKit
set_option linter.unusedVariables false

theorem info5 : (Yba.prog.info? 5).map (fun i => (i.zero, i.size, i.bytes)) = some (some (.int .u8 0), 1, 1) := by kernel_rfl
theorem size5 : (Yba.prog.info? 5).map (·.size) = some 1 := by kernel_rfl

theorem lt_of_cell {w : World} {b o : Nat} {v : Value} (h : w.cell? ⟨b, o, none⟩ = some v) : b < w.heap.size := by
  by_cases hb : b < w.heap.size
  · exact hb
  · have : w.heap[b]? = none := by simp; omega
    simp [World.cell?, this] at h

/-- The byte that stands at place t of chunk i. -/
def bv (i t : Nat) : Int := ((i : Int) * 7 + (t : Int)) % 256

/-- A chunk of l bytes: none; or they lie there. -/
def IsBytes (w : World) (a : Option Addr) (i l : Nat) : Prop := l = 0 ∨ ∃ g, a = some ⟨g, 0, none⟩ ∧ ∀ t, t < l → w.cell? ⟨g, t, none⟩ = some (.int .u8 (bv i t))

theorem isBytes_below {w w' : World} {a : Option Addr} {i l : Nat} (h : IsBytes w a i l) (hb : Below w.heap.size w w') : IsBytes w' a i l := by
  rcases h with h | ⟨g, rfl, hc⟩
  · exact .inl h
  · refine .inr ⟨g, rfl, fun t ht => ?_⟩
    rw [← hc t ht]
    exact hb.cell (p := ⟨g, t, none⟩) (lt_of_cell (hc t ht))

set_option maxHeartbeats 400000 in
theorem same_any (a : Option Addr) (l c i : Nat) (w : World) (hl : l ≤ 100000) (hi : i ≤ 256) (h : IsBytes w a i l) :
    Calls Yba.prog 7 #[.slice a l c, .int .i64 i, .int .i64 l] w fun e w' => e = .returned (.bool true) ∧ w' = w := by
  rcases h with rfl | ⟨g, rfl, hc⟩
  · go_enter Yba.func7, Yba.ntmps7
    go_wp2
    refine wp_loop_rounds 1 ?_
    rw [rounds_succ]
    go_wp2
    go_ret
    exact ⟨rfl, rfl⟩
  · have C : Aside (∀ t, t < l → w.cell? ⟨g, t, none⟩ = some (.int .u8 (bv i t))) := hc
    clear hc
    go_enter Yba.func7, Yba.ntmps7
    go_wp2
    go_loopg [7] l (fun gk s7 wr => ∃ k : Nat, k ≤ l ∧ l - k ≤ gk ∧ s7 = .int .i64 k ∧ Aside (wr = w))
    case atStart => exact ⟨0, Nat.zero_le _, Nat.le_refl _, rfl, rfl⟩
    case round =>
      obtain ⟨k, hk, hg, rfl, A⟩ := hrel
      obtain hwr := A.out
      clear A
      subst hwr
      by_cases hkl : k < l
      · have c1 := C.out k hkl
        unfold bv at c1
        go_wp2
        go_roundg (l - (k + 1))
        case measure => omega
        case rel => exact ⟨k + 1, by omega, Nat.le_refl _, by go_num, rfl⟩
      · go_wp2
        go_ret
        exact ⟨rfl, rfl⟩

set_option maxHeartbeats 400000 in
theorem max_any (a b : Int) (w : World) :
    Calls Yba.prog 8 #[.int .i64 a, .int .i64 b] w fun e w' => e = .returned (.int .i64 (max a b)) ∧ w' = w := by
  by_cases h : b < a
  · have e : max a b = a := by omega
    rw [e]
    clear e
    go_enter Yba.func8, Yba.ntmps8
    go_wp2
    go_ret
    exact ⟨rfl, rfl⟩
  · have e : max a b = b := by omega
    rw [e]
    clear e
    go_enter Yba.func8, Yba.ntmps8
    go_wp2
    go_ret
    exact ⟨rfl, rfl⟩

set_option maxHeartbeats 400000 in
theorem grow_same (a : Option Addr) (l c : Nat) (n : Int) (w : World) (hl : l ≤ c) (hc : c ≤ 100000) (h : n ≤ (c : Int) - (l : Int)) :
    Calls Yba.prog 9 #[.slice a l c, .int .i64 n] w fun e w' => e = .returned (.slice a l c) ∧ w' = w := by
  go_enter Yba.func9, Yba.ntmps9
  go_wp2
  go_ret
  exact ⟨rfl, rfl⟩

def zb (n : Nat) : Array Value := madeCells #[.int .u8 0] n

theorem run_mk22 (l C : Nat) (X : Int) (hX : X = (C : Int)) (hl : l ≤ C) (hC : C ≤ 1000000) (w : World) :
    (Instr.makeSlice 22 (.int .i64 (l : Int)) (.int .i64 X)).run Yba.prog w = .ok (.slice (some ⟨w.heap.size, 0, none⟩) l C) (w.alloc (.cells (zb C) 5)) := by
  subst hX
  obtain ⟨i, hi, hz⟩ := Option.map_eq_some_iff.1 info5
  simp only [Prod.mk.injEq] at hz
  obtain ⟨hz0, hz1, hz2⟩ := hz
  have hr := run_make (P := Yba.prog) w 22 5 i _ Yba.underlying22 hi hz0 .i64 .i64 l C (by omega) (by omega) (by rw [hz2]; omega) (by omega)
  simp only [Int.toNat_natCast, hz1, Nat.mul_one] at hr
  exact hr

theorem add_plain (b off i : Nat) : (⟨b, off, none⟩ : Addr).add i = ⟨b, off + i, none⟩ := by
  by_cases h : i = 0
  · subst h; simp [Addr.add]
  · simp [Addr.add, h]

/-- 'copy(grown, b)' into the row that make has just laid. -/
theorem copy_bytes (a : Option Addr) (l c i C : Nat) (w : World) (hlC : l ≤ C) (h : IsBytes w a i l) : ∃ w3,
    (∀ ty, (Builtin.copy_ #[22, 22] ty #[.slice (some ⟨w.heap.size, 0, none⟩) l C, .slice a l c]).run Yba.prog (w.alloc (.cells (zb C) 5)) = .ok (.int .i64 l) w3) ∧
    IsBytes w3 (some ⟨w.heap.size, 0, none⟩) i l ∧ Below w.heap.size w w3 := by
  have hblk : (w.alloc (.cells (zb C) 5)).heap[w.heap.size]? = some (.cells (zb C) 5 (0, 0)) := heap_alloc_new w _
  have hbel : Below w.heap.size w (w.alloc (.cells (zb C) 5)) := (Below.refl _ _).alloc (Nat.le_refl _) _
  have hsz : (zb C).size = C := size_madeCells _ _
  rcases h with rfl | ⟨g, rfl, hc⟩
  · exact ⟨_, fun ty => run_copy_none (P := Yba.prog) _ 22 22 ty 5 _ _ 0 C 0 c Yba.underlying22 size5 rfl, .inl rfl, hbel⟩
  · by_cases h0 : l = 0
    · subst h0
      exact ⟨_, fun ty => run_copy_none (P := Yba.prog) _ 22 22 ty 5 _ _ 0 C 0 c Yba.underlying22 size5 rfl, .inl rfl, hbel⟩
    · have hlen : ((List.range l).map fun t => Value.int .u8 (bv i t)).length = l := by simp
      have hg : g < w.heap.size := lt_of_cell (hc 0 (by omega))
      have hr := fun ty => run_copy_row (P := Yba.prog) (w.alloc (.cells (zb C) 5)) 22 22 ty 5 w.heap.size 0 l C ⟨g, 0, none⟩ l c (zb C) 5 ((List.range l).map fun t => Value.int .u8 (bv i t)) Yba.underlying22 size5 hblk (by rw [hlen]; exact (Nat.min_self l).symm)
          (fun j v hj => by
            rw [add_plain, Nat.zero_add, hbel.cell (p := ⟨g, j, none⟩) hg]
            have hjn : j < l := by
              have := (List.getElem?_eq_some_iff.1 hj).1
              omega
            rw [hc j hjn, ← hj]
            simp [hjn])
          (by rw [hlen, hsz]; omega)
          (fun v hv => by
            obtain ⟨x, _, rfl⟩ := List.mem_map.1 hv
            rfl)
      rw [hlen] at hr
      refine ⟨_, hr, .inr ⟨w.heap.size, rfl, fun t ht => ?_⟩, below_setRow hbel (Nat.le_refl _) _⟩
      have hb := setRow_heap (w.alloc (.cells (zb C) 5)) w.heap.size (zb C) (List.take 0 (zb C).toList ++ ((List.range l).map fun t => Value.int .u8 (bv i t)) ++ List.drop (0 + l) (zb C).toList).toArray 5 (0, 0) hblk
      rw [cell_of_row _ _ t _ 5 (0, 0) hb]
      simp [ht, List.getElem?_append]

set_option maxHeartbeats 400000 in
theorem grow_new (a : Option Addr) (l c i : Nat) (n : Int) (w : World) (hl : l ≤ c) (hc : c ≤ 100000) (hn : n ≤ 200000) (h : (c : Int) - (l : Int) < n) (hb : IsBytes w a i l) :
    Calls Yba.prog 9 #[.slice a l c, .int .i64 n] w fun e w' => ∃ C : Nat, (C : Int) = max (2 * (c : Int)) ((l : Int) + n) ∧ e = .returned (.slice (some ⟨w.heap.size, 0, none⟩) l C) ∧ IsBytes w' (some ⟨w.heap.size, 0, none⟩) i l ∧ Below w.heap.size w w' := by
  by_cases hd : 2 * (c : Int) < (l : Int) + n
  · obtain ⟨C, hC⟩ : ∃ C : Nat, (l : Int) + n = C := ⟨((l : Int) + n).toNat, by omega⟩
    have hmk := run_mk22 l C ((l : Int) + n) hC (by omega) (by omega)
    obtain ⟨w3, hcp, h3, hb3⟩ := copy_bytes a l c i C w (by omega) hb
    have X : Aside (IsBytes w3 (some ⟨w.heap.size, 0, none⟩) i l ∧ Below w.heap.size w w3 ∧ (C : Int) = max (2 * (c : Int)) ((l : Int) + n)) := ⟨h3, hb3, by omega⟩
    clear h3 hb3 hb hC
    go_enter Yba.func9, Yba.ntmps9
    go_wp2
    go_ret
    exact ⟨C, X.out.2.2, rfl, X.out.1, X.out.2.1⟩
  · have hmk := run_mk22 l (2 * c) (2 * (c : Int)) (by omega) (by omega) (by omega)
    obtain ⟨w3, hcp, h3, hb3⟩ := copy_bytes a l c i (2 * c) w (by omega) hb
    have X : Aside (IsBytes w3 (some ⟨w.heap.size, 0, none⟩) i l ∧ Below w.heap.size w w3) := ⟨h3, hb3⟩
    clear h3 hb3 hb
    go_enter Yba.func9, Yba.ntmps9
    go_wp2
    go_ret
    exact ⟨2 * c, by omega, rfl, X.out.1, X.out.2⟩

end Go.Proofs.Ybulkakqm.Room
