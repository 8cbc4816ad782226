/-
  The walk of (*PositionsBuilder).room where a chunk is added behind others.
-/
import Derived.Test.YbulkakqmRoom2
namespace Go.Proofs.Ybulkakqm.Room
open Go.RowKit
set_option linter.unusedVariables false
attribute [local go_sem ↓] Go.wp_at_zero Go.wp_at_succ

theorem run_mkchunk : ∃ cs : Array Value, ∀ w : World, (Instr.makeSlice 22 (.int .i64 0) (.int .i64 65536)).run Yba.prog w = .ok (.slice (some ⟨w.heap.size, 0, none⟩) 0 65536) (w.alloc (.cells cs 5)) :=
  ⟨zb 65536, fun w => run_mk22 0 65536 65536 rfl (by omega) (by omega) w⟩

/-- The world in which the new chunk is appended. -/
def addW (v : World) (cs : Array Value) : World := ((v.alloc (.cells cs 5)).alloc (.cells #[.slice (some ⟨v.heap.size, 0, none⟩) 0 65536] 22)).drew

/-- An append whose run is known, as a step of a region that draws its order. -/
theorem step_append_run {ops : Array Oper} {o : Oper} {a : Act} {w w1 : World} {K : Act → World → Prop} {Q : Exit → Act → World → Prop} {E : Prop} {vs vx v' : Value} (hg : o.guard = none) (s x : Operand)
    (hop : o.op = Op.call { callee := Callee.builtin Builtin.append, args := #[s, x], argTypes := #[28, 28] }) (hty : o.type = 28) (hs : a.eval s = vs) (hx : a.eval x = vx)
    (hrun : (Builtin.append_ #[28, 28] 28 #[vs, vx]).run Yba.prog w = .ok v' w1) (hK : K (a.put o.dst v') w1) :
    if Region.wanted o (yielded ops a.tmps) = true then Oper.wp Yba.prog o a w K Q else E := by
  have hw : Region.wanted o (yielded ops a.tmps) = true := by simp [Region.wanted, hg]
  rw [if_pos hw]
  unfold Oper.wp
  simp [execOp, hop, hty, resolve, invoke, builtin, hs, hx, hrun, Result.andThen]
  exact hK

/-- What the append leaves. -/
def Added (v w1 : World) (A j g cap : Nat) (cur cs : Array Value) : Prop :=
  w1.ownsRow 0 22 1 (.slice (some ⟨g, 0, none⟩) (j + 1 + 1) cap) (j + 1 + 1) (cur.toList ++ [.slice (some ⟨v.heap.size, 0, none⟩) 0 65536]) ∧ (addW v cs).grownBy w1 (some A) ∧ (A = g ∨ g = (addW v cs).heap.size) ∧ g < w1.heap.size

theorem addW_below (v : World) (cs : Array Value) : Below v.heap.size v (addW v cs) := (((Below.refl _ _).alloc (Nat.le_refl _) _).alloc (by simp) _).drew

set_option maxHeartbeats 4000000 in
set_option maxRecDepth 100000 in
theorem room_new (Bb A j : Nat) (cur : Array Value) (x : Option Addr) (l c : Nat) (n : Int) (w : World) (hk : j < 256) (hl : l ≤ c) (hc : c ≤ 100000) (hn0 : -1000 ≤ n) (hn : n ≤ 200000)
    (hne : A ≠ Bb) (q0 : w.cell? ⟨Bb, 0, none⟩ = some (.slice (some ⟨A, 0, none⟩) (j + 1) (j + 1))) (f0 : w.frozen? ⟨Bb, 0, none⟩ = false) (q1 : w.cell? ⟨A, j, none⟩ = some (.slice x l c))
    (hA : w.heap[A]? = some (.cells cur 22 (0, 0))) (hcur : cur.size = j + 1) (hlt : (c : Int) - (l : Int) < n) (hbig : 65536 ≤ c) :
    Calls Yba.prog 6 #[.pointer (some ⟨Bb, 0, none⟩), .int .i64 n] w fun e w' => ∃ (g cap : Nat) (cs : Array Value) (v w1 w2 : World) (a' : Option Addr) (C : Nat), e = .returned (.pointer (some ⟨g, j + 1, none⟩)) ∧ (C : Int) = gcap 0 65536 n ∧ Below w.heap.size w v ∧ Added v w1 A j g cap cur cs ∧ Below w1.heap.size (w1.setCell ⟨Bb, 0, none⟩ (.slice (some ⟨g, 0, none⟩) (j + 1 + 1) cap)) w2 ∧ w' = w2.setCell ⟨g, j + 1, none⟩ (.slice a' 0 C) := by
  have hd2 : decide ((65536 : Int) ≤ (c : Int)) = true := by simp; omega
  have hBb := lt_of_cell q0
  have hAl := lt_of_cell q1
  obtain ⟨cs, hmk⟩ := run_mkchunk
  go_enter Yba.func6, Yba.ntmps6
  go_wp2
  go_quiet (fail)
  go_wp2
  have v0 : (w.drewN nq).cell? ⟨Bb, 0, none⟩ = some (.slice (some ⟨A, 0, none⟩) (j + 1) (j + 1)) := q0
  have v1 : (w.drewN nq).frozen? ⟨Bb, 0, none⟩ = false := f0
  have hvA : (w.drewN nq).heap[A]? = some (.cells cur 22 (0, 0)) := hA
  have BV : Aside (Below w.heap.size w (w.drewN nq)) := below_drewN (Below.refl _ _) _
  have hvs : Bb < (w.drewN nq).heap.size ∧ A < (w.drewN nq).heap.size := ⟨hBb, hAl⟩
  clear q0 q1 f0 hA hBb hAl
  generalize w.drewN nq = v at *
  have hA1 : (addW v cs).heap[A]? = some (.cells cur 22 (0, 0)) := by
    have hb : Below v.heap.size v (addW v cs) := (((Below.refl _ _).alloc (Nat.le_refl _) _).alloc (by simp) _).drew
    rw [hb.block A hvs.2]; exact hvA
  have hB1 : (addW v cs).heap[v.heap.size + 1]? = some (.cells #[.slice (some ⟨v.heap.size, 0, none⟩) 0 65536] 22 (0, 0)) := by
    have := heap_alloc_new (v.alloc (.cells cs 5)) (.cells #[.slice (some ⟨v.heap.size, 0, none⟩) 0 65536] 22)
    simp only [World.size_alloc] at this
    exact this
  obtain ⟨g, cap, w1, hrun, hown, hgrow, hat, hltg⟩ := append_run A (j + 1) cur (.slice (some ⟨v.heap.size, 0, none⟩) 0 65536) rfl (addW v cs) (v.heap.size + 1) (by omega) hA1 hcur hB1
  have hW : Aside (Added v w1 A j g cap cur cs) := ⟨hown, hgrow, hat, hltg⟩
  have hgB : g ≠ Bb := by
    have := (addW_below v cs).size
    rcases hat with h | h <;> omega
  have r2 : w1.cell? ⟨g, j + 1, none⟩ = some (.slice (some ⟨v.heap.size, 0, none⟩) 0 65536) := by
    rw [hown.cellAt (j + 1) (by omega), List.getElem?_append_right (by simp [hcur])]
    simp [hcur]
  have r3 : w1.frozen? ⟨g, j + 1, none⟩ = false := hown.frozenAt _
  have r0 : w1.cell? ⟨Bb, 0, none⟩ = some (.slice (some ⟨A, 0, none⟩) (j + 1) (j + 1)) := by
    have hb : Below v.heap.size v (addW v cs) := (((Below.refl _ _).alloc (Nat.le_refl _) _).alloc (by simp) _).drew
    rw [hgrow.cell_far ⟨Bb, 0, none⟩ (Nat.lt_of_lt_of_le hvs.1 hb.size) (by simpa using hne.symm)]
    exact (hb.cell (p := ⟨Bb, 0, none⟩) hvs.1).trans v0
  have r1 : w1.frozen? ⟨Bb, 0, none⟩ = false := by
    have hb : Below v.heap.size v (addW v cs) := (((Below.refl _ _).alloc (Nat.le_refl _) _).alloc (by simp) _).drew
    rw [hgrow.frozen_far ⟨Bb, 0, none⟩ (Nat.lt_of_lt_of_le hvs.1 hb.size) (by simpa using hne.symm)]
    exact (hb.frozen (p := ⟨Bb, 0, none⟩) hvs.1).trans v1
  clear hown hgrow hat hltg hA1 hB1 hvA
  unfold addW at hrun
  have HR : Aside _ := hrun
  clear hrun
  go_region_law ((refine step_append_run (by rfl) (.tmp 59) (.tmp 61) (by rfl) (by rfl) (by rfl) (by rfl) HR.out ?_))
  clear HR hmk v0 v1 hvs hcur hlt hbig hd2
  all_goals go_wp2
  all_goals
    have u0 : (w1.setCell ⟨Bb, 0, none⟩ (.slice (some ⟨g, 0, none⟩) (j + 1 + 1) cap)).cell? ⟨Bb, 0, none⟩ = some (.slice (some ⟨g, 0, none⟩) (j + 1 + 1) cap) := World.cell?_setCell_same' _ _ _ (by rw [r0]; rfl)
    have u1 : (w1.setCell ⟨Bb, 0, none⟩ (.slice (some ⟨g, 0, none⟩) (j + 1 + 1) cap)).cell? ⟨g, j + 1, none⟩ = some (.slice (some ⟨v.heap.size, 0, none⟩) 0 65536) := (World.cell?_setCell_far _ _ _ _ (by exact hgB.symm)).trans r2
    have u2 : (w1.setCell ⟨Bb, 0, none⟩ (.slice (some ⟨g, 0, none⟩) (j + 1 + 1) cap)).frozen? ⟨g, j + 1, none⟩ = false := (World.frozen?_of_block (w := w1) (Below.heap_setCell w1 _ _ _ (by exact hgB))).trans r3
    have V : Aside (True ∧ IsBytes (w1.setCell ⟨Bb, 0, none⟩ (.slice (some ⟨g, 0, none⟩) (j + 1 + 1) cap)) (some ⟨v.heap.size, 0, none⟩) 0 0) := ⟨trivial, .inl rfl⟩
    have VS : Aside ((w1.setCell ⟨Bb, 0, none⟩ (.slice (some ⟨g, 0, none⟩) (j + 1 + 1) cap)).heap.size = w1.heap.size) := (by simp : (w1.setCell ⟨Bb, 0, none⟩ (.slice (some ⟨g, 0, none⟩) (j + 1 + 1) cap)).heap.size = w1.heap.size)
    clear r0 r1 r2 r3
    generalize hz : w1.setCell ⟨Bb, 0, none⟩ (.slice (some ⟨g, 0, none⟩) (j + 1 + 1) cap) = z at u0 u1 u2 V VS ⊢
    have HZ : Aside _ := hz
    clear hz
    go_region_with (go_at_call 9; refine (grow_any (some ⟨v.heap.size, 0, none⟩) 0 65536 0 n z.drew (by omega) (by omega) hn V.out.2).mono ?_; rintro e w2 ⟨a', C, rfl, hC, hB1, hbel⟩; have p0 := (hbel.cell (p := ⟨Bb, 0, none⟩) (lt_of_cell u0)).trans u0; have p1 := (hbel.cell (p := ⟨g, j + 1, none⟩) (lt_of_cell u1)).trans u1; have p2 := (hbel.frozen (p := ⟨g, j + 1, none⟩) (lt_of_cell u1)).trans u2; have Y : Aside ((C : Int) = gcap 0 65536 n ∧ IsBytes w2 a' 0 0 ∧ Below z.heap.size z w2) := ⟨hC, hB1, (Below.refl _ z).drew.trans hbel⟩; clear hC hB1 hbel)
    all_goals go_wp2
    all_goals go_ret
    all_goals refine ⟨g, cap, cs, v, w1, w2, a', C, rfl, Y.out.1, BV.out, hW.out, ?_, rfl⟩
    all_goals rw [HZ.out, ← VS.out]
    all_goals exact Y.out.2.2

end Go.Proofs.Ybulkakqm.Room
