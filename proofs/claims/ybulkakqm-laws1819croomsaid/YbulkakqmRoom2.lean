/-
  The walk of (*PositionsBuilder).room where a chunk is added.
-/
import Derived.Test.YbulkakqmRoom
namespace Go.Proofs.Ybulkakqm.Room
open Go.RowKit
set_option linter.unusedVariables false
attribute [local go_sem ↓] Go.wp_at_zero Go.wp_at_succ

theorem info22 : (Yba.prog.info? 22).map (fun i => (i.zero, i.size, i.bytes)) = some (some (.slice none 0 0), 1, 24) := by kernel_rfl

/-- 'append(b.chunks, s)': the row that was there, or a new one, holds the old slices and the new one. -/
theorem append_run (A k : Nat) (cur : Array Value) (u : Value) (hu : u.oneCell' = true) (w : World) (B : Nat) (hk : k ≤ 256) (hA : w.heap[A]? = some (.cells cur 22 (0, 0))) (hcur : cur.size = k) (hB : w.heap[B]? = some (.cells #[u] 22 (0, 0))) :
    ∃ g cap w', (Builtin.append_ #[28, 28] 28 #[.slice (some ⟨A, 0, none⟩) k k, .slice (some ⟨B, 0, none⟩) 1 1]).run Yba.prog w = .ok (.slice (some ⟨g, 0, none⟩) (k + 1) cap) w' ∧
      w'.ownsRow 0 22 1 (.slice (some ⟨g, 0, none⟩) (k + 1) cap) (k + 1) (cur.toList ++ [u]) ∧ w.grownBy w' (some A) ∧ (A = g ∨ g = w.heap.size) ∧ g < w'.heap.size := by
  obtain ⟨i0, hi, hz⟩ := Option.map_eq_some_iff.1 info22
  simp only [Prod.mk.injEq] at hz
  obtain ⟨hz0, hz1, hz2⟩ := hz
  have hown : w.ownsRow 0 22 1 (.slice (some ⟨A, 0, none⟩) k k) k cur.toList := ⟨by simp [hcur], .inr ⟨A, k, cur, rfl, Nat.zero_le _, hA, Nat.le_refl _, by unfold maxLen; omega, by omega, List.take_of_length_le (by simp [hcur])⟩⟩
  obtain ⟨g, cap, w', hr, h1, h2, h3, h4⟩ := run_append_lies (P := Yba.prog) w 28 28 0 22 i0 (.slice none 0 0) 1 24 Yba.underlying28 hi hz0 hz1 hz2 rfl (by omega) (.slice (some ⟨A, 0, none⟩) k k) k cur.toList hown ⟨B, 0, none⟩ 1 1 [u] rfl
    (World.news_of_block hB) (fun v hv => by rw [List.mem_singleton.1 hv]; exact hu) (by omega) (by unfold maxLen; omega) (by omega) (Nat.zero_le _) w.heap.size rfl
  refine ⟨g, cap, w', hr, h1, h2, ?_, h4⟩
  rcases h3 with h | h
  · exact .inl (by simpa [Value.ownBlock] using h)
  · exact .inr h

/-- The world behind the append of the first chunk: the builder's field holds the new row, whose first cell is nil. -/
def firstW (w : World) (Bb cap : Nat) (zs : Array Value) : World :=
  (((w.setCell ⟨Bb, 0, none⟩ (.slice (some ⟨w.heap.size + 1, 0, none⟩) 1 cap)).alloc (.cells #[.slice none 0 0] 22)).alloc (.cells (#[.slice none 0 0] ++ zs) 22)).drew

theorem firstW_facts (w : World) (Bb cap : Nat) (zs : Array Value) (hBb : Bb < w.heap.size) (q0 : (w.cell? ⟨Bb, 0, none⟩).isSome = true) :
    (firstW w Bb cap zs).cell? ⟨Bb, 0, none⟩ = some (.slice (some ⟨w.heap.size + 1, 0, none⟩) 1 cap) ∧ (firstW w Bb cap zs).cell? ⟨w.heap.size + 1, 0, none⟩ = some (.slice none 0 0) ∧ (firstW w Bb cap zs).frozen? ⟨w.heap.size + 1, 0, none⟩ = false ∧ (firstW w Bb cap zs).heap.size = w.heap.size + 2 ∧
      Below w.heap.size (w.setCell ⟨Bb, 0, none⟩ (.slice (some ⟨w.heap.size + 1, 0, none⟩) 1 cap)) (firstW w Bb cap zs) := by
  have hb : Below w.heap.size (w.setCell ⟨Bb, 0, none⟩ (.slice (some ⟨w.heap.size + 1, 0, none⟩) 1 cap)) (firstW w Bb cap zs) := (((Below.refl _ _).alloc (by simp) _).alloc (by simp) _).drew
  have hn : (firstW w Bb cap zs).heap[w.heap.size + 1]? = some (.cells (#[.slice none 0 0] ++ zs) 22 (0, 0)) := by
    have := heap_alloc_new ((w.setCell ⟨Bb, 0, none⟩ (.slice (some ⟨w.heap.size + 1, 0, none⟩) 1 cap)).alloc (.cells #[.slice none 0 0] 22)) (.cells (#[.slice none 0 0] ++ zs) 22)
    simp only [World.size_alloc, World.size_setCell] at this
    exact this
  refine ⟨?_, ?_, ?_, ?_, hb⟩
  · rw [hb.cell (p := ⟨Bb, 0, none⟩) hBb]
    exact World.cell?_setCell_same' w _ _ q0
  · rw [cell_of_row _ _ 0 _ 22 (0, 0) hn, Array.getElem?_append_left (by simp)]
    rfl
  · exact frozen_of_row _ _ 0 _ 22 hn
  · simp [firstW]

set_option maxHeartbeats 2000000 in
/-- room at a builder without a chunk. -/
theorem room_zero (Bb A : Nat) (n : Int) (w : World) (hn0 : -1000 ≤ n) (hn : n ≤ 200000)
    (hne : A ≠ Bb) (q0 : w.cell? ⟨Bb, 0, none⟩ = some (.slice (some ⟨A, 0, none⟩) 0 0)) (f0 : w.frozen? ⟨Bb, 0, none⟩ = false) :
    Calls Yba.prog 6 #[.pointer (some ⟨Bb, 0, none⟩), .int .i64 n] w fun e w' => ∃ (cap : Nat) (zs : Array Value) (w1 : World) (a' : Option Addr) (C : Nat), e = .returned (.pointer (some ⟨w.heap.size + 1, 0, none⟩)) ∧ (C : Int) = gcap 0 0 n ∧ Below (w.heap.size + 2) (firstW w Bb cap zs) w1 ∧ w' = w1.setCell ⟨w.heap.size + 1, 0, none⟩ (.slice a' 0 C) := by
  have hBb := lt_of_cell q0
  have hF := fun cap zs => firstW_facts w Bb cap zs hBb (by rw [q0]; rfl)
  have HF : Aside _ := hF
  clear hF
  go_enter Yba.func6, Yba.ntmps6
  go_wp2
  generalize (Question.appendCap 1 0 22).cut (w.tape w.drawn (Question.appendCap 1 0 22)) = cap
  generalize Builtin.zeroCells #[Value.slice none 0 0] (cap - 1) = zs
  obtain ⟨v0, v1, v2, v3, v4⟩ := HF.out cap zs
  have V : Aside (True ∧ IsBytes (firstW w Bb cap zs) none 0 0) := ⟨trivial, .inl rfl⟩
  have V3 : Aside ((firstW w Bb cap zs).heap.size = w.heap.size + 2) := v3
  clear v3 v4 HF q0 f0
  unfold firstW at v0 v1 v2 V V3
  generalize hv : (((w.setCell ⟨Bb, 0, none⟩ (.slice (some ⟨w.heap.size + 1, 0, none⟩) 1 cap)).alloc (.cells #[.slice none 0 0] 22)).alloc (.cells (#[.slice none 0 0] ++ zs) 22)).drew = v at v0 v1 v2 V V3 ⊢
  have HV : Aside _ := hv
  clear hv
  go_region_with (go_at_call 9; refine (grow_any none 0 0 0 n v.drew (by omega) (by omega) hn V.out.2).mono ?_; rintro e w1 ⟨a', C, rfl, hC, hB1, hbel⟩; have p0 := (hbel.cell (p := ⟨Bb, 0, none⟩) (lt_of_cell v0)).trans v0; have p1 := (hbel.cell (p := ⟨w.heap.size + 1, 0, none⟩) (lt_of_cell v1)).trans v1; have p2 := (hbel.frozen (p := ⟨w.heap.size + 1, 0, none⟩) (lt_of_cell v1)).trans v2; have Y : Aside ((C : Int) = gcap 0 0 n ∧ IsBytes w1 a' 0 0 ∧ Below v.heap.size v w1) := ⟨hC, hB1, (Below.refl _ v).drew.trans hbel⟩; clear hC hB1 hbel)
  all_goals go_wp2
  all_goals go_ret
  all_goals refine ⟨cap, zs, w1, a', C, rfl, Y.out.1, ?_, rfl⟩
  all_goals rw [← V3.out]
  all_goals unfold firstW
  all_goals rw [HV.out]
  all_goals exact Y.out.2.2

end Go.Proofs.Ybulkakqm.Room
