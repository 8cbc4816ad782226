/-
  What the law's first loop builds: the chunks, their lengths and capacities, one block of bytes a round.
-/
import Derived.Test.YbulkakqmRoom4
namespace Go.Proofs.Ybulkakqm.Room
open Go.RowKit
set_option linter.unusedVariables false

theorem info3 : (Yba.prog.info? 3).map (fun i => (i.zero, i.size, i.bytes)) = some (some (.int .i64 0), 1, 8) := by kernel_rfl

def nilRow (n : Nat) : Array Value := madeCells #[.slice none 0 0] n
def zeroRow (n : Nat) : Array Value := madeCells #[.int .i64 0] n

theorem run_mk28 (n : Nat) (hn : n ≤ 256) (w : World) : (Instr.makeSlice 28 (.int .i64 (n : Int)) (.int .i64 (n : Int))).run Yba.prog w = .ok (.slice (some ⟨w.heap.size, 0, none⟩) n n) (w.alloc (.cells (nilRow n) 22)) :=
  run_make_row' (P := Yba.prog) 28 22 (.slice none 0 0) 24 Yba.underlying28 info22 rfl .i64 .i64 n (by omega) (by omega) w
theorem run_mk29 (n : Nat) (hn : n ≤ 256) (w : World) : (Instr.makeSlice 29 (.int .i64 (n : Int)) (.int .i64 (n : Int))).run Yba.prog w = .ok (.slice (some ⟨w.heap.size, 0, none⟩) n n) (w.alloc (.cells (zeroRow n) 3)) :=
  run_make_row' (P := Yba.prog) 29 3 (.int .i64 0) 8 Yba.underlying29 info3 rfl .i64 .i64 n (by omega) (by omega) w

/-- The first i chunks are built. -/
structure Built (w v : World) (k i : Nat) (L C : Nat → Nat) : Prop where
  size : v.heap.size = w.heap.size + 3 + 2 * i
  below : Below w.heap.size w v
  chunks : ∃ f, v.rowIs w.heap.size 22 k f ∧ ∀ t, t < i → f t = .slice (some ⟨w.heap.size + 4 + 2 * t, 0, none⟩) (L t) (C t)
  lens : ∃ f, v.rowIs (w.heap.size + 1) 3 k f ∧ ∀ t, t < i → f t = .int .i64 (L t)
  caps : ∃ f, v.rowIs (w.heap.size + 2) 3 k f ∧ ∀ t, t < i → f t = .int .i64 (C t)
  bytes : ∀ t, t < i → ∀ u, u < L t → v.cell? ⟨w.heap.size + 4 + 2 * t, u, none⟩ = some (.int .u8 (bv t u))

theorem built_start (w : World) (k : Nat) (L C : Nat → Nat) : Built w (((w.alloc (.cells (nilRow k) 22)).alloc (.cells (zeroRow k) 3)).alloc (.cells (zeroRow k) 3)) k 0 L C where
  size := by simp
  below := (((Below.refl _ _).alloc (Nat.le_refl _) _).alloc (by simp) _).alloc (by simp; omega) _
  chunks := ⟨_, ((World.rowIs_made w (.slice none 0 0) k 22).alloc _).alloc _, fun t ht => absurd ht (Nat.not_lt_zero _)⟩
  lens := by
    have h := (World.rowIs_made (w.alloc (.cells (nilRow k) 22)) (.int .i64 0) k 3).alloc (.cells (zeroRow k) 3)
    rw [World.size_alloc] at h
    exact ⟨_, h, fun t ht => absurd ht (Nat.not_lt_zero _)⟩
  caps := by
    have h := World.rowIs_made ((w.alloc (.cells (nilRow k) 22)).alloc (.cells (zeroRow k) 3)) (.int .i64 0) k 3
    rw [World.size_alloc, World.size_alloc] at h
    exact ⟨_, h, fun t ht => absurd ht (Nat.not_lt_zero _)⟩
  bytes := fun t ht => absurd ht (Nat.not_lt_zero _)

/-- The inner loop: the first j bytes of chunk i are written. -/
structure Filled (V x : World) (i cp j : Nat) : Prop where
  size : x.heap.size = V.heap.size + 2
  below : Below V.heap.size V x
  row : ∃ f, x.rowIs (V.heap.size + 1) 5 cp f ∧ ∀ u, u < j → f u = .int .u8 (bv i u)

theorem filled_start (V : World) (c : Array Value) (i cp : Nat) : Filled V ((V.alloc (.cells c 32)).alloc (.cells (zb cp) 5)) i cp 0 where
  size := by simp
  below := ((Below.refl _ _).alloc (Nat.le_refl _) _).alloc (by simp) _
  row := by
    have h := World.rowIs_made (V.alloc (.cells c 32)) (.int .u8 0) cp 5
    rw [World.size_alloc] at h
    exact ⟨_, h, fun t ht => absurd ht (Nat.not_lt_zero _)⟩

theorem filled_step {V x : World} {i cp j : Nat} (h : Filled V x i cp j) : Filled V (x.setCell ⟨V.heap.size + 1, j, none⟩ (.int .u8 (bv i j))) i cp (j + 1) where
  size := by simpa using h.size
  below := h.below.setCell (by show V.heap.size ≤ V.heap.size + 1; omega) _
  row := by
    obtain ⟨f, hr, hf⟩ := h.row
    refine ⟨_, hr.set j (.int .u8 (bv i j)), fun u hu => ?_⟩
    by_cases e : u = j
    · subst e; rw [if_pos rfl]
    · rw [if_neg e]; exact hf u (by omega)

theorem built_step {w V x : World} {k i : Nat} {L C : Nat → Nat} (h : Built w V k i L C) (hf : Filled V x i (C i) (L i)) (hl : L i ≤ C i) :
    Built w (((x.setCell ⟨w.heap.size, i, none⟩ (.slice (some ⟨V.heap.size + 1, 0, none⟩) (L i) (C i))).setCell ⟨w.heap.size + 1, i, none⟩ (.int .i64 (L i))).setCell ⟨w.heap.size + 2, i, none⟩ (.int .i64 (C i))) k (i + 1) L C := by
  have hs := h.size
  have hs2 := hf.size
  have old : ∀ b, b < V.heap.size → x.heap[b]? = V.heap[b]? := fun b hb => hf.below.block b hb
  have far : ∀ b, b ≠ w.heap.size → b ≠ w.heap.size + 1 → b ≠ w.heap.size + 2 → (((x.setCell ⟨w.heap.size, i, none⟩ (.slice (some ⟨V.heap.size + 1, 0, none⟩) (L i) (C i))).setCell ⟨w.heap.size + 1, i, none⟩ (.int .i64 (L i))).setCell ⟨w.heap.size + 2, i, none⟩ (.int .i64 (C i))).heap[b]? = x.heap[b]? := fun b h1 h2 h3 => by
    rw [Below.heap_setCell _ _ _ _ (by exact h3), Below.heap_setCell _ _ _ _ (by exact h2), Below.heap_setCell _ _ _ _ (by exact h1)]
  refine ⟨by simp; omega, ?_, ?_, ?_, ?_, fun t ht u hu => ?_⟩
  · exact (((h.below.trans (hf.below.mono (by omega))).setCell (Nat.le_refl _) _).setCell (by show w.heap.size ≤ w.heap.size + 1; omega) _).setCell (by show w.heap.size ≤ w.heap.size + 2; omega) _
  · obtain ⟨f, hr, hff⟩ := h.chunks
    refine ⟨_, (((hr.of_block (old _ (by omega))).set i _).setOther (by show w.heap.size ≠ w.heap.size + 1; omega) _).setOther (by show w.heap.size ≠ w.heap.size + 2; omega) _, fun t ht => ?_⟩
    by_cases e : t = i
    · subst e
      rw [if_pos rfl, show V.heap.size + 1 = w.heap.size + 4 + 2 * t by omega]
    · rw [if_neg e]; exact hff t (by omega)
  · obtain ⟨f, hr, hff⟩ := h.lens
    refine ⟨_, (((hr.of_block (old _ (by omega))).setOther (by show w.heap.size + 1 ≠ w.heap.size; omega) _).set i _).setOther (by show w.heap.size + 1 ≠ w.heap.size + 2; omega) _, fun t ht => ?_⟩
    by_cases e : t = i
    · subst e; rw [if_pos rfl]
    · rw [if_neg e]; exact hff t (by omega)
  · obtain ⟨f, hr, hff⟩ := h.caps
    refine ⟨_, (((hr.of_block (old _ (by omega))).setOther (by show w.heap.size + 2 ≠ w.heap.size; omega) _).setOther (by show w.heap.size + 2 ≠ w.heap.size + 1; omega) _).set i _, fun t ht => ?_⟩
    by_cases e : t = i
    · subst e; rw [if_pos rfl]
    · rw [if_neg e]; exact hff t (by omega)
  · refine (World.cell?_of_block (w := x) (far _ (by show w.heap.size + 4 + 2 * t ≠ _; omega) (by show w.heap.size + 4 + 2 * t ≠ _; omega) (by show w.heap.size + 4 + 2 * t ≠ _; omega))).trans ?_
    by_cases e : t = i
    · subst e
      obtain ⟨f, hr, hff⟩ := hf.row
      rw [show w.heap.size + 4 + 2 * t = V.heap.size + 1 by omega, hr.cell (i := u) (by omega), hff u hu]
    · rw [World.cell?_of_block (w := V) (old _ (by show w.heap.size + 4 + 2 * t < V.heap.size; omega))]
      exact h.bytes t (by omega) u hu

end Go.Proofs.Ybulkakqm.Room
