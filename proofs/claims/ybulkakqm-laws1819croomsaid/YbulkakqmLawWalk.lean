/-
  The walk of LawS1819CRoom.
-/
import Derived.Test.YbulkakqmBuild
import Derived.Lib.Builder
namespace Go.Proofs.Ybulkakqm.Room
open Go.RowKit
set_option linter.unusedVariables false

/-- The capacity and the length of chunk i. -/
def capF (E : Nat → Int) (G : Nat → Bool) (i : Nat) : Nat := (if G i then 65536 else 0) + (E i % 300).toNat
def lenF (R E : Nat → Int) (G : Nat → Bool) (i : Nat) : Nat := capF E G i - min (R i % 300).toNat (capF E G i)

theorem capF_le (E : Nat → Int) (G : Nat → Bool) (i : Nat) (h : 0 ≤ E i) : capF E G i ≤ 65835 := by
  unfold capF
  have : (E i % 300).toNat ≤ 299 := by omega
  split <;> omega
theorem lenF_le (R E : Nat → Int) (G : Nat → Bool) (i : Nat) : lenF R E G i ≤ capF E G i := by unfold lenF; omega

theorem run_mk22' (l C : Nat) (Y X : Int) (hY : Y = (l : Int)) (hX : X = (C : Int)) (hl : l ≤ C) (hC : C ≤ 1000000) (w : World) :
    (Instr.makeSlice 22 (.int .i64 Y) (.int .i64 X)).run Yba.prog w = .ok (.slice (some ⟨w.heap.size, 0, none⟩) l C) (w.alloc (.cells (zb C) 5)) := by
  subst hY
  exact run_mk22 l C X hX hl hC w

theorem lenF_small (R E : Nat → Int) (G : Nat → Bool) (i : Nat) : lenF R E G i ≤ 100000 := by
  have h1 := lenF_le R E G i
  have h2 : capF E G i ≤ 100000 := by
    unfold capF
    have : (E i % 300).toNat ≤ 299 := by omega
    split <;> omega
  omega

/-- What the walk is told of the slice of descriptions: none; or they lie there, three cells each. -/
def IsDescs (w : World) (a : Option Addr) (k : Nat) (R E : Nat → Int) (G : Nat → Bool) : Prop :=
  k = 0 ∨ ∃ b o, a = some ⟨b, o, none⟩ ∧ ∀ i, i < k → (0 ≤ R i ∧ R i ≤ 65535 ∧ 0 ≤ E i ∧ E i ≤ 65535) ∧ w.cell? ⟨b, o + i * 3, none⟩ = some (.int .u16 (R i)) ∧ w.cell? ⟨b, o + i * 3 + 1, none⟩ = some (.int .u16 (E i)) ∧ w.cell? ⟨b, o + i * 3 + 2, none⟩ = some (.bool (G i))

theorem info22' : ∃ j, Yba.prog.info? 22 = some j := by
  have h : (Yba.prog.info? 22).isSome = true := by kernel_rfl
  exact Option.isSome_iff_exists.1 h
theorem ne40 (x : Addr) (w : World) : (binOp .neq 40 (.pointer (some x)) (.pointer (some x))).run Yba.prog w = .ok (.bool false) w := by
  obtain ⟨j, hj⟩ := info22'
  exact Lib.run_neq_ptr_same w x Yba.underlying40 hj

/-- The world in which room is called. -/
def boxed (w wr : World) (k : Nat) : World := wr.alloc (.cells #[.slice (some ⟨w.heap.size, 0, none⟩) k k, .int .i64 0, .int .i32 0, .int .i32 0] 39)

theorem boxed_below (w wr : World) (k : Nat) : Below wr.heap.size wr (boxed w wr k) := (Below.refl _ _).alloc (Nat.le_refl _) _

theorem boxed_facts {w wr : World} {k : Nat} {L C : Nat → Nat} (h : Built w wr k k L C) :
    (boxed w wr k).cell? ⟨wr.heap.size, 0, none⟩ = some (.slice (some ⟨w.heap.size, 0, none⟩) k k) ∧ (boxed w wr k).frozen? ⟨wr.heap.size, 0, none⟩ = false ∧ w.heap.size ≠ wr.heap.size ∧ (∀ t, (boxed w wr k).frozen? ⟨w.heap.size, t, none⟩ = false) ∧
    (∃ cur, (boxed w wr k).heap[w.heap.size]? = some (.cells cur 22 (0, 0)) ∧ cur.size = k ∧ ∀ t, t < k → cur[t]? = some (.slice (some ⟨w.heap.size + 4 + 2 * t, 0, none⟩) (L t) (C t))) ∧
    (∀ t, t < k → IsBytes (boxed w wr k) (some ⟨w.heap.size + 4 + 2 * t, 0, none⟩) t (L t)) := by
  have hs := h.size
  have hb := boxed_below w wr k
  have hn : (boxed w wr k).heap[wr.heap.size]? = some (.cells #[.slice (some ⟨w.heap.size, 0, none⟩) k k, .int .i64 0, .int .i32 0, .int .i32 0] 39 (0, 0)) := heap_alloc_new wr _
  obtain ⟨f, ⟨cur, hc1, hc2, hc3⟩, hf⟩ := h.chunks
  have hc1' : (boxed w wr k).heap[w.heap.size]? = some (.cells cur 22 (0, 0)) := (hb.block _ (by omega)).trans hc1
  refine ⟨?_, frozen_of_row _ _ 0 _ 39 hn, by omega, fun t => frozen_of_row _ _ t _ 22 hc1', ⟨cur, hc1', hc2, fun t ht => by rw [hc3 t ht, hf t ht]⟩, fun t ht => ?_⟩
  · rw [cell_of_row _ _ 0 _ 39 (0, 0) hn]; rfl
  · exact .inr ⟨_, rfl, fun u hu => (hb.cell (p := ⟨w.heap.size + 4 + 2 * t, u, none⟩) (lt_of_cell (h.bytes t ht u hu))).trans (h.bytes t ht u hu)⟩

/-- What stands behind room: the lengths, the capacities, the bytes of the elder chunks; nothing from before the call has turned. -/
theorem after_facts {w wr w' : World} {k g m cap : Nat} {X : Nat → Value} {L C : Nat → Nat} (h : Built w wr k k L C) (hA : After (boxed w wr k) w' wr.heap.size w.heap.size g m cap X) :
    (∀ t, t < k → w'.cell? ⟨w.heap.size + 1, t, none⟩ = some (.int .i64 (L t))) ∧ (∀ t, t < k → w'.cell? ⟨w.heap.size + 1 + 1, t, none⟩ = some (.int .i64 (C t))) ∧
    (∀ t, t < k → IsBytes w' (some ⟨w.heap.size + 4 + 2 * t, 0, none⟩) t (L t)) ∧ Below w.heap.size w w' := by
  have hs := h.size
  have hb := boxed_below w wr k
  have hsz : (boxed w wr k).heap.size = wr.heap.size + 1 := by simp [boxed]
  have kp : ∀ b, b < wr.heap.size → b ≠ w.heap.size → w'.heap[b]? = wr.heap[b]? := fun b h1 h2 => (hA.kept b (by omega) h2 (by omega)).trans (hb.block b h1)
  refine ⟨fun t ht => ?_, fun t ht => ?_, fun t ht => .inr ⟨_, rfl, fun u hu => ?_⟩, ?_⟩
  · obtain ⟨f, hr, hf⟩ := h.lens
    rw [(hr.of_block (kp _ (by omega) (by omega))).cell (i := t) ht, hf t ht]
  · obtain ⟨f, hr, hf⟩ := h.caps
    have := (hr.of_block (w' := w') (kp _ (by omega) (by omega))).cell (i := t) ht
    rw [hf t ht] at this
    exact this
  · have h1 := h.bytes t ht u hu
    rw [World.cell?_of_block (w := wr) (kp _ (by show w.heap.size + 4 + 2 * t < wr.heap.size; omega) (by show w.heap.size + 4 + 2 * t ≠ _; omega))]
    exact h1
  · refine ⟨hA.os.trans (hb.os.trans h.below.os), hA.tape.trans (hb.tape.trans h.below.tape), hA.output.trans (hb.output.trans h.below.output), ?_, fun b hb1 => ?_⟩
    · have := hA.size
      have := h.below.size
      omega
    · rw [kp b (by omega) (by omega), h.below.block b hb1]

set_option maxHeartbeats 4000000 in
set_option maxRecDepth 100000 in
theorem law_any (a : Option Addr) (k c : Nat) (R E : Nat → Int) (G : Nat → Bool) (n : Int) (w : World) (hk : k ≤ 256) (hn0 : -1000 ≤ n) (hn : n ≤ 200000) (hcs : IsDescs w a k R E G) :
    Calls Yba.prog 4 #[.slice a k c, .int .i64 n] w fun e w' => e = .returned (.bool true) ∧ Below w.heap.size w w' := by
  have D : Aside (IsDescs w a k R E G) := hcs
  clear hcs
  have d0 : decide ((256 : Int) < (k : Int)) = false := by simp; omega
  have d1 : decide (n < (-1000 : Int)) = false := by simp; omega
  have d2 : decide ((200000 : Int) < n) = false := by simp; omega
  have hm28 := run_mk28 k hk
  have hm29 := run_mk29 k hk
  go_enter Yba.func4, Yba.ntmps4
  go_wp2
  clear hm28 hm29
  go_loopg [9] k (fun gk s9 wr => ∃ i : Nat, i ≤ k ∧ k - i ≤ gk ∧ s9 = .int .i64 i ∧ Aside (Built w wr k i (lenF R E G) (capF E G)))
  case atStart => exact ⟨0, Nat.zero_le _, Nat.le_refl _, rfl, built_start w k _ _⟩
  case round =>
    obtain ⟨i, hik, hg, rfl, A⟩ := hrel
    by_cases hlt : i < k
    · rcases D.out with h0 | ⟨b, o, rfl, hd⟩
      · omega
      obtain ⟨⟨hr0, hr1, he0, he1⟩, cR, cE, cG⟩ := hd i hlt
      clear hd
      have hbl : b < wr.heap.size := Nat.lt_of_lt_of_le (lt_of_cell cR) A.out.below.size
      have c0 := (A.out.below.cell (p := ⟨b, o + i * 3, none⟩) (lt_of_cell cR)).trans cR
      have c1 := (A.out.below.cell (p := ⟨b, o + i * 3 + 1, none⟩) (lt_of_cell cR)).trans cE
      have c2 := (A.out.below.cell (p := ⟨b, o + i * 3 + 2, none⟩) (lt_of_cell cR)).trans cG
      clear cR cE cG
      have HL : Aside (lenF R E G i = capF E G i - min (R i % 300).toNat (capF E G i)) := rfl
      have HC : Aside (capF E G i = (if G i then 65536 else 0) + (E i % 300).toNat) := rfl
      generalize hL : lenF R E G i = L at HL
      generalize hC : capF E G i = C at HL HC
      have HE : Aside (lenF R E G i = L ∧ capF E G i = C) := ⟨hL, hC⟩
      clear hL hC
      generalize R i = r at *
      generalize E i = e at *
      generalize G i = gg at *
      cases gg
      · have hX : e % 300 = (C : Int) := by have := HC.out; simp at this; omega
        by_cases hrc : (C : Int) < r % 300
        · obtain rfl : L = 0 := by have := HL.out; omega
          have hCb : C ≤ 65835 := by omega
          have hLC : 0 ≤ C := by omega
          have hmk := run_mk22' 0 C 0 (C : Int) rfl rfl hLC (by omega)
          clear HC HL
          go_wp2
          obtain ⟨V, rfl⟩ : ∃ V : World, V = wr := ⟨_, rfl⟩
          go_loopg [16] 0 (fun gk2 s16 wi => ∃ j : Nat, j ≤ 0 ∧ 0 - j ≤ gk2 ∧ s16 = .int .i64 j ∧ Aside (Filled V wi i C j))
          case atStart => exact ⟨0, Nat.zero_le _, Nat.le_refl _, rfl, filled_start V _ i C⟩
          case round =>
            obtain ⟨j, hj, hg2, rfl, F⟩ := hrel
            have hV : Aside (V.heap.size = w.heap.size + 3 + 2 * i ∧ wr.heap.size = V.heap.size + 2) := ⟨A.out.size, F.out.size⟩
            by_cases hjl : j < 0
            · exact absurd hjl (Nat.not_lt_zero _)
            · obtain rfl : j = 0 := by omega
              have old : Aside (∀ bb, bb < V.heap.size → wr.heap[bb]? = V.heap[bb]?) := fun bb hbb => F.out.below.block bb hbb
              obtain ⟨u1, y1⟩ : ∃ u, wr.cell? ⟨w.heap.size, i, none⟩ = some u := by
                obtain ⟨f, hr, _⟩ := A.out.chunks
                exact ⟨_, (hr.of_block (old.out _ (by have := hV.out; omega))).cell (i := i) hlt⟩
              obtain ⟨u2, y2⟩ : ∃ u, wr.cell? ⟨w.heap.size + 1, i, none⟩ = some u := by
                obtain ⟨f, hr, _⟩ := A.out.lens
                exact ⟨_, (hr.of_block (old.out _ (by have := hV.out; omega))).cell (i := i) hlt⟩
              obtain ⟨u3, y3⟩ : ∃ u, wr.cell? ⟨w.heap.size + 1 + 1, i, none⟩ = some u := by
                obtain ⟨f, hr, _⟩ := A.out.caps
                exact ⟨_, (hr.of_block (old.out _ (by have := hV.out; omega))).cell (i := i) hlt⟩
              have z1 : wr.frozen? ⟨w.heap.size, i, none⟩ = false := by
                obtain ⟨f, hr, _⟩ := A.out.chunks
                exact (hr.of_block (old.out _ (by have := hV.out; omega))).frozen i
              have z2 : wr.frozen? ⟨w.heap.size + 1, i, none⟩ = false := by
                obtain ⟨f, hr, _⟩ := A.out.lens
                exact (hr.of_block (old.out _ (by have := hV.out; omega))).frozen i
              have z3 : wr.frozen? ⟨w.heap.size + 1 + 1, i, none⟩ = false := by
                obtain ⟨f, hr, _⟩ := A.out.caps
                exact (hr.of_block (old.out _ (by have := hV.out; omega))).frozen i
              have hst : Aside _ := built_step A.out (by rw [HE.out.1, HE.out.2]; exact F.out) (by rw [HE.out.1, HE.out.2]; exact hLC)
              clear c0 c1 c2 old hV
              go_wp2
              go_roundg (k - (i + 1))
              case measure => omega
              case rel =>
                refine ⟨i + 1, by omega, Nat.le_refl _, by go_num, ?_⟩
                have h1 := hst.out
                rw [HE.out.1, HE.out.2] at h1
                exact h1
        · have hY : (C : Int) - r % 300 = (L : Int) := by have := HL.out; omega
          have hCb : C ≤ 65835 := by omega
          have hLC : L ≤ C := by omega
          have hmk := run_mk22' L C (L : Int) (C : Int) rfl rfl hLC (by omega)
          clear HC HL
          go_wp2
          obtain ⟨V, rfl⟩ : ∃ V : World, V = wr := ⟨_, rfl⟩
          go_loopg [16] L (fun gk2 s16 wi => ∃ j : Nat, j ≤ L ∧ L - j ≤ gk2 ∧ s16 = .int .i64 j ∧ Aside (Filled V wi i C j))
          case atStart => exact ⟨0, Nat.zero_le _, Nat.le_refl _, rfl, filled_start V _ i C⟩
          case round =>
            obtain ⟨j, hj, hg2, rfl, F⟩ := hrel
            have hV : Aside (V.heap.size = w.heap.size + 3 + 2 * i ∧ wr.heap.size = V.heap.size + 2) := ⟨A.out.size, F.out.size⟩
            by_cases hjl : j < L
            · have y0 : ∃ u, wr.cell? ⟨V.heap.size + 1, j, none⟩ = some u := by
                obtain ⟨f, hr, _⟩ := F.out.row
                exact ⟨_, hr.cell (i := j) (by omega)⟩
              obtain ⟨u0, y0⟩ := y0
              have y1 : wr.frozen? ⟨V.heap.size + 1, j, none⟩ = false := by
                obtain ⟨f, hr, _⟩ := F.out.row
                exact hr.frozen _
              have hst : Aside _ := filled_step F.out
              clear hV c0 c1 c2
              go_wp2
              go_roundg (L - (j + 1))
              case measure => omega
              case rel =>
                refine ⟨j + 1, by omega, Nat.le_refl _, by go_num, ?_⟩
                exact hst.out
            · obtain rfl : j = L := by omega
              have old : Aside (∀ bb, bb < V.heap.size → wr.heap[bb]? = V.heap[bb]?) := fun bb hbb => F.out.below.block bb hbb
              obtain ⟨u1, y1⟩ : ∃ u, wr.cell? ⟨w.heap.size, i, none⟩ = some u := by
                obtain ⟨f, hr, _⟩ := A.out.chunks
                exact ⟨_, (hr.of_block (old.out _ (by have := hV.out; omega))).cell (i := i) hlt⟩
              obtain ⟨u2, y2⟩ : ∃ u, wr.cell? ⟨w.heap.size + 1, i, none⟩ = some u := by
                obtain ⟨f, hr, _⟩ := A.out.lens
                exact ⟨_, (hr.of_block (old.out _ (by have := hV.out; omega))).cell (i := i) hlt⟩
              obtain ⟨u3, y3⟩ : ∃ u, wr.cell? ⟨w.heap.size + 1 + 1, i, none⟩ = some u := by
                obtain ⟨f, hr, _⟩ := A.out.caps
                exact ⟨_, (hr.of_block (old.out _ (by have := hV.out; omega))).cell (i := i) hlt⟩
              have z1 : wr.frozen? ⟨w.heap.size, i, none⟩ = false := by
                obtain ⟨f, hr, _⟩ := A.out.chunks
                exact (hr.of_block (old.out _ (by have := hV.out; omega))).frozen i
              have z2 : wr.frozen? ⟨w.heap.size + 1, i, none⟩ = false := by
                obtain ⟨f, hr, _⟩ := A.out.lens
                exact (hr.of_block (old.out _ (by have := hV.out; omega))).frozen i
              have z3 : wr.frozen? ⟨w.heap.size + 1 + 1, i, none⟩ = false := by
                obtain ⟨f, hr, _⟩ := A.out.caps
                exact (hr.of_block (old.out _ (by have := hV.out; omega))).frozen i
              have hst : Aside _ := built_step A.out (by rw [HE.out.1, HE.out.2]; exact F.out) (by rw [HE.out.1, HE.out.2]; exact hLC)
              clear c0 c1 c2 old hV
              go_wp2
              go_roundg (k - (i + 1))
              case measure => omega
              case rel =>
                refine ⟨i + 1, by omega, Nat.le_refl _, by go_num, ?_⟩
                have h1 := hst.out
                rw [HE.out.1, HE.out.2] at h1
                exact h1

      · have hX : 65536 + e % 300 = (C : Int) := by have := HC.out; simp at this; omega
        have hY : (C : Int) - r % 300 = (L : Int) := by have := HL.out; omega
        have hrc : r % 300 ≤ (C : Int) := by omega
        have hCb : C ≤ 65835 := by omega
        have hLC : L ≤ C := by omega
        have hmk := run_mk22' L C (L : Int) (C : Int) rfl rfl hLC (by omega)
        clear HC HL
        go_wp2
        obtain ⟨V, rfl⟩ : ∃ V : World, V = wr := ⟨_, rfl⟩
        go_loopg [16] L (fun gk2 s16 wi => ∃ j : Nat, j ≤ L ∧ L - j ≤ gk2 ∧ s16 = .int .i64 j ∧ Aside (Filled V wi i C j))
        case atStart => exact ⟨0, Nat.zero_le _, Nat.le_refl _, rfl, filled_start V _ i C⟩
        case round =>
          obtain ⟨j, hj, hg2, rfl, F⟩ := hrel
          have hV : Aside (V.heap.size = w.heap.size + 3 + 2 * i ∧ wr.heap.size = V.heap.size + 2) := ⟨A.out.size, F.out.size⟩
          by_cases hjl : j < L
          · have y0 : ∃ u, wr.cell? ⟨V.heap.size + 1, j, none⟩ = some u := by
              obtain ⟨f, hr, _⟩ := F.out.row
              exact ⟨_, hr.cell (i := j) (by omega)⟩
            obtain ⟨u0, y0⟩ := y0
            have y1 : wr.frozen? ⟨V.heap.size + 1, j, none⟩ = false := by
              obtain ⟨f, hr, _⟩ := F.out.row
              exact hr.frozen _
            have hst : Aside _ := filled_step F.out
            clear hV c0 c1 c2
            go_wp2
            go_roundg (L - (j + 1))
            case measure => omega
            case rel =>
              refine ⟨j + 1, by omega, Nat.le_refl _, by go_num, ?_⟩
              exact hst.out
          · obtain rfl : j = L := by omega
            have old : Aside (∀ bb, bb < V.heap.size → wr.heap[bb]? = V.heap[bb]?) := fun bb hbb => F.out.below.block bb hbb
            obtain ⟨u1, y1⟩ : ∃ u, wr.cell? ⟨w.heap.size, i, none⟩ = some u := by
              obtain ⟨f, hr, _⟩ := A.out.chunks
              exact ⟨_, (hr.of_block (old.out _ (by have := hV.out; omega))).cell (i := i) hlt⟩
            obtain ⟨u2, y2⟩ : ∃ u, wr.cell? ⟨w.heap.size + 1, i, none⟩ = some u := by
              obtain ⟨f, hr, _⟩ := A.out.lens
              exact ⟨_, (hr.of_block (old.out _ (by have := hV.out; omega))).cell (i := i) hlt⟩
            obtain ⟨u3, y3⟩ : ∃ u, wr.cell? ⟨w.heap.size + 1 + 1, i, none⟩ = some u := by
              obtain ⟨f, hr, _⟩ := A.out.caps
              exact ⟨_, (hr.of_block (old.out _ (by have := hV.out; omega))).cell (i := i) hlt⟩
            have z1 : wr.frozen? ⟨w.heap.size, i, none⟩ = false := by
              obtain ⟨f, hr, _⟩ := A.out.chunks
              exact (hr.of_block (old.out _ (by have := hV.out; omega))).frozen i
            have z2 : wr.frozen? ⟨w.heap.size + 1, i, none⟩ = false := by
              obtain ⟨f, hr, _⟩ := A.out.lens
              exact (hr.of_block (old.out _ (by have := hV.out; omega))).frozen i
            have z3 : wr.frozen? ⟨w.heap.size + 1 + 1, i, none⟩ = false := by
              obtain ⟨f, hr, _⟩ := A.out.caps
              exact (hr.of_block (old.out _ (by have := hV.out; omega))).frozen i
            have hst : Aside _ := built_step A.out (by rw [HE.out.1, HE.out.2]; exact F.out) (by rw [HE.out.1, HE.out.2]; exact hLC)
            clear c0 c1 c2 old hV
            go_wp2
            go_roundg (k - (i + 1))
            case measure => omega
            case rel =>
              refine ⟨i + 1, by omega, Nat.le_refl _, by go_num, ?_⟩
              have h1 := hst.out
              rw [HE.out.1, HE.out.2] at h1
              exact h1

    · obtain rfl : k = i := by omega
      clear hg hik hlt
      obtain ⟨q0, f0, hne, f1, hcur, hby⟩ := boxed_facts A.out
      have PRE : Aside ((boxed w wr k).cell? ⟨wr.heap.size, 0, none⟩ = some (.slice (some ⟨w.heap.size, 0, none⟩) k k) ∧ (boxed w wr k).frozen? ⟨wr.heap.size, 0, none⟩ = false ∧ w.heap.size ≠ wr.heap.size ∧ (∀ t, (boxed w wr k).frozen? ⟨w.heap.size, t, none⟩ = false) ∧
        (∃ cur, (boxed w wr k).heap[w.heap.size]? = some (.cells cur 22 (0, 0)) ∧ cur.size = k ∧ ∀ t, t < k → cur[t]? = some (.slice (some ⟨w.heap.size + 4 + 2 * t, 0, none⟩) (lenF R E G t) (capF E G t))) ∧
        (∀ t, t < k → IsBytes (boxed w wr k) (some ⟨w.heap.size + 4 + 2 * t, 0, none⟩) t (lenF R E G t))) := ⟨q0, f0, hne, f1, hcur, hby⟩
      clear q0 f0 hne f1 hcur hby
      have hq := ne40
      rcases Nat.eq_zero_or_pos k with hk0 | hk0
      · subst hk0
        go_wp2_with fail
        refine (room_first _ _ n (boxed w wr 0) hn0 hn PRE.out.2.2.1 PRE.out.1 PRE.out.2.1).mono ?_
        rintro e w' ⟨g, cap, a', C, rfl, hC, hAf⟩
        obtain ⟨-, -, -, hbel⟩ := after_facts A.out hAf
        have B : Aside (Below w.heap.size w w') := hbel
        have s0 := hAf.head
        have s1 := hAf.row 0 (by omega)
        clear hbel hAf PRE
        by_cases hnp : n ≤ 0
        · obtain rfl : C = 0 := by unfold gcap at hC; split at hC <;> omega
          clear hC
          go_wp2
          go_ret
          exact ⟨rfl, B.out⟩
        · obtain rfl : n = (C : Int) := by unfold gcap at hC; split at hC <;> omega
          clear hC
          go_wp2
          go_ret
          exact ⟨rfl, B.out⟩
      · obtain ⟨j, rfl⟩ : ∃ j, k = j + 1 := ⟨k - 1, by omega⟩
        have hEj : 0 ≤ E j := by
          rcases D.out with h0 | ⟨b, o, _, hd⟩
          · omega
          · exact (hd j (by omega)).1.2.2.1
        have hCb := capF_le E G j hEj
        have hLb := lenF_le R E G j
        clear D hEj
        by_cases hadd : (capF E G j : Int) - (lenF R E G j : Int) < n ∧ 65536 ≤ capF E G j
        · go_wp2_with fail
          obtain ⟨cur, hc1, hc2, hc3⟩ := PRE.out.2.2.2.2.1
          refine (room_add _ _ j cur (some ⟨w.heap.size + 4 + 2 * j, 0, none⟩) (lenF R E G j) (capF E G j) n (boxed w wr (j + 1)) (fun t => .slice (some ⟨w.heap.size + 4 + 2 * t, 0, none⟩) (lenF R E G t) (capF E G t)) (by omega) hLb (by omega) hn0 hn PRE.out.2.2.1 PRE.out.1 PRE.out.2.1 hc1 hc2 hc3 rfl hadd.1 hadd.2).mono ?_
          rintro e w' ⟨g, cap, a', Cn, rfl, hCn, hAf⟩
          obtain ⟨hLs, hCs, hBs, hbel⟩ := after_facts A.out hAf
          have s0 := hAf.head
          have s1 := hLs j (by omega)
          have s2 := hCs j (by omega)
          have s3 := hAf.row (j + 1) (by omega)
          simp only [if_pos] at s3
          have Z : Aside ((∀ t, t < j + 1 → w'.cell? ⟨w.heap.size + 1, t, none⟩ = some (.int .i64 (lenF R E G t))) ∧ (∀ t, t < j + 1 → w'.cell? ⟨w.heap.size + 1 + 1, t, none⟩ = some (.int .i64 (capF E G t))) ∧
            (∀ t, t < j + 1 → IsBytes w' (some ⟨w.heap.size + 4 + 2 * t, 0, none⟩) t (lenF R E G t)) ∧ Below w.heap.size w w' ∧ (Cn : Int) = gcap 0 65536 n ∧
            ∀ t, t < j + 1 → w'.cell? ⟨g, t, none⟩ = some (.slice (some ⟨w.heap.size + 4 + 2 * t, 0, none⟩) (lenF R E G t) (capF E G t))) :=
            ⟨hLs, hCs, hBs, hbel, hCn, fun t ht => by have := hAf.row t (by omega); rwa [if_neg (by omega)] at this⟩
          clear hLs hCs hBs hbel hCn hAf hc1 hc2 hc3 PRE
          obtain ⟨h1, h2⟩ := hadd
          generalize lenF R E G j = Lj at s1 h1 hLb
          generalize capF E G j = Cj at s2 h1 h2 hCb hLb
          have e1 : decide ((65536 : Int) ≤ (Cj : Int)) = true := by simp; omega
          go_wp2
          go_quiet (fail)
          go_wp2
          obtain ⟨wo, rfl⟩ : ∃ wo : World, wo = wr := ⟨_, rfl⟩
          go_loopg [23] (j + 1) (fun gk sx wz => ∃ t : Nat, t ≤ j + 1 ∧ j + 1 - t ≤ gk ∧ sx = .int .i64 t ∧ Aside (∃ N, wz = w'.drewN N))
          case atStart => exact ⟨0, Nat.zero_le _, Nat.le_refl _, rfl, nq, rfl⟩
          case round =>
            obtain ⟨t, ht, hg, rfl, N0⟩ := hrel
            by_cases htj : t < j + 1
            · obtain ⟨N, hN⟩ := N0.out
              have r0 : wr.cell? ⟨w.heap.size + 1, t, none⟩ = some (.int .i64 (lenF R E G t)) := by rw [hN]; exact Z.out.1 t (by omega)
              have r1 : wr.cell? ⟨w.heap.size + 1 + 1, t, none⟩ = some (.int .i64 (capF E G t)) := by rw [hN]; exact Z.out.2.1 t (by omega)
              have r2 : wr.cell? ⟨g, t, none⟩ = some (.slice (some ⟨w.heap.size + 4 + 2 * t, 0, none⟩) (lenF R E G t) (capF E G t)) := by rw [hN]; exact Z.out.2.2.2.2.2 t (by omega)
              have r3 : wr.cell? ⟨wo.heap.size, 0, none⟩ = some (.slice (some ⟨g, 0, none⟩) (j + 1 + 1) cap) := by rw [hN]; exact s0
              have hsm : ∀ M, Calls Yba.prog 7 #[.slice (some ⟨w.heap.size + 4 + 2 * t, 0, none⟩) (lenF R E G t) (capF E G t), .int .i64 t, .int .i64 (lenF R E G t)] (wr.drewN M) fun e w'' => e = .returned (.bool true) ∧ w'' = wr.drewN M := fun M =>
                same_any (some ⟨w.heap.size + 4 + 2 * t, 0, none⟩) (lenF R E G t) (capF E G t) t (wr.drewN M) (lenF_small R E G t) (by omega) (by rw [hN]; exact Z.out.2.2.1 t (by omega))
              have NX : Aside (∀ M, ∃ N', wr.drewN M = w'.drewN N') := fun M => ⟨N + M, by rw [hN, World.drewN_drewN]⟩
              have hls := lenF_small R E G t
              have hcs2 : capF E G t ≤ 100000 := by
                unfold capF
                have : (E t % 300).toNat ≤ 299 := by omega
                split <;> omega
              generalize lenF R E G t = Lt at r0 r2 hsm hls
              generalize capF E G t = Ct at r1 r2 hsm hcs2
              generalize w.heap.size + 4 + 2 * t = gt at r2 hsm
              have SM : Aside _ := hsm
              clear hsm s0 s1 s2 s3 N0 hN
              go_wp2
              go_quiet ((go_at_call 7; exact Calls.quiet_of_same (SM.out _)))
              go_wp2
              go_roundg (j + 1 - (t + 1))
              case measure => omega
              case rel => exact ⟨t + 1, by omega, Nat.le_refl _, by go_num, NX.out _⟩

            · obtain rfl : t = j + 1 := by omega
              obtain ⟨N, hN⟩ := N0.out
              clear N0
              subst hN
              by_cases hnp : n ≤ 65536
              · obtain rfl : Cn = 65536 := by have h0 := Z.out.2.2.2.2.1; unfold gcap at h0; split at h0 <;> omega
                go_wp2
                go_ret
                exact ⟨rfl, below_drewN Z.out.2.2.2.1 _⟩
              · have hCn : max (131072 : Int) n = (Cn : Int) := by have h0 := Z.out.2.2.2.2.1; unfold gcap at h0; split at h0 <;> omega
                have hmx := fun W => max_any 131072 n W
                rw [hCn] at hmx
                have HM : Aside _ := hmx
                clear hmx hCn
                go_wp2_with (go_at_call 8; refine (HM.out _).mono ?_; rintro e w'' ⟨rfl, rfl⟩)
                go_ret
                exact ⟨rfl, below_drewN Z.out.2.2.2.1 _⟩
        · by_cases hroom : n ≤ (capF E G j : Int) - (lenF R E G j : Int)
          · have hor : n ≤ (capF E G j : Int) - (lenF R E G j : Int) ∨ capF E G j < 65536 := .inl hroom
            go_wp2_with fail
            obtain ⟨cur, hc1, hc2, hc3⟩ := PRE.out.2.2.2.2.1
            have hrow : ∀ t, t < j + 1 → (boxed w wr (j + 1)).cell? ⟨w.heap.size, t, none⟩ = some (.slice (some ⟨w.heap.size + 4 + 2 * t, 0, none⟩) (lenF R E G t) (capF E G t)) := fun t ht => by rw [cell_of_row _ _ t cur 22 (0, 0) hc1, hc3 t ht]
            refine (room_keep _ _ j (some ⟨w.heap.size + 4 + 2 * j, 0, none⟩) (lenF R E G j) (capF E G j) j n (boxed w wr (j + 1)) (fun t => .slice (some ⟨w.heap.size + 4 + 2 * t, 0, none⟩) (lenF R E G t) (capF E G t)) (by omega) hLb (by omega) hn0 hn PRE.out.2.2.1 PRE.out.1 hrow rfl ⟨_, _, _, rfl⟩ (PRE.out.2.2.2.1 j) (PRE.out.2.2.2.2.2 j (by omega)) hor).mono ?_
            rintro e w' ⟨rfl, a', Cn, hCn, hBy, hAf⟩
            obtain ⟨hLs, hCs, hBs, hbel⟩ := after_facts A.out hAf
            have s0 := hAf.head
            have s1 := hLs j (by omega)
            have s2 := hCs j (by omega)
            have s3 := hAf.row j (by omega)
            simp only [if_pos] at s3
            have Z : Aside ((∀ t, t < j + 1 → w'.cell? ⟨w.heap.size + 1, t, none⟩ = some (.int .i64 (lenF R E G t))) ∧ (∀ t, t < j + 1 → w'.cell? ⟨w.heap.size + 1 + 1, t, none⟩ = some (.int .i64 (capF E G t))) ∧
              (∀ t, t < j + 1 → IsBytes w' (some ⟨w.heap.size + 4 + 2 * t, 0, none⟩) t (lenF R E G t)) ∧ Below w.heap.size w w' ∧ True ∧
              ∀ t, t < j → w'.cell? ⟨w.heap.size, t, none⟩ = some (.slice (some ⟨w.heap.size + 4 + 2 * t, 0, none⟩) (lenF R E G t) (capF E G t))) :=
              ⟨hLs, hCs, hBs, hbel, trivial, fun t ht => by have := hAf.row t (by omega); rwa [if_neg (by omega)] at this⟩
            have hsl : ∀ (X : World) N, X = w'.drewN N → ∀ M, Calls Yba.prog 7 #[.slice a' (lenF R E G j) Cn, .int .i64 j, .int .i64 (lenF R E G j)] (X.drewN M) fun e w'' => e = .returned (.bool true) ∧ w'' = X.drewN M := fun X N hX M =>
              same_any a' (lenF R E G j) Cn j (X.drewN M) (lenF_small R E G j) (by omega) (by rw [hX]; exact hBy)
            clear hLs hCs hBs hbel hAf hc1 hc2 hc3 hrow PRE hBy
            generalize lenF R E G j = Lj at s1 s3 hroom hLb hCn hsl
            generalize capF E G j = Cj at s2 hroom hCb hLb hCn
            obtain rfl : Cj = Cn := by unfold gcap at hCn; rw [if_pos hroom] at hCn; omega
            have SL : Aside _ := hsl
            clear hor hCn hsl
            have e1 : decide ((Cj : Int) - (Lj : Int) < n) = false := by simp; omega
            go_wp2
            go_quiet (fail)
            go_wp2
            obtain ⟨wo, rfl⟩ : ∃ wo : World, wo = wr := ⟨_, rfl⟩
            go_loopg [25] (j) (fun gk sx wz => ∃ t : Nat, t ≤ j ∧ j - t ≤ gk ∧ sx = .int .i64 t ∧ Aside (∃ N, wz = w'.drewN N))
            case atStart => exact ⟨0, Nat.zero_le _, Nat.le_refl _, rfl, nq, rfl⟩
            case round =>
              obtain ⟨t, ht, hg, rfl, N0⟩ := hrel
              by_cases htj : t < j
              · obtain ⟨N, hN⟩ := N0.out
                have r0 : wr.cell? ⟨w.heap.size + 1, t, none⟩ = some (.int .i64 (lenF R E G t)) := by rw [hN]; exact Z.out.1 t (by omega)
                have r1 : wr.cell? ⟨w.heap.size + 1 + 1, t, none⟩ = some (.int .i64 (capF E G t)) := by rw [hN]; exact Z.out.2.1 t (by omega)
                have r2 : wr.cell? ⟨w.heap.size, t, none⟩ = some (.slice (some ⟨w.heap.size + 4 + 2 * t, 0, none⟩) (lenF R E G t) (capF E G t)) := by rw [hN]; exact Z.out.2.2.2.2.2 t (by omega)
                have r3 : wr.cell? ⟨wo.heap.size, 0, none⟩ = some (.slice (some ⟨w.heap.size, 0, none⟩) (j + 1) (j + 1)) := by rw [hN]; exact s0
                have hsm : ∀ M, Calls Yba.prog 7 #[.slice (some ⟨w.heap.size + 4 + 2 * t, 0, none⟩) (lenF R E G t) (capF E G t), .int .i64 t, .int .i64 (lenF R E G t)] (wr.drewN M) fun e w'' => e = .returned (.bool true) ∧ w'' = wr.drewN M := fun M =>
                  same_any (some ⟨w.heap.size + 4 + 2 * t, 0, none⟩) (lenF R E G t) (capF E G t) t (wr.drewN M) (lenF_small R E G t) (by omega) (by rw [hN]; exact Z.out.2.2.1 t (by omega))
                have NX : Aside (∀ M, ∃ N', wr.drewN M = w'.drewN N') := fun M => ⟨N + M, by rw [hN, World.drewN_drewN]⟩
                have hls := lenF_small R E G t
                have hcs2 : capF E G t ≤ 100000 := by
                  unfold capF
                  have : (E t % 300).toNat ≤ 299 := by omega
                  split <;> omega
                generalize lenF R E G t = Lt at r0 r2 hsm hls
                generalize capF E G t = Ct at r1 r2 hsm hcs2
                generalize w.heap.size + 4 + 2 * t = gt at r2 hsm
                have SM : Aside _ := hsm
                clear hsm s0 s1 s2 s3 N0 hN
                go_wp2
                go_quiet ((go_at_call 7; exact Calls.quiet_of_same (SM.out _)))
                go_wp2
                go_roundg (j - (t + 1))
                case measure => omega
                case rel => exact ⟨t + 1, by omega, Nat.le_refl _, by go_num, NX.out _⟩

              · obtain rfl : t = j := by omega
                obtain ⟨N, hN⟩ := N0.out
                have x0 : wr.cell? ⟨wo.heap.size, 0, none⟩ = some (.slice (some ⟨w.heap.size, 0, none⟩) (t + 1) (t + 1)) := by rw [hN]; exact s0
                have x1 : wr.cell? ⟨w.heap.size + 1, t, none⟩ = some (.int .i64 (Lj : Nat)) := by rw [hN]; exact s1
                have x2 : wr.cell? ⟨w.heap.size + 1 + 1, t, none⟩ = some (.int .i64 (Cj : Nat)) := by rw [hN]; exact s2
                have x3 : wr.cell? ⟨w.heap.size, t, none⟩ = some (.slice a' Lj Cj) := by rw [hN]; exact s3
                have SX : Aside _ := SL.out wr N hN
                have BW : Aside (Below w.heap.size w wr) := (by rw [hN]; exact below_drewN Z.out.2.2.2.1 _ : Below w.heap.size w wr)
                clear N0 hN s0 s1 s2 s3 SL Z
                go_wp2
                go_quiet ((go_at_call 7; exact Calls.quiet_of_same (SX.out _)))
                go_wp2
                go_ret
                exact ⟨rfl, below_drewN BW.out _⟩

          · have hsmall : capF E G j < 65536 := by omega
            have hor : n ≤ (capF E G j : Int) - (lenF R E G j : Int) ∨ capF E G j < 65536 := .inr hsmall
            go_wp2_with fail
            obtain ⟨cur, hc1, hc2, hc3⟩ := PRE.out.2.2.2.2.1
            have hrow : ∀ t, t < j + 1 → (boxed w wr (j + 1)).cell? ⟨w.heap.size, t, none⟩ = some (.slice (some ⟨w.heap.size + 4 + 2 * t, 0, none⟩) (lenF R E G t) (capF E G t)) := fun t ht => by rw [cell_of_row _ _ t cur 22 (0, 0) hc1, hc3 t ht]
            refine (room_keep _ _ j (some ⟨w.heap.size + 4 + 2 * j, 0, none⟩) (lenF R E G j) (capF E G j) j n (boxed w wr (j + 1)) (fun t => .slice (some ⟨w.heap.size + 4 + 2 * t, 0, none⟩) (lenF R E G t) (capF E G t)) (by omega) hLb (by omega) hn0 hn PRE.out.2.2.1 PRE.out.1 hrow rfl ⟨_, _, _, rfl⟩ (PRE.out.2.2.2.1 j) (PRE.out.2.2.2.2.2 j (by omega)) hor).mono ?_
            rintro e w' ⟨rfl, a', Cn, hCn, hBy, hAf⟩
            obtain ⟨hLs, hCs, hBs, hbel⟩ := after_facts A.out hAf
            have s0 := hAf.head
            have s1 := hLs j (by omega)
            have s2 := hCs j (by omega)
            have s3 := hAf.row j (by omega)
            simp only [if_pos] at s3
            have Z : Aside ((∀ t, t < j + 1 → w'.cell? ⟨w.heap.size + 1, t, none⟩ = some (.int .i64 (lenF R E G t))) ∧ (∀ t, t < j + 1 → w'.cell? ⟨w.heap.size + 1 + 1, t, none⟩ = some (.int .i64 (capF E G t))) ∧
              (∀ t, t < j + 1 → IsBytes w' (some ⟨w.heap.size + 4 + 2 * t, 0, none⟩) t (lenF R E G t)) ∧ Below w.heap.size w w' ∧ True ∧
              ∀ t, t < j → w'.cell? ⟨w.heap.size, t, none⟩ = some (.slice (some ⟨w.heap.size + 4 + 2 * t, 0, none⟩) (lenF R E G t) (capF E G t))) :=
              ⟨hLs, hCs, hBs, hbel, trivial, fun t ht => by have := hAf.row t (by omega); rwa [if_neg (by omega)] at this⟩
            have hsl : ∀ (X : World) N, X = w'.drewN N → ∀ M, Calls Yba.prog 7 #[.slice a' (lenF R E G j) Cn, .int .i64 j, .int .i64 (lenF R E G j)] (X.drewN M) fun e w'' => e = .returned (.bool true) ∧ w'' = X.drewN M := fun X N hX M =>
              same_any a' (lenF R E G j) Cn j (X.drewN M) (lenF_small R E G j) (by omega) (by rw [hX]; exact hBy)
            clear hLs hCs hBs hbel hAf hc1 hc2 hc3 hrow PRE hBy
            generalize lenF R E G j = Lj at s1 s3 hroom hLb hCn hsl
            generalize capF E G j = Cj at s2 hroom hCb hLb hCn hsmall
            have hgr : (Cj : Int) - (Lj : Int) < n := by omega
            have hCx : max (2 * (Cj : Int)) ((Lj : Int) + n) = (Cn : Int) := by unfold gcap at hCn; rw [if_neg (by omega)] at hCn; omega
            have hmx := fun (W : World) => max_any (2 * (Cj : Int)) ((Lj : Int) + n) W
            rw [hCx] at hmx
            have HMX : Aside _ := hmx
            have SL : Aside _ := hsl
            clear hor hCn hsl hmx hCx hadd hroom
            have e1 : decide ((65536 : Int) ≤ (Cj : Int)) = false := by simp; omega
            go_wp2
            go_quiet (fail)
            go_wp2
            obtain ⟨wo, rfl⟩ : ∃ wo : World, wo = wr := ⟨_, rfl⟩
            go_loopg [25] (j) (fun gk sx wz => ∃ t : Nat, t ≤ j ∧ j - t ≤ gk ∧ sx = .int .i64 t ∧ Aside (∃ N, wz = w'.drewN N))
            case atStart => exact ⟨0, Nat.zero_le _, Nat.le_refl _, rfl, nq, rfl⟩
            case round =>
              obtain ⟨t, ht, hg, rfl, N0⟩ := hrel
              by_cases htj : t < j
              · obtain ⟨N, hN⟩ := N0.out
                have r0 : wr.cell? ⟨w.heap.size + 1, t, none⟩ = some (.int .i64 (lenF R E G t)) := by rw [hN]; exact Z.out.1 t (by omega)
                have r1 : wr.cell? ⟨w.heap.size + 1 + 1, t, none⟩ = some (.int .i64 (capF E G t)) := by rw [hN]; exact Z.out.2.1 t (by omega)
                have r2 : wr.cell? ⟨w.heap.size, t, none⟩ = some (.slice (some ⟨w.heap.size + 4 + 2 * t, 0, none⟩) (lenF R E G t) (capF E G t)) := by rw [hN]; exact Z.out.2.2.2.2.2 t (by omega)
                have r3 : wr.cell? ⟨wo.heap.size, 0, none⟩ = some (.slice (some ⟨w.heap.size, 0, none⟩) (j + 1) (j + 1)) := by rw [hN]; exact s0
                have hsm : ∀ M, Calls Yba.prog 7 #[.slice (some ⟨w.heap.size + 4 + 2 * t, 0, none⟩) (lenF R E G t) (capF E G t), .int .i64 t, .int .i64 (lenF R E G t)] (wr.drewN M) fun e w'' => e = .returned (.bool true) ∧ w'' = wr.drewN M := fun M =>
                  same_any (some ⟨w.heap.size + 4 + 2 * t, 0, none⟩) (lenF R E G t) (capF E G t) t (wr.drewN M) (lenF_small R E G t) (by omega) (by rw [hN]; exact Z.out.2.2.1 t (by omega))
                have NX : Aside (∀ M, ∃ N', wr.drewN M = w'.drewN N') := fun M => ⟨N + M, by rw [hN, World.drewN_drewN]⟩
                have hls := lenF_small R E G t
                have hcs2 : capF E G t ≤ 100000 := by
                  unfold capF
                  have : (E t % 300).toNat ≤ 299 := by omega
                  split <;> omega
                generalize lenF R E G t = Lt at r0 r2 hsm hls
                generalize capF E G t = Ct at r1 r2 hsm hcs2
                generalize w.heap.size + 4 + 2 * t = gt at r2 hsm
                have SM : Aside _ := hsm
                clear hsm s0 s1 s2 s3 N0 hN
                go_wp2
                go_quiet ((go_at_call 7; exact Calls.quiet_of_same (SM.out _)))
                go_wp2
                go_roundg (j - (t + 1))
                case measure => omega
                case rel => exact ⟨t + 1, by omega, Nat.le_refl _, by go_num, NX.out _⟩

              · obtain rfl : t = j := by omega
                obtain ⟨N, hN⟩ := N0.out
                have x0 : wr.cell? ⟨wo.heap.size, 0, none⟩ = some (.slice (some ⟨w.heap.size, 0, none⟩) (t + 1) (t + 1)) := by rw [hN]; exact s0
                have x1 : wr.cell? ⟨w.heap.size + 1, t, none⟩ = some (.int .i64 (Lj : Nat)) := by rw [hN]; exact s1
                have x2 : wr.cell? ⟨w.heap.size + 1 + 1, t, none⟩ = some (.int .i64 (Cj : Nat)) := by rw [hN]; exact s2
                have x3 : wr.cell? ⟨w.heap.size, t, none⟩ = some (.slice a' Lj Cn) := by rw [hN]; exact s3
                have SX : Aside _ := SL.out wr N hN
                have BW : Aside (Below w.heap.size w wr) := (by rw [hN]; exact below_drewN Z.out.2.2.2.1 _ : Below w.heap.size w wr)
                clear N0 hN s0 s1 s2 s3 SL Z
                go_wp2
                go_quiet ((go_at_call 7; exact Calls.quiet_of_same (SX.out _)))
                go_wp2
                have z0 : (wr.drewN nq).cell? ⟨wo.heap.size, 0, none⟩ = some (.slice (some ⟨w.heap.size, 0, none⟩) (t + 1) (t + 1)) := x0
                have z1 : (wr.drewN nq).cell? ⟨w.heap.size + 1, t, none⟩ = some (.int .i64 (Lj : Nat)) := x1
                have z2 : (wr.drewN nq).cell? ⟨w.heap.size + 1 + 1, t, none⟩ = some (.int .i64 (Cj : Nat)) := x2
                have z3 : (wr.drewN nq).cell? ⟨w.heap.size, t, none⟩ = some (.slice a' Lj Cn) := x3
                have BY : Aside (Below w.heap.size w (wr.drewN nq)) := below_drewN BW.out nq
                clear x0 x1 x2 x3 SX BW
                generalize wr.drewN nq = wy at *
                have hw1 : IntKind.i64.wrap (2 * (Cj : Int)) = 2 * (Cj : Int) := by rw [IntKind.wrap_i64]; omega
                have hw2 : IntKind.i64.wrap ((Lj : Int) + n) = (Lj : Int) + n := by rw [IntKind.wrap_i64]; omega
                go_quiet ((go_at_call 8; exact Calls.quiet_of_same (HMX.out _)))
                go_wp2
                go_ret
                exact ⟨rfl, below_drewN BY.out _⟩


end Go.Proofs.Ybulkakqm.Room
