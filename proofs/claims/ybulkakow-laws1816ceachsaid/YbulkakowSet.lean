/-
  The walk of zzs1816cset.
-/
import Derived.Test.YbulkakowRecord
import Derived.Laws.CopyOwn
import Derived.Sort.OwnSorted
import Derived.Sort.Grow
namespace Go.Proofs.Ybulkakow.Rec
open Go.RowKit Go.Sort Go.Shelf Go.Lib Go.Proofs
set_option linter.unusedVariables false

theorem info9 : (Yba.prog.info? 9).map (fun i => (i.zero, i.size, i.bytes)) = some (some (.string ⟨#[]⟩), 1, 16) := by kernel_rfl
theorem size9 : (Yba.prog.info? 9).map (·.size) = some 1 := by kernel_rfl
theorem info46 : (Yba.prog.info? 46).map (fun i => (i.zero, i.size, i.bytes)) = some (some (.pointer none), 1, 8) := by kernel_rfl

/-- What the walk is told of a slice of strings: it has no element; or its cells lie there. -/
def IsStrs (w : World) (a : Option Addr) (n : Nat) (S : Nat → ByteArray) : Prop := n = 0 ∨ ∃ b o, a = some ⟨b, o, none⟩ ∧ ∀ i, i < n → w.cell? ⟨b, o + i, none⟩ = some (.string (S i))

/-- The strings as lists of bytes. -/
def bytesOf (S : Nat → ByteArray) (n : Nat) : List (List UInt8) := (List.range n).map fun i => (S i).data.toList

def empties (n : Nat) : Array Value := madeCells #[.string ⟨#[]⟩] n
def nils (n : Nat) : Array Value := madeCells #[.pointer none] n

theorem run_mk29 (n : Nat) (hn : n ≤ 1024) (w : World) : (Instr.makeSlice 29 (.int .i64 (n : Int)) (.int .i64 (n : Int))).run Yba.prog w = .ok (.slice (some ⟨w.heap.size, 0, none⟩) n n) (w.alloc (.cells (empties n) 9)) :=
  run_make_row' (P := Yba.prog) 29 9 (.string ⟨#[]⟩) 16 Yba.underlying29 info9 rfl .i64 .i64 n (by omega) (by omega) w
theorem run_mk30 (n : Nat) (hn : n ≤ 1024) (w : World) : (Instr.makeSlice 30 (.int .i64 (n : Int)) (.int .i64 (n : Int))).run Yba.prog w = .ok (.slice (some ⟨w.heap.size, 0, none⟩) n n) (w.alloc (.cells (nils n) 46)) :=
  run_make_row' (P := Yba.prog) 30 46 (.pointer none) 8 Yba.underlying30 info46 rfl .i64 .i64 n (by omega) (by omega) w

theorem add_plain (b off i : Nat) : (⟨b, off, none⟩ : Addr).add i = ⟨b, off + i, none⟩ := by
  by_cases h : i = 0
  · subst h; simp [Addr.add]
  · simp [Addr.add, h]

/-- 'copy(c, ids)' into the row that make has just laid. -/
theorem copy_ids (a : Option Addr) (n c : Nat) (S : Nat → ByteArray) (w1 : World) (h : IsStrs w1 a n S) : ∃ w3,
    (∀ ty, (Builtin.copy_ #[29, 29] ty #[.slice (some ⟨w1.heap.size, 0, none⟩) n n, .slice a n c]).run Yba.prog (w1.alloc (.cells (empties n) 9)) = .ok (.int .i64 n) w3) ∧
    w3.heap[w1.heap.size]? = some (.cells ((bytesOf S n).map encStr).toArray 9 (0, 0)) ∧ Below w1.heap.size w1 w3 ∧ w3.heap.size = w1.heap.size + 1 := by
  have hblk : (w1.alloc (.cells (empties n) 9)).heap[w1.heap.size]? = some (.cells (empties n) 9 (0, 0)) := heap_alloc_new w1 _
  have hbel : Below w1.heap.size w1 (w1.alloc (.cells (empties n) 9)) := (Below.refl _ _).alloc (Nat.le_refl _) _
  have hsz : (empties n).size = n := size_madeCells _ _
  by_cases h0 : n = 0
  · subst h0
    refine ⟨_, fun ty => run_copy_none (P := Yba.prog) _ 29 29 ty 9 _ _ 0 0 0 c Yba.underlying29 size9 rfl, ?_, hbel, by simp⟩
    rw [hblk]
    simp [bytesOf, empties, madeCells]
  · rcases h with h | ⟨b, o, rfl, hc⟩
    · exact absurd h h0
    have hlen : ((bytesOf S n).map encStr).length = n := by simp [bytesOf]
    have hb : b < w1.heap.size := lt_of_cell (hc 0 (by omega))
    have hr := fun ty => run_copy_row (P := Yba.prog) (w1.alloc (.cells (empties n) 9)) 29 29 ty 9 w1.heap.size 0 n n ⟨b, o, none⟩ n c (empties n) 9 ((bytesOf S n).map encStr) Yba.underlying29 size9 hblk (by rw [hlen]; exact (Nat.min_self n).symm)
        (fun j v hj => by
          rw [add_plain, hbel.cell (p := ⟨b, o + j, none⟩) hb]
          have hjn : j < n := by
            have := (List.getElem?_eq_some_iff.1 hj).1
            omega
          rw [hc j hjn, ← hj]
          simp [bytesOf, hjn, encStr])
        (by rw [hlen, hsz]; omega)
        (fun v hv => by
          obtain ⟨x, _, rfl⟩ := List.mem_map.1 hv
          rfl)
    rw [hlen] at hr
    refine ⟨_, hr, ?_, below_setRow hbel (Nat.le_refl _) _, ?_⟩
    · rw [setRow_heap _ _ _ _ _ _ hblk]
      simp only [List.take_zero, List.nil_append, Nat.zero_add]
      rw [List.drop_of_length_le (by simp [hsz])]
      simp
    · simp [World.setRow]

/-! ### Sort and Compact, at this dump's numbers -/
theorem sort_any (blk cap : Nat) (ss : List (List UInt8)) (w : World) (hH : Holds encStr w blk 0 ss.toArray) (hblk : blk < w.heap.size) (hsz : ss.length ≤ 1024) :
    Calls Yba.prog 13 #[.slice (some ⟨blk, 0, none⟩) ss.length cap] w fun e w' => e = .returned (.tuple #[]) ∧
      ∃ n os, w' = grow (putRow encStr (Sort.ahead w n) blk 0 (ss.mergeSort fun x y => decide (x ≤ y)).toArray) os :=
  Any.slices_Sort_string Yba.laysSort blk 0 cap ss w hH hblk (by omega)

theorem compact_any (blk cap : Nat) (zs : List (List UInt8)) (w : World) (hH : Holds encStr w blk 0 zs.toArray) (hsz : zs.length ≤ 1024) (hcap : zs.length ≤ cap) :
    Calls Yba.prog 14 #[.slice (some ⟨blk, 0, none⟩) zs.length cap] w fun e w' => e = .returned (.slice (some ⟨blk, 0, none⟩) (compact zs).length cap) ∧
      ∃ q, w' = putRow encStr (Sort.ahead w q) blk 0 (compact zs ++ List.replicate (zs.length - (compact zs).length) []).toArray :=
  Any.slices_Compact_string Yba.laysCompact blk 0 cap zs w hH (by omega) hcap

theorem below_sorted {enc : List UInt8 → Value} {B : Nat} {w : World} {g n : Nat} {d : Array (List UInt8)} {os : Array Obj} (hg : B ≤ g) (hB : B ≤ w.heap.size) : Below B w (grow (putRow enc (Sort.ahead w n) g 0 d) os) := by
  refine ⟨rfl, rfl, rfl, ?_, fun k hk => ?_⟩
  · show w.heap.size ≤ ((w.heap.modify g _) ++ os).size
    simp
  · show ((w.heap.modify g _) ++ os)[k]? = w.heap[k]?
    rw [Array.getElem?_append_left (by simp; omega), Array.getElem?_modify, if_neg (by omega)]

/-- The two calls behind one another: the sort, as the law above a walk wants it: the world behind it holds the sorted strings. -/
theorem sort_holds (blk : Nat) (ss : List (List UInt8)) (w : World) (hH : Holds encStr w blk 0 ss.toArray) (hblk : blk < w.heap.size) (hsz : ss.length ≤ 1024) :
    Calls Yba.prog 13 #[.slice (some ⟨blk, 0, none⟩) ss.length ss.length] w fun e w' => e = .returned (.tuple #[]) ∧
      Holds encStr w' blk 0 (ss.mergeSort fun x y => decide (x ≤ y)).toArray ∧ Below blk w w' := by
  refine (sort_any blk ss.length ss w hH hblk hsz).mono ?_
  rintro e w' ⟨rfl, n, os, rfl⟩
  refine ⟨rfl, ?_, below_sorted (Nat.le_refl _) (by omega)⟩
  exact holds_grow encStr _ os blk 0 _ (by simpa [putRow, mapBlock, Sort.ahead] using hblk) (holds_putRow encStr _ blk 0 _ _ (holds_ahead encStr w n blk 0 _ hH) (by simp))

theorem compact_holds (blk cap : Nat) (ss : List (List UInt8)) (w : World) (hH : Holds encStr w blk 0 (ss.mergeSort fun x y => decide (x ≤ y)).toArray) (hsz : ss.length ≤ 1024) (hcap : ss.length ≤ cap) (hblk : blk < w.heap.size) :
    Calls Yba.prog 14 #[.slice (some ⟨blk, 0, none⟩) ss.length cap] w fun e w' => e = .returned (.slice (some ⟨blk, 0, none⟩) (Pl.uniq ss).length cap) ∧
      (∀ i, i < (Pl.uniq ss).length → w'.cell? ⟨blk, i, none⟩ = some (encStr ((Pl.uniq ss).getD i []))) ∧ Below blk w w' := by
  have hl : (ss.mergeSort fun x y => decide (x ≤ y)).length = ss.length := List.length_mergeSort ss
  have h := compact_any blk cap _ w hH (by omega) (by omega)
  rw [hl] at h
  refine Calls.mono h ?_
  rintro e w' ⟨rfl, q, rfl⟩
  refine ⟨rfl, fun i hi => ?_, ?_⟩
  · have hle := Pl.uniq_length ss
    have hH2 := holds_putRow encStr (Sort.ahead w q) blk 0 _ (Pl.uniq ss ++ List.replicate (ss.length - (Pl.uniq ss).length) []).toArray (holds_ahead encStr w q blk 0 _ hH) (by simp [hl]; omega)
    have hi2 : i < (Pl.uniq ss ++ List.replicate (ss.length - (Pl.uniq ss).length) []).toArray.size := by simp; omega
    have h3 := (hH2 i hi2).1
    rw [Nat.zero_add] at h3
    rw [getElem!_pos _ i hi2] at h3
    have e1 : (Pl.uniq ss ++ List.replicate (ss.length - (Pl.uniq ss).length) []).toArray[i] = (Pl.uniq ss).getD i [] := by
      rw [List.getElem_toArray, List.getElem_append_left hi]
      simp [List.getD, hi]
    rw [e1] at h3
    exact h3
  · have := below_sorted (enc := encStr) (n := q) (d := (Pl.uniq ss ++ List.replicate (ss.length - (Pl.uniq ss).length) []).toArray) (os := #[]) (Nat.le_refl blk) (Nat.le_of_lt hblk)
    rw [grow_empty] at this
    exact this

/-- The loop's relation: k records are laid, one block each, and their pointers stand in the row. -/
structure Recs (v w : World) (us : List (List UInt8)) (m k : Nat) : Prop where
  size : w.heap.size = v.heap.size + 1 + k
  below : Below v.heap.size v w
  row : ∃ f, w.rowIs v.heap.size 46 m f ∧ ∀ i, i < k → f i = .pointer (some ⟨v.heap.size + 1 + i, 0, none⟩)
  recs : ∀ i, i < k → w.cell? ⟨v.heap.size + 1 + i, 0, none⟩ = some (encStr (us.getD i []))

theorem recs_start (v : World) (us : List (List UInt8)) (m : Nat) : Recs v (v.alloc (.cells (nils m) 46)) us m 0 where
  size := by simp
  below := (Below.refl _ _).alloc (Nat.le_refl _) _
  row := ⟨_, World.rowIs_made v (.pointer none) m 46, fun i hi => absurd hi (Nat.not_lt_zero _)⟩
  recs := fun i hi => absurd hi (Nat.not_lt_zero _)

theorem recs_step {v w : World} {us : List (List UInt8)} {m k : Nat} (h : Recs v w us m k) (cs : Array Value) (hc : cs[0]? = some (encStr (us.getD k []))) :
    Recs v ((w.setCell ⟨v.heap.size, k, none⟩ (.pointer (some ⟨w.heap.size, 0, none⟩))).alloc (.cells cs 45)) us m (k + 1) where
  size := by have := h.size; simp; omega
  below := (h.below.setCell (Nat.le_refl _) _).alloc (by have := h.size; simp; omega) _
  row := by
    obtain ⟨f, hr, hf⟩ := h.row
    refine ⟨_, (hr.set k (.pointer (some ⟨w.heap.size, 0, none⟩))).alloc _, fun i hi => ?_⟩
    by_cases e : i = k
    · subst e
      rw [if_pos rfl, h.size]
    · rw [if_neg e]
      exact hf i (by omega)
  recs := fun i hi => by
    by_cases e : i = k
    · subst e
      have hs : (w.setCell ⟨v.heap.size, i, none⟩ (.pointer (some ⟨w.heap.size, 0, none⟩))).heap.size = v.heap.size + 1 + i := by rw [← h.size]; simp
      have hb := heap_alloc_new (w.setCell ⟨v.heap.size, i, none⟩ (.pointer (some ⟨w.heap.size, 0, none⟩))) (.cells cs 45)
      rw [hs] at hb
      rw [cell_of_row _ _ 0 cs 45 (0, 0) hb, hc]
    · have h1 := h.recs i (by omega)
      have hb : Below (v.heap.size + 1 + k) (w.setCell ⟨v.heap.size, k, none⟩ (.pointer (some ⟨w.heap.size, 0, none⟩))) ((w.setCell ⟨v.heap.size, k, none⟩ (.pointer (some ⟨w.heap.size, 0, none⟩))).alloc (.cells cs 45)) := (Below.refl _ _).alloc (by have := h.size; simp; omega) _
      rw [hb.cell (p := ⟨v.heap.size + 1 + i, 0, none⟩) (by show v.heap.size + 1 + i < v.heap.size + 1 + k; omega)]
      rw [← h1]
      exact World.cell?_of_block (w := w) (Below.heap_setCell w _ _ _ (by show v.heap.size + 1 + i ≠ v.heap.size; omega))

theorem set_of_recs {v w : World} {us : List (List UInt8)} {m : Nat} (h : Recs v w us m m) : SetAt w v.heap.size m (fun i => us.getD i []) (fun i => v.heap.size + 1 + i) := by
  obtain ⟨f, hr, hf⟩ := h.row
  intro i hi
  exact ⟨by rw [hr.cell (i := i) hi, hf i hi], hr.frozen i, h.recs i hi, show v.heap.size + 1 + i ≠ v.heap.size by omega⟩

theorem setAt_store {w : World} {g m : Nat} {T : Nat → List UInt8} {R : Nat → Nat} (h : SetAt w g m T R) {b o : Nat} (hg : b ≠ g) (hR : ∀ i, i < m → b ≠ R i) (v : Value) : SetAt (w.setCell ⟨b, o, none⟩ v) g m T R := by
  intro i hi
  obtain ⟨h1, h2, h3, h4⟩ := h i hi
  exact ⟨(World.cell?_of_block (w := w) (Below.heap_setCell w _ _ _ (fun e => hg e.symm))).trans h1, (World.frozen?_of_block (w := w) (Below.heap_setCell w _ _ _ (fun e => hg e.symm))).trans h2, (World.cell?_of_block (w := w) (Below.heap_setCell w _ _ _ (fun e => hR i hi e.symm))).trans h3, h4⟩

theorem strict_of {us : List (List UInt8)} {m : Nat} (hm : us.length = m) (h : us.Pairwise (· < ·)) (a b : Nat) (hab : a < b) (hb : b < m) : us.getD a [] < us.getD b [] := by
  have := List.pairwise_iff_getElem.1 h a b (by omega) (by omega) hab
  simpa [List.getD, show a < us.length by omega, show b < us.length by omega] using this

set_option maxHeartbeats 1000000 in
theorem set_any (a : Option Addr) (n c : Nat) (S : Nat → ByteArray) (w : World) (hn : n ≤ 1024) (hS : IsStrs w a n S) :
    Calls Yba.prog 9 #[.slice a n c] w fun e w' => ∃ (g m : Nat) (T : Nat → List UInt8) (R : Nat → Nat), m ≤ 1024 ∧ e = .returned (setV g m) ∧ SetAt w' g m T R ∧ (∀ a b, a < b → b < m → T a < T b) ∧ Below w.heap.size w w' := by
  have hmk := run_mk29 n hn
  obtain ⟨w3, hcp, hb3, hbel3, hsz3⟩ := copy_ids a n c S (w.alloc (.cells #[.slice none 0 0, .int .i64 0, .slice none 0 0] 33)) (by
    rcases hS with h | ⟨b, o, rfl, hc⟩
    · exact .inl h
    · refine .inr ⟨b, o, rfl, fun i hi => ?_⟩
      rw [← hc i hi]
      exact ((Below.refl w.heap.size w).alloc (Nat.le_refl _) _).cell (p := ⟨b, o + i, none⟩) (lt_of_cell (hc i hi)))
  have X : Aside (w3.heap[w.heap.size + 1]? = some (.cells ((bytesOf S n).map encStr).toArray 9 (0, 0)) ∧ Below (w.heap.size + 1) (w.alloc (.cells #[.slice none 0 0, .int .i64 0, .slice none 0 0] 33)) w3 ∧ w3.heap.size = w.heap.size + 1 + 1) := by
    have e : (w.alloc (.cells #[.slice none 0 0, .int .i64 0, .slice none 0 0] 33)).heap.size = w.heap.size + 1 := by simp
    rw [e] at hb3 hbel3 hsz3
    exact ⟨hb3, hbel3, hsz3⟩
  clear hb3 hbel3 hsz3 hS
  simp only [World.size_alloc] at hcp
  go_enter Yba.func9, Yba.ntmps9
  go_wp2_with fail
  clear hcp hmk
  have hlen : (bytesOf S n).length = n := by simp [bytesOf]
  have hH : Holds encStr w3 (w.heap.size + 1) 0 (bytesOf S n).toArray := holds_of_block X.out.1 (by rw [List.take_of_length_le (by simp)])
  have hsort := sort_holds (w.heap.size + 1) (bytesOf S n) w3 hH (by have := X.out.2.2; omega) (by omega)
  rw [hlen] at hsort
  refine Calls.mono hsort ?_
  clear hsort hH
  rintro e w4 ⟨rfl, hH4, hB4⟩
  have hcom := compact_holds (w.heap.size + 1) n (bytesOf S n) w4 hH4 (by omega) (by omega) (by have := hB4.size; have := X.out.2.2; omega)
  rw [hlen] at hcom
  have HC : Aside _ := hcom
  have hB34 : Aside (Below (w.heap.size + 1) w3 w4) := hB4
  have hul : (Pl.uniq (bytesOf S n)).length ≤ n := by have := Pl.uniq_length (bytesOf S n); omega
  have hstr : Aside ((Pl.uniq (bytesOf S n)).Pairwise (· < ·)) := Pl.uniq_strict _
  clear hcom hH4 hB4 hlen
  generalize Pl.uniq (bytesOf S n) = us at HC hul hstr
  go_wp2_with fail
  refine Calls.mono HC.out ?_
  clear HC
  rintro e w5 ⟨rfl, hc5, hB45⟩
  have hw5 : Aside ((∀ i, i < us.length → w5.cell? ⟨w.heap.size + 1, i, none⟩ = some (encStr (us.getD i []))) ∧ Below (w.heap.size + 1) (w.alloc (.cells #[.slice none 0 0, .int .i64 0, .slice none 0 0] 33)) w5 ∧ w.heap.size + 2 ≤ w5.heap.size) := by
    refine ⟨hc5, (X.out.2.1.trans hB34.out).trans hB45, ?_⟩
    have h1 := hB34.out.size
    have h2 := hB45.size
    have h3 := X.out.2.2
    omega
  clear hc5 hB45 hB34 X
  obtain ⟨m, hm⟩ : ∃ m, us.length = m := ⟨_, rfl⟩
  have HM : Aside (us.length = m) := hm
  rw [hm] at hul ⊢
  clear hm
  have hmk := run_mk30 m (by omega)
  go_wp2
  clear hmk
  go_loopg [21] m (fun gk s21 wr => ∃ k : Nat, k ≤ m ∧ m - k ≤ gk ∧ s21 = .int .i64 k ∧ Aside (Recs w5 wr us m k))
  case atStart => exact ⟨0, Nat.zero_le _, Nat.le_refl _, rfl, recs_start w5 us m⟩
  case round =>
    obtain ⟨k, hk, hg, rfl, A⟩ := hrel
    by_cases hkm : k < m
    · have hsz := A.out.size
      have hlt5 := hw5.out.2.2
      have c1 : wr.cell? ⟨w.heap.size + 1, k, none⟩ = some (encStr (us.getD k [])) := by
        rw [← hw5.out.1 k (by rw [HM.out]; exact hkm)]
        exact A.out.below.cell (p := ⟨w.heap.size + 1, k, none⟩) (by show w.heap.size + 1 < w5.heap.size; omega)
      obtain ⟨u, cu⟩ : ∃ u, wr.cell? ⟨w5.heap.size, k, none⟩ = some u := by
        obtain ⟨f, hr, _⟩ := A.out.row
        exact ⟨_, hr.cell (i := k) hkm⟩
      have fu : wr.frozen? ⟨w5.heap.size, k, none⟩ = false := by
        obtain ⟨f, hr, _⟩ := A.out.row
        exact hr.frozen _
      have hlt : w5.heap.size < wr.heap.size := by omega
      have hlt2 : w.heap.size + 1 < wr.heap.size := by omega
      obtain ⟨t, ht⟩ : ∃ t, t = us.getD k [] := ⟨_, rfl⟩
      rw [← ht] at c1
      have HT : Aside (t = us.getD k []) := ht
      clear ht hsz
      unfold encStr at c1
      go_wp2
      go_roundg (m - (k + 1))
      case measure => omega
      case rel =>
        refine ⟨k + 1, by omega, Nat.le_refl _, by go_num, ?_⟩
        exact recs_step A.out _ (by rw [← HT.out]; rfl)
    · obtain rfl : k = m := by omega
      have hb : Below (w.heap.size + 1) (w.alloc (.cells #[.slice none 0 0, .int .i64 0, .slice none 0 0] 33)) wr := hw5.out.2.1.trans (A.out.below.mono (by have := hw5.out.2.2; omega))
      have q0 : wr.cell? ⟨w.heap.size, 0, none⟩ = some (.slice none 0 0) := (hb.cell (p := ⟨w.heap.size, 0, none⟩) (Nat.lt_succ_self _)).trans (by simp)
      have q1 : wr.cell? ⟨w.heap.size, 1, none⟩ = some (.int .i64 0) := (hb.cell (p := ⟨w.heap.size, 1, none⟩) (Nat.lt_succ_self _)).trans (by simp)
      have q2 : wr.cell? ⟨w.heap.size, 2, none⟩ = some (.slice none 0 0) := (hb.cell (p := ⟨w.heap.size, 2, none⟩) (Nat.lt_succ_self _)).trans (by simp)
      have f0 : wr.frozen? ⟨w.heap.size, 0, none⟩ = false := (hb.frozen (p := ⟨w.heap.size, 0, none⟩) (Nat.lt_succ_self _)).trans (by simp)
      have f1 : wr.frozen? ⟨w.heap.size, 1, none⟩ = false := (hb.frozen (p := ⟨w.heap.size, 1, none⟩) (Nat.lt_succ_self _)).trans (by simp)
      have f2 : wr.frozen? ⟨w.heap.size, 2, none⟩ = false := (hb.frozen (p := ⟨w.heap.size, 2, none⟩) (Nat.lt_succ_self _)).trans (by simp)
      have B : Aside (Below (w.heap.size + 1) (w.alloc (.cells #[.slice none 0 0, .int .i64 0, .slice none 0 0] 33)) wr) := hb
      clear hb
      go_wp2
      have hgt := hw5.out.2.2
      refine bodyPost_ret (v := setV w5.heap.size k) (by simp [results, Yba.results9, go_sem, setV, q0, q1, q2]) rfl ⟨w5.heap.size, k, fun i => us.getD i [], fun i => w5.heap.size + 1 + i, by omega, rfl, ?_, strict_of HM.out hstr.out, ?_⟩
      · exact setAt_store (setAt_store (setAt_store (set_of_recs A.out) (by omega) (fun i _ => by omega) _) (by omega) (fun i _ => by omega) _) (by omega) (fun i _ => by omega) _
      · exact (((((Below.refl _ _).alloc (Nat.le_refl _) _).trans (B.out.mono (by omega))).setCell (Nat.le_refl _) _).setCell (Nat.le_refl _) _).setCell (Nat.le_refl _) _

end Go.Proofs.Ybulkakow.Rec
