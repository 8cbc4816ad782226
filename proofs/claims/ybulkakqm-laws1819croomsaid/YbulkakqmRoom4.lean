/-
  The contract of (*PositionsBuilder).room, as the law wants it: what the builder holds behind the call, and what has not turned.
-/
import Derived.Test.YbulkakqmRoom3
namespace Go.Proofs.Ybulkakqm.Room
open Go.RowKit
set_option linter.unusedVariables false

/-- Behind the call: the builder's field holds the row at block g, of m chunks X 0, X 1 ..; all old blocks but the elder row and the builder are as they were. -/
structure After (w w' : World) (Bb A g m cap : Nat) (X : Nat → Value) : Prop where
  head : w'.cell? ⟨Bb, 0, none⟩ = some (.slice (some ⟨g, 0, none⟩) m cap)
  row : ∀ t, t < m → w'.cell? ⟨g, t, none⟩ = some (X t)
  os : w'.os = w.os
  tape : w'.tape = w.tape
  output : w'.output = w.output
  size : w.heap.size ≤ w'.heap.size
  kept : ∀ b, b < w.heap.size → b ≠ A → b ≠ Bb → w'.heap[b]? = w.heap[b]?

theorem addr_ne {g a b : Nat} (h : a ≠ b) : (⟨g, a, none⟩ : Addr) ≠ ⟨g, b, none⟩ := fun e => h (by injection e)

theorem cell_other {w : World} {a b : Addr} {v : Value} (h : a ≠ b) : (w.setCell a v).cell? b = w.cell? b := World.cell?_setCell_other w a b v h

theorem back_after {w w1 : World} {Bb A j : Nat} {a' : Option Addr} {l C i : Nat} {old : Nat → Value} (hne : A ≠ Bb) (q0 : w.cell? ⟨Bb, 0, none⟩ = some (.slice (some ⟨A, 0, none⟩) (j + 1) (j + 1))) (hrow : ∀ t, t < j + 1 → w.cell? ⟨A, t, none⟩ = some (old t))
    (hsl : ∃ a b c, old 0 = .slice a b c) (hb : IsBytes w1 a' i l) (hbel : Below w.heap.size w w1) :
    IsBytes (w1.setCell ⟨A, j, none⟩ (.slice a' l C)) a' i l ∧ After w (w1.setCell ⟨A, j, none⟩ (.slice a' l C)) Bb A A (j + 1) (j + 1) (fun t => if t = j then .slice a' l C else old t) := by
  have hAl : A < w.heap.size := lt_of_cell (hrow 0 (by omega))
  have h1 : ∀ t, t < j + 1 → w1.cell? ⟨A, t, none⟩ = some (old t) := fun t ht => (hbel.cell (p := ⟨A, t, none⟩) hAl).trans (hrow t ht)
  refine ⟨?_, ?_⟩
  · rcases hb with h | ⟨g, rfl, hc⟩
    · exact .inl h
    · by_cases h0 : l = 0
      · exact .inl h0
      · have hg : g ≠ A := by
          intro e
          subst e
          have e1 := hc 0 (by omega)
          rw [h1 0 (by omega)] at e1
          obtain ⟨a, b, c, e2⟩ := hsl
          rw [e2] at e1
          cases e1
        exact .inr ⟨g, rfl, fun t ht => (World.cell?_setCell_far _ _ _ _ (by exact hg.symm)).trans (hc t ht)⟩
  · refine ⟨?_, fun t ht => ?_, hbel.os, hbel.tape, hbel.output, ?_, fun b hb1 hb2 hb3 => ?_⟩
    · exact ((World.cell?_setCell_far _ _ _ _ (by exact hne)).trans (hbel.cell (p := ⟨Bb, 0, none⟩) (lt_of_cell q0))).trans q0
    · by_cases e : t = j
      · subst e
        rw [if_pos rfl]
        exact World.cell?_setCell_same' _ _ _ (by rw [h1 t ht]; rfl)
      · rw [if_neg e, cell_other (addr_ne (fun h => e h.symm))]
        exact h1 t ht
    · simpa using hbel.size
    · rw [Below.heap_setCell _ _ _ _ (by exact hb2)]
      exact hbel.block b hb1

theorem room_keep (Bb A j : Nat) (x : Option Addr) (l c i : Nat) (n : Int) (w : World) (old : Nat → Value) (hk : j < 256) (hl : l ≤ c) (hc : c ≤ 100000) (hn0 : -1000 ≤ n) (hn : n ≤ 200000)
    (hne : A ≠ Bb) (q0 : w.cell? ⟨Bb, 0, none⟩ = some (.slice (some ⟨A, 0, none⟩) (j + 1) (j + 1))) (hrow : ∀ t, t < j + 1 → w.cell? ⟨A, t, none⟩ = some (old t)) (hj : old j = .slice x l c) (hsl : ∃ a b c, old 0 = .slice a b c) (f1 : w.frozen? ⟨A, j, none⟩ = false)
    (hb : IsBytes w x i l) (hno : n ≤ (c : Int) - (l : Int) ∨ c < 65536) :
    Calls Yba.prog 6 #[.pointer (some ⟨Bb, 0, none⟩), .int .i64 n] w fun e w' => e = .returned (.pointer (some ⟨A, j, none⟩)) ∧ ∃ (a' : Option Addr) (C : Nat), (C : Int) = gcap l c n ∧ IsBytes w' a' i l ∧ After w w' Bb A A (j + 1) (j + 1) (fun t => if t = j then .slice a' l C else old t) := by
  refine (room_back Bb A j x l c i n w hk hl hc hn0 hn hne q0 (by rw [hrow j (by omega), hj]) f1 hb hno).mono ?_
  rintro e w' ⟨rfl, w1, a', C, hC, hB, hbel, rfl⟩
  obtain ⟨h1, h2⟩ := back_after (C := C) hne q0 hrow hsl hB hbel
  exact ⟨rfl, a', C, hC, h1, h2⟩

theorem new_after {w v w1 w2 : World} {Bb A j g cap : Nat} {cur cs : Array Value} {a' : Option Addr} {C : Nat} {old : Nat → Value} (hne : A ≠ Bb) (hBb : Bb < w.heap.size) (hAl : A < w.heap.size) (hcur : cur.size = j + 1) (hold : ∀ t, t < j + 1 → cur[t]? = some (old t)) (qb : (w.cell? ⟨Bb, 0, none⟩).isSome = true)
    (hv : Below w.heap.size w v) (hA : Added v w1 A j g cap cur cs) (hb2 : Below w1.heap.size (w1.setCell ⟨Bb, 0, none⟩ (.slice (some ⟨g, 0, none⟩) (j + 1 + 1) cap)) w2) :
    After w (w2.setCell ⟨g, j + 1, none⟩ (.slice a' 0 C)) Bb A g (j + 1 + 1) cap (fun t => if t = j + 1 then .slice a' 0 C else old t) := by
  obtain ⟨hown, hgrow, hat, hlt⟩ := hA
  have hs1 := hv.size
  have hs2 := (addW_below v cs).size
  have hs3 := hgrow.size
  have hgB : g ≠ Bb := by rcases hat with h | h <;> omega
  have hBb1 : Bb < w1.heap.size := by omega
  -- the builder's field, in w1
  have hw1B : w1.heap[Bb]? = w.heap[Bb]? := by
    rw [hgrow.block Bb (by omega) (by simpa using hne.symm), (addW_below v cs).block Bb (by omega), hv.block Bb hBb]
  have c1 : ∀ t, t < j + 1 → w1.cell? ⟨g, t, none⟩ = some (old t) := fun t ht => by
    rw [hown.cellAt t (by omega), List.getElem?_append_left (by simp; omega)]
    simpa using hold t ht
  have c2 : (w1.cell? ⟨g, j + 1, none⟩).isSome = true := by
    rw [hown.cellAt (j + 1) (by omega), List.getElem?_append_right (by simp [hcur])]
    simp [hcur]
  have d1 : ∀ t, w2.cell? ⟨g, t, none⟩ = w1.cell? ⟨g, t, none⟩ := fun t =>
    (hb2.cell (p := ⟨g, t, none⟩) hlt).trans (World.cell?_setCell_far _ _ _ _ (by exact hgB.symm))
  refine ⟨?_, fun t ht => ?_, ?_, ?_, ?_, ?_, fun b hb1 hb3 hb4 => ?_⟩
  · refine ((World.cell?_setCell_far _ _ _ _ (by exact hgB)).trans (hb2.cell (p := ⟨Bb, 0, none⟩) hBb1)).trans ?_
    refine World.cell?_setCell_same' _ _ _ ?_
    rw [World.cell?_of_block (w := w) hw1B]
    exact qb
  · by_cases e : t = j + 1
    · subst e
      rw [if_pos rfl]
      exact World.cell?_setCell_same' _ _ _ (by rw [d1]; exact c2)
    · rw [if_neg e, cell_other (addr_ne (fun h => e h.symm)), d1]
      exact c1 t (by omega)
  · exact (hb2.os.trans hgrow.os).trans ((addW_below v cs).os.trans hv.os)
  · exact (hb2.tape.trans hgrow.tape).trans ((addW_below v cs).tape.trans hv.tape)
  · exact (hb2.output.trans hgrow.output).trans ((addW_below v cs).output.trans hv.output)
  · have := hb2.size
    simp at this ⊢
    omega
  · have hbg : b ≠ g := by rcases hat with h | h <;> omega
    rw [Below.heap_setCell _ _ _ _ (by exact hbg), hb2.block b (by omega), Below.heap_setCell _ _ _ _ (by exact hb4), hgrow.block b (by omega) (by simpa using hb3), (addW_below v cs).block b (by omega), hv.block b hb1]

theorem room_add (Bb A j : Nat) (cur : Array Value) (x : Option Addr) (l c : Nat) (n : Int) (w : World) (old : Nat → Value) (hk : j < 256) (hl : l ≤ c) (hc : c ≤ 100000) (hn0 : -1000 ≤ n) (hn : n ≤ 200000)
    (hne : A ≠ Bb) (q0 : w.cell? ⟨Bb, 0, none⟩ = some (.slice (some ⟨A, 0, none⟩) (j + 1) (j + 1))) (f0 : w.frozen? ⟨Bb, 0, none⟩ = false) (hA : w.heap[A]? = some (.cells cur 22 (0, 0))) (hcur : cur.size = j + 1) (hold : ∀ t, t < j + 1 → cur[t]? = some (old t)) (hj : old j = .slice x l c)
    (hlt : (c : Int) - (l : Int) < n) (hbig : 65536 ≤ c) :
    Calls Yba.prog 6 #[.pointer (some ⟨Bb, 0, none⟩), .int .i64 n] w fun e w' => ∃ (g cap : Nat) (a' : Option Addr) (C : Nat), e = .returned (.pointer (some ⟨g, j + 1, none⟩)) ∧ (C : Int) = gcap 0 65536 n ∧ After w w' Bb A g (j + 1 + 1) cap (fun t => if t = j + 1 then .slice a' 0 C else old t) := by
  have q1 : w.cell? ⟨A, j, none⟩ = some (.slice x l c) := by rw [cell_of_row w A j cur 22 (0, 0) hA, hold j (by omega), hj]
  refine (room_new Bb A j cur x l c n w hk hl hc hn0 hn hne q0 f0 q1 hA hcur hlt hbig).mono ?_
  rintro e w' ⟨g, cap, cs, v, w1, w2, a', C, rfl, hC, hv, hAd, hb2, rfl⟩
  exact ⟨g, cap, a', C, rfl, hC, new_after hne (lt_of_cell q0) (lt_of_cell q1) hcur hold (by rw [q0]; rfl) hv hAd hb2⟩

theorem room_first (Bb A : Nat) (n : Int) (w : World) (hn0 : -1000 ≤ n) (hn : n ≤ 200000) (hne : A ≠ Bb) (q0 : w.cell? ⟨Bb, 0, none⟩ = some (.slice (some ⟨A, 0, none⟩) 0 0)) (f0 : w.frozen? ⟨Bb, 0, none⟩ = false) :
    Calls Yba.prog 6 #[.pointer (some ⟨Bb, 0, none⟩), .int .i64 n] w fun e w' => ∃ (g cap : Nat) (a' : Option Addr) (C : Nat), e = .returned (.pointer (some ⟨g, 0, none⟩)) ∧ (C : Int) = gcap 0 0 n ∧ After w w' Bb A g 1 cap (fun _ => .slice a' 0 C) := by
  refine (room_zero Bb A n w hn0 hn hne q0 f0).mono ?_
  rintro e w' ⟨cap, zs, w1, a', C, rfl, hC, hb, rfl⟩
  have hBb := lt_of_cell q0
  obtain ⟨h0, h1, h2, h3, h4⟩ := firstW_facts w Bb cap zs hBb (by rw [q0]; rfl)
  refine ⟨w.heap.size + 1, cap, a', C, rfl, hC, ?_, fun t ht => ?_, ?_, ?_, ?_, ?_, fun b hb1 hb3 hb4 => ?_⟩
  · exact ((World.cell?_setCell_far _ _ _ _ (by show w.heap.size + 1 ≠ Bb; omega)).trans (hb.cell (p := ⟨Bb, 0, none⟩) (by show Bb < w.heap.size + 2; omega))).trans h0
  · obtain rfl : t = 0 := by omega
    exact World.cell?_setCell_same' _ _ _ (by rw [hb.cell (p := ⟨w.heap.size + 1, 0, none⟩) (by show w.heap.size + 1 < w.heap.size + 2; omega), h1]; rfl)
  · exact hb.os.trans h4.os
  · exact hb.tape.trans h4.tape
  · exact hb.output.trans h4.output
  · have := hb.size
    simp
    omega
  · rw [Below.heap_setCell _ _ _ _ (by show b ≠ w.heap.size + 1; omega), hb.block b (by omega), h4.block b hb1, Below.heap_setCell _ _ _ _ (by exact hb4)]

end Go.Proofs.Ybulkakqm.Room
