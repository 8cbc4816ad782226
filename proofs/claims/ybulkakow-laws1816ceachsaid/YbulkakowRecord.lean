/-
  The walks of Record's closure and of (Set).Record.
-/
import Derived.Test.YbulkakowRows
import Derived.Test.YbulkakowShelf
import Derived.Test.YbulkakowPlain
import Derived.WalkKit
import Derived.WalkSpells
import Derived.WalkLawsBesides
import Derived.BigQuiet
import Derived.Deep.QuietTactic
import Derived.Deep.OwnRows
import Derived.Deep.LoopGhost
import Derived.Lib.OwnBridge
namespace Go.Proofs.Ybulkakow.Rec
open Go.RowKit Go.Sort Go.Shelf Go.Lib Go.Proofs
set_option linter.unusedVariables false

theorem lt_of_cell {w : World} {b o : Nat} {v : Value} (h : w.cell? ⟨b, o, none⟩ = some v) : b < w.heap.size := by
  by_cases hb : b < w.heap.size
  · exact hb
  · have : w.heap[b]? = none := by simp; omega
    simp [World.cell?, this] at h

theorem compare_any (a b : ByteArray) (w : World) :
    Calls Yba.prog 17 #[.string a, .string b] w fun e w' => e = .returned (.int .i64 (compareBytes a.data.toList b.data.toList)) ∧ w' = w :=
  Any.strings_Compare Yba.laysCompare a b w

set_option maxHeartbeats 400000 in
theorem clo_any (r : Nat) (s q : ByteArray) (w : World) (hc : w.cell? ⟨r, 0, none⟩ = some (.string s)) :
    Calls Yba.prog 16 #[.pointer (some ⟨r, 0, none⟩), .string q] w fun e w' => e = .returned (.int .i64 (compareBytes s.data.toList q.data.toList)) ∧ w' = w := by
  go_enter Yba.func16, Yba.ntmps16
  go_wp2_with (go_at_call 17; refine (compare_any _ _ _).mono ?_; rintro e w' ⟨rfl, rfl⟩)
  go_ret
  exact ⟨rfl, rfl⟩

/-- A set that lies in memory: its row of m pointers at block g; the i-th leads to block R i, whose first cell holds T i. -/
def SetAt (w : World) (g m : Nat) (T : Nat → List UInt8) (R : Nat → Nat) : Prop :=
  ∀ i, i < m → w.cell? ⟨g, i, none⟩ = some (.pointer (some ⟨R i, 0, none⟩)) ∧ w.frozen? ⟨g, i, none⟩ = false ∧ w.cell? ⟨R i, 0, none⟩ = some (encStr (T i)) ∧ R i ≠ g

theorem setAt_below {w w' : World} {g m : Nat} {T : Nat → List UInt8} {R : Nat → Nat} (h : SetAt w g m T R) {B : Nat} (hB : w.heap.size ≤ B) (hb : Below B w w') : SetAt w' g m T R := by
  intro i hi
  obtain ⟨h1, h2, h3, h4⟩ := h i hi
  have hg := lt_of_cell h1
  have hr := lt_of_cell h3
  exact ⟨(hb.cell (p := ⟨g, i, none⟩) (by show g < B; omega)).trans h1, (hb.frozen (p := ⟨g, i, none⟩) (by show g < B; omega)).trans h2, (hb.cell (p := ⟨R i, 0, none⟩) (by show R i < B; omega)).trans h3, h4⟩

/-- The pointer to record i, for every number (those past the end: the last). -/
def ptr (R : Nat → Nat) (k : Nat) (i : Nat) : Value := .pointer (some ⟨R (min i k), 0, none⟩)

theorem cell_sortWorld {enc : Nat → Value} {w : World} {blk off n : Nat} {dk : Array Nat} {os : Array Obj} {b o : Nat} {v : Value} (hne : b ≠ blk) (h : w.cell? ⟨b, o, none⟩ = some v) : (sortWorld enc w blk off n dk os).cell? ⟨b, o, none⟩ = some v := by
  have hb := lt_of_cell h
  have e : (sortWorld enc w blk off n dk os).heap[b]? = w.heap[b]? := by
    show ((w.heap.modify blk _) ++ os)[b]? = _
    rw [Array.getElem?_append_left (by simpa using hb), Array.getElem?_modify, if_neg (fun e => hne e.symm)]
  exact (World.cell?_of_block (w := w) e).trans h

theorem holds_set {w : World} {g k : Nat} {T : Nat → List UInt8} {R : Nat → Nat} (h : SetAt w g (k + 1) T R) : Holds (ptr R k) w g 0 (Array.range (k + 1)) := by
  intro j hj
  have hj' : j < k + 1 := by simpa using hj
  obtain ⟨h1, h2, _, _⟩ := h j hj'
  rw [getElem!_pos (Array.range (k + 1)) j hj]
  simp only [Nat.zero_add, Array.getElem_range, ptr]
  rw [Nat.min_eq_left (by omega)]
  exact ⟨h1, h2⟩

theorem below_SW {enc : Nat → Value} {w W : World} {g : Nat} {d : Array Nat} (hH : Holds enc w g 0 d) (h : SW enc w g 0 d W) : Below w.heap.size w W := by
  obtain ⟨n, os, rfl⟩ := h
  unfold sortWorld
  rw [putRow_self enc (Sort.ahead w n) g 0 d (holds_ahead enc w n g 0 d hH)]
  refine ⟨rfl, rfl, rfl, ?_, fun k hk => ?_⟩
  · show w.heap.size ≤ (w.heap ++ os).size
    simp
  · show (w.heap ++ os)[k]? = w.heap[k]?
    rw [Array.getElem?_append_left hk]

/-- slices.BinarySearchFunc over the set's row, at this closure. -/
theorem search_any (g k : Nat) (T : Nat → List UInt8) (R : Nat → Nat) (q : ByteArray) (w : World) (hk : k < 1024) (h : SetAt w g (k + 1) T R) (hT : ∀ a b, a < b → b < k + 1 → T a < T b) :
    Calls Yba.prog 15 #[.slice (some ⟨g, 0, none⟩) (k + 1) (k + 1), .string q, .func (.func 16) #[] #[]] w fun e w' => ∃ (i : Nat) (f : Bool), e = .returned (.tuple #[.int .i64 i, .bool f]) ∧ Below w.heap.size w w' ∧
      (∀ j, j < k + 1 → T j = q.data.toList → i = j ∧ f = true) ∧ ((∀ j, j < k + 1 → T j ≠ q.data.toList) → f = false) := by
  have hH := holds_set h
  have hle : ∀ a b, a ≤ b → b < k + 1 → T b < q.data.toList → T a < q.data.toList := fun a b hab hb hlt => by
    rcases Nat.lt_or_eq_of_le hab with h1 | h1
    · exact List.lt_trans (hT a b h1 hb) hlt
    · rw [h1]; exact hlt
  have hget : ∀ j, j < k + 1 → (Array.range (k + 1))[j]! = j := fun j hj => by rw [getElem!_pos (Array.range (k + 1)) j (by simpa using hj)]; simp
  have hc := Any.slices_BinarySearchFunc (P := Yba.prog) Yba.laysSearch (ptr R k) (fun _ => rfl) (.string q) (fun i => compareBytes (T (min i k)) q.data.toList) 16 #[] g 0 (k + 1) (Array.range (k + 1)) w
    (enters_of Yba.func16 (by kernel_rfl) rfl)
    (fun m os dk hdk x => by
      have hx : min x k < k + 1 := by omega
      obtain ⟨h1, h2, h3, h4⟩ := h (min x k) hx
      have h5 := cell_sortWorld (enc := ptr R k) (off := 0) (n := m) (dk := dk) (os := os) h4 h3
      refine (clo_any (R (min x k)) ⟨(T (min x k)).toArray⟩ q _ h5).mono ?_
      rintro e w' ⟨rfl, rfl⟩
      exact ⟨rfl, 0, #[], by simp [World.drewN]⟩)
    hH (lt_of_cell (h 0 (by omega)).1) (by simp; omega)
    (fun a b hab hb hlt => by
      have hb' : b < k + 1 := by simpa using hb
      simp only [hget b hb', hget a (by omega)] at hlt ⊢
      rw [Pl.cmp_lt] at hlt ⊢
      rw [Nat.min_eq_left (by omega)] at hlt ⊢
      exact hle a b hab hb' hlt)
  rw [Array.size_range] at hc
  refine Calls.mono hc ?_
  rintro e w' ⟨he, hSW⟩
  refine ⟨_, _, he, below_SW hH hSW, fun j hj hTj => ?_, fun hno => ?_⟩
  · have hcnt : (Array.range (k + 1)).toList.countP (fun x => decide (compareBytes (T (min x k)) q.data.toList < 0)) = j := by
      have hgl : ∀ t, t < k + 1 → (Array.range (k + 1)).toList[t]! = t := fun t ht => by rw [getElem!_pos (Array.range (k + 1)).toList t (by simpa using ht)]; simp
      refine Lib.countP_boundary _ (Array.range (k + 1)).toList j (by simp; omega) (fun t ht => ?_) (fun t h3 h4 => ?_)
      · rw [hgl t (by omega), Nat.min_eq_left (by omega), ← hTj]
        exact decide_eq_true ((Pl.cmp_lt _ _).2 (hT t j ht hj))
      · have h4' : t < k + 1 := by simpa using h4
        rw [hgl t h4', Nat.min_eq_left (by omega), ← hTj]
        refine decide_eq_false fun hlt => ?_
        have hlt' := (Pl.cmp_lt _ _).1 hlt
        rcases Nat.lt_or_eq_of_le h3 with h5 | h5
        · exact List.lt_irrefl _ (List.lt_trans (hT j t h5 h4') hlt')
        · rw [h5] at hlt'; exact List.lt_irrefl _ hlt'
    rw [hcnt]
    refine ⟨rfl, ?_⟩
    rw [hget j hj, Nat.min_eq_left (by omega), hTj]
    simp [hj, (Pl.cmp_eq_zero _ _).2 rfl]
  · generalize (Array.range (k + 1)).toList.countP (fun x => decide (compareBytes (T (min x k)) q.data.toList < 0)) = c
    by_cases hcl : c < k + 1
    · rw [hget c hcl, Nat.min_eq_left (by omega)]
      have : compareBytes (T c) q.data.toList ≠ 0 := fun e => hno c hcl ((Pl.cmp_eq_zero _ _).1 e)
      simp [this]
    · simp [hcl]

/-- The value of a set. -/
def setV (g m : Nat) : Value := .agg #[.slice (some ⟨g, 0, none⟩) m m, .int .i64 0, .slice none 0 0]

set_option maxHeartbeats 1000000 in
/-- (Set).Record at a set of a record at least: the pointer to the record whose ID it is. -/
theorem record_hit (g k : Nat) (T : Nat → List UInt8) (R : Nat → Nat) (q : ByteArray) (w : World) (hk : k < 1024) (h : SetAt w g (k + 1) T R) (hT : ∀ a b, a < b → b < k + 1 → T a < T b) (j : Nat) (hj : j < k + 1) (hq : T j = q.data.toList) :
    Calls Yba.prog 10 #[setV g (k + 1), .string q] w fun e w' => e = .returned (.pointer (some ⟨R j, 0, none⟩)) ∧ Below w.heap.size w w' := by
  have A : Aside (SetAt w g (k + 1) T R ∧ (∀ a b, a < b → b < k + 1 → T a < T b) ∧ T j = q.data.toList) := ⟨h, hT, hq⟩
  clear h hT hq
  unfold setV
  go_enter Yba.func10, Yba.ntmps10
  go_wp2_with fail
  have hb0 : ∀ o, Below w.heap.size w (w.alloc o) := fun o => (Below.refl _ _).alloc (Nat.le_refl _) o
  refine (search_any g k T R q _ hk (setAt_below A.out.1 (Nat.le_refl _) (hb0 _)) A.out.2.1).mono ?_
  rintro e w' ⟨i, f, rfl, hB, h1, h2⟩
  obtain ⟨rfl, rfl⟩ := h1 j hj A.out.2.2
  clear h1 h2
  have hb1 : Below w.heap.size w w' := (hb0 _).trans (hB.mono (by simp))
  have c0 := hB.cell (p := ⟨w.heap.size, 0, none⟩) (by simp)
  have cj := (setAt_below A.out.1 (Nat.le_refl _) hb1 i hj).1
  have B : Aside (Below w.heap.size w w') := hb1
  clear hb1 hB hb0
  simp at c0
  go_wp2
  go_ret
  exact ⟨rfl, B.out⟩

theorem search_none (p : Option Addr) (cap : Nat) (tv fv : Value) (w : World) : Calls Yba.prog 15 #[.slice p 0 cap, tv, fv] w fun e w' => e = .returned (.tuple #[.int .i64 0, .bool false]) ∧ w' = w :=
  Any.slices_BinarySearchFunc_none Yba.laysSearch p cap tv fv w

set_option maxHeartbeats 1000000 in
/-- .. nil where no record has it. -/
theorem record_miss (g k : Nat) (T : Nat → List UInt8) (R : Nat → Nat) (q : ByteArray) (w : World) (hk : k < 1024) (h : SetAt w g (k + 1) T R) (hT : ∀ a b, a < b → b < k + 1 → T a < T b) (hq : ∀ j, j < k + 1 → T j ≠ q.data.toList) :
    Calls Yba.prog 10 #[setV g (k + 1), .string q] w fun e w' => e = .returned (.pointer none) ∧ Below w.heap.size w w' := by
  have A : Aside (SetAt w g (k + 1) T R ∧ (∀ a b, a < b → b < k + 1 → T a < T b) ∧ ∀ j, j < k + 1 → T j ≠ q.data.toList) := ⟨h, hT, hq⟩
  clear h hT hq
  unfold setV
  go_enter Yba.func10, Yba.ntmps10
  go_wp2_with fail
  have hb0 : ∀ o, Below w.heap.size w (w.alloc o) := fun o => (Below.refl _ _).alloc (Nat.le_refl _) o
  refine (search_any g k T R q _ hk (setAt_below A.out.1 (Nat.le_refl _) (hb0 _)) A.out.2.1).mono ?_
  rintro e w' ⟨i, f, rfl, hB, h1, h2⟩
  obtain rfl := h2 A.out.2.2
  clear h1 h2
  have hb1 : Below w.heap.size w w' := (hb0 _).trans (hB.mono (by simp))
  have B : Aside (Below w.heap.size w w') := hb1
  clear hb1 hB hb0
  go_wp2
  go_ret
  exact ⟨rfl, B.out⟩

set_option maxHeartbeats 1000000 in
theorem record_empty (g : Nat) (q : ByteArray) (w : World) :
    Calls Yba.prog 10 #[setV g 0, .string q] w fun e w' => e = .returned (.pointer none) ∧ Below w.heap.size w w' := by
  unfold setV
  go_enter Yba.func10, Yba.ntmps10
  go_wp2_with fail
  refine (search_none _ _ _ _ _).mono ?_
  rintro e w' ⟨rfl, rfl⟩
  go_wp2
  go_ret
  exact ⟨rfl, (Below.refl _ _).alloc (Nat.le_refl _) _⟩

/-- One contract for every set. -/
theorem record_any (g m : Nat) (T : Nat → List UInt8) (R : Nat → Nat) (q : ByteArray) (w : World) (hm : m ≤ 1024) (h : SetAt w g m T R) (hT : ∀ a b, a < b → b < m → T a < T b) (p : Option Addr)
    (hp : (∃ j, j < m ∧ T j = q.data.toList ∧ p = some ⟨R j, 0, none⟩) ∨ ((∀ j, j < m → T j ≠ q.data.toList) ∧ p = none)) :
    Calls Yba.prog 10 #[setV g m, .string q] w fun e w' => e = .returned (.pointer p) ∧ Below w.heap.size w w' := by
  rcases m with _ | k
  · rcases hp with ⟨j, hj, _⟩ | ⟨_, rfl⟩
    · omega
    · exact record_empty g q w
  · rcases hp with ⟨j, hj, hq, rfl⟩ | ⟨hq, rfl⟩
    · exact record_hit g k T R q w (by omega) h hT j hj hq
    · exact record_miss g k T R q w (by omega) h hT hq

end Go.Proofs.Ybulkakow.Rec
