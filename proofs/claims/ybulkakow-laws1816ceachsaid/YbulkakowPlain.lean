/-
  The plain part: no Go in sight. Sorted and compacted strings ascend strictly; what strings.Compare says of two lists of bytes; how many of a strictly ascending row precede a target.
-/
import Derived.Lib.SlicesCompact
import Derived.Lib.Bytealg
namespace Go.Proofs.Ybulkakow.Pl
open Go.Lib

/-- strings.Compare against the order on lists of bytes. -/
theorem cmp_lt : ∀ x y : List UInt8, compareBytes x y < 0 ↔ x < y
  | [], [] => by simp [compareBytes]
  | [], _ :: _ => by simp [compareBytes]
  | _ :: _, [] => by simp [compareBytes]
  | a :: x, b :: y => by
    have ih := cmp_lt x y
    unfold compareBytes
    rw [List.cons_lt_cons_iff]
    by_cases h1 : a < b
    · simp [h1]
    · by_cases h2 : b < a
      · have hne : a ≠ b := fun e => by subst e; exact h1 h2
        simp [h1, h2, hne]
      · have e : a = b := UInt8.le_antisymm (UInt8.not_lt.1 h2) (UInt8.not_lt.1 h1)
        subst e
        simp [h1, ih]

theorem cmp_eq_zero : ∀ x y : List UInt8, compareBytes x y = 0 ↔ x = y
  | [], [] => by simp [compareBytes]
  | [], _ :: _ => by simp [compareBytes]
  | _ :: _, [] => by simp [compareBytes]
  | a :: x, b :: y => by
    have ih := cmp_eq_zero x y
    unfold compareBytes
    by_cases h1 : a < b
    · have hne : a ≠ b := fun e => by subst e; exact UInt8.lt_irrefl _ h1
      simp [h1, hne]
    · by_cases h2 : b < a
      · have hne : a ≠ b := fun e => by subst e; exact h1 h2
        simp [h1, h2, hne]
      · have e : a = b := UInt8.le_antisymm (UInt8.not_lt.1 h2) (UInt8.not_lt.1 h1)
        subst e
        simp [h1, ih]

/-- A list that ascends: what is kept of its first m places ascends strictly. -/
theorem compactUpTo_strict (d : Array (List UInt8)) (hs : ∀ i j, i < j → j < d.size → d[i]! ≤ d[j]!) : ∀ m, m ≤ d.size →
    (compactUpTo d m).Pairwise (· < ·) ∧ ∀ x ∈ compactUpTo d m, x ≤ d[m - 1]!
  | 0, _ => by simp [compactUpTo]
  | m + 1, hm => by
    obtain ⟨ih1, ih2⟩ := compactUpTo_strict d hs m (by omega)
    rw [compactUpTo_succ]
    rcases Nat.eq_zero_or_pos m with rfl | hpos
    · have h0 : compactUpTo d 0 = [] := by simp [compactUpTo]
      rw [h0, keeps_lt_one d 0 (by omega)]
      simp
    · have hle : d[m - 1]! ≤ d[m]! := hs (m - 1) m (by omega) (by omega)
      by_cases hk : keeps d m = true
      · rw [hk, if_pos rfl]
        have hne : d[m]! ≠ d[m - 1]! := by
          intro e
          rw [keeps_neg hpos e] at hk
          cases hk
        have hlt : d[m - 1]! < d[m]! := by
          rcases List.le_iff_lt_or_eq.1 hle with h | h
          · exact h
          · exact absurd h.symm hne
        refine ⟨?_, ?_⟩
        · rw [List.pairwise_append]
          refine ⟨ih1, List.pairwise_singleton _ _, fun x hx y hy => ?_⟩
          rw [List.mem_singleton] at hy
          subst hy
          rcases List.le_iff_lt_or_eq.1 (ih2 x hx) with h | h
          · exact List.lt_trans h hlt
          · rw [h]; exact hlt
        · intro x hx
          rw [Nat.add_sub_cancel]
          rcases List.mem_append.1 hx with h | h
          · exact List.le_trans (ih2 x h) hle
          · rw [List.mem_singleton.1 h]; exact List.le_refl _
      · have hk' : keeps d m = false := by simpa using hk
        rw [hk']
        simp only [Bool.false_eq_true, if_false, List.append_nil]
        refine ⟨ih1, fun x hx => ?_⟩
        rw [Nat.add_sub_cancel]
        exact List.le_trans (ih2 x hx) hle

/-- What sort and compact make of a list of strings. -/
def uniq (ss : List (List UInt8)) : List (List UInt8) := compact (ss.mergeSort fun x y => decide (x ≤ y))

theorem uniq_strict (ss : List (List UInt8)) : (uniq ss).Pairwise (· < ·) := by
  have tr : ∀ a b c : List UInt8, decide (a ≤ b) = true → decide (b ≤ c) = true → decide (a ≤ c) = true := fun a b c h1 h2 => by simp only [decide_eq_true_eq] at *; exact List.le_trans h1 h2
  have to : ∀ a b : List UInt8, (decide (a ≤ b) || decide (b ≤ a)) = true := fun a b => by simp only [Bool.or_eq_true, decide_eq_true_eq]; exact List.le_total a b
  have hp := List.pairwise_mergeSort tr to ss
  unfold uniq
  generalize ss.mergeSort (fun x y => decide (x ≤ y)) = zs at hp ⊢
  refine (compactUpTo_strict zs.toArray (fun i j hij hj => ?_) zs.length (by simp)).1
  have hj' : j < zs.length := by simpa using hj
  have := List.pairwise_iff_getElem.1 hp i j (by omega) hj' hij
  simp only [decide_eq_true_eq] at this
  rw [getElem!_pos zs.toArray i (by simp; omega), getElem!_pos zs.toArray j (by simpa using hj')]
  simpa using this

theorem uniq_length (ss : List (List UInt8)) : (uniq ss).length ≤ ss.length := by
  have h : ∀ zs : List (List UInt8), (compact zs).length ≤ zs.length := fun zs => by
    unfold compact compactUpTo
    rw [List.length_map]
    exact Nat.le_trans (List.length_filter_le _ _) (by simp)
  have := h (ss.mergeSort fun x y => decide (x ≤ y))
  rw [List.length_mergeSort] at this
  exact this

end Go.Proofs.Ybulkakow.Pl
