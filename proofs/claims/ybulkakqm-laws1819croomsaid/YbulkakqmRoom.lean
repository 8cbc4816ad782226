/-
  The walk of (*PositionsBuilder).room.
-/
import Derived.Test.YbulkakqmGrow
import Derived.Deep.RegionHeld3
import Derived.Deep.RegionWith
import Derived.BigRegion
import Derived.Deep.DrawnRows
import Derived.Deep.RegionLaw
import Derived.Deep.AppendLies
namespace Go.Proofs.Ybulkakqm.Room
open Go.RowKit
set_option linter.unusedVariables false
attribute [local go_sem ↓] Go.wp_at_zero Go.wp_at_succ

/-- How large grow makes a chunk of l bytes and capacity c where n more are wanted. -/
def gcap (l c : Nat) (n : Int) : Int := if n ≤ (c : Int) - (l : Int) then (c : Int) else max (2 * (c : Int)) ((l : Int) + n)

theorem grow_any (a : Option Addr) (l c i : Nat) (n : Int) (w : World) (hl : l ≤ c) (hc : c ≤ 100000) (hn : n ≤ 200000) (hb : IsBytes w a i l) :
    Calls Yba.prog 9 #[.slice a l c, .int .i64 n] w fun e w' => ∃ (a' : Option Addr) (C : Nat), e = .returned (.slice a' l C) ∧ (C : Int) = gcap l c n ∧ IsBytes w' a' i l ∧ Below w.heap.size w w' := by
  by_cases h : n ≤ (c : Int) - (l : Int)
  · refine (grow_same a l c n w hl hc h).mono ?_
    rintro e w' ⟨rfl, rfl⟩
    exact ⟨a, c, rfl, by unfold gcap; rw [if_pos h], hb, Below.refl _ _⟩
  · refine (grow_new a l c i n w hl hc hn (by omega) hb).mono ?_
    rintro e w' ⟨C, hC, rfl, h1, h2⟩
    exact ⟨_, C, rfl, by unfold gcap; rw [if_neg h, hC], h1, h2⟩

set_option maxHeartbeats 2000000 in
/-- room where the last chunk is kept: it has the room; or it is smaller than a chunk's size. -/
theorem room_back (Bb A j : Nat) (x : Option Addr) (l c i : Nat) (n : Int) (w : World) (hk : j < 256) (hl : l ≤ c) (hc : c ≤ 100000) (hn0 : -1000 ≤ n) (hn : n ≤ 200000)
    (hne : A ≠ Bb) (q0 : w.cell? ⟨Bb, 0, none⟩ = some (.slice (some ⟨A, 0, none⟩) (j + 1) (j + 1))) (q1 : w.cell? ⟨A, j, none⟩ = some (.slice x l c)) (f1 : w.frozen? ⟨A, j, none⟩ = false)
    (hb : IsBytes w x i l) (hno : n ≤ (c : Int) - (l : Int) ∨ c < 65536) :
    Calls Yba.prog 6 #[.pointer (some ⟨Bb, 0, none⟩), .int .i64 n] w fun e w' => e = .returned (.pointer (some ⟨A, j, none⟩)) ∧ ∃ (w1 : World) (a' : Option Addr) (C : Nat), (C : Int) = gcap l c n ∧ IsBytes w1 a' i l ∧ Below w.heap.size w w1 ∧ w' = w1.setCell ⟨A, j, none⟩ (.slice a' l C) := by
  by_cases hroom : n ≤ (c : Int) - (l : Int)
  · have hd : decide ((c : Int) - (l : Int) < n) = false := by simp; omega
    clear hno
    go_enter Yba.func6, Yba.ntmps6
    go_wp2
    go_quiet (fail)
    go_wp2
    have v0 : (w.drewN nq).cell? ⟨Bb, 0, none⟩ = some (.slice (some ⟨A, 0, none⟩) (j + 1) (j + 1)) := q0
    have v1 : (w.drewN nq).cell? ⟨A, j, none⟩ = some (.slice x l c) := q1
    have v2 : (w.drewN nq).frozen? ⟨A, j, none⟩ = false := f1
    have V : Aside (Below w.heap.size w (w.drewN nq) ∧ IsBytes (w.drewN nq) x i l) := ⟨below_drewN (Below.refl _ _) _, isBytes_below hb (below_drewN (Below.refl _ _) _)⟩
    clear q0 q1 f1 hb
    generalize w.drewN nq = v at *
    go_region_with (go_at_call 9; refine (grow_any x l c i n v.drew hl hc hn V.out.2).mono ?_; rintro e w1 ⟨a', C, rfl, hC, hB1, hbel⟩; have p0 := (hbel.cell (p := ⟨Bb, 0, none⟩) (lt_of_cell v0)).trans v0; have p1 := (hbel.cell (p := ⟨A, j, none⟩) (lt_of_cell v1)).trans v1; have p2 := (hbel.frozen (p := ⟨A, j, none⟩) (lt_of_cell v1)).trans v2; have Y : Aside ((C : Int) = gcap l c n ∧ IsBytes w1 a' i l ∧ Below v.heap.size v w1) := ⟨hC, hB1, (Below.refl _ v).drew.trans hbel⟩; clear hC hB1 hbel)
    all_goals go_wp2
    all_goals go_ret
    all_goals exact ⟨rfl, w1, a', C, Y.out.1, Y.out.2.1, V.out.1.trans (Y.out.2.2.mono V.out.1.size), rfl⟩
  · have hlt : (c : Int) - (l : Int) < n := by omega
    have hsm : c < 65536 := by omega
    have hd2 : decide ((65536 : Int) ≤ (c : Int)) = false := by simp; omega
    clear hno hroom
    go_enter Yba.func6, Yba.ntmps6
    go_wp2
    go_quiet (fail)
    go_wp2
    have v0 : (w.drewN nq).cell? ⟨Bb, 0, none⟩ = some (.slice (some ⟨A, 0, none⟩) (j + 1) (j + 1)) := q0
    have v1 : (w.drewN nq).cell? ⟨A, j, none⟩ = some (.slice x l c) := q1
    have v2 : (w.drewN nq).frozen? ⟨A, j, none⟩ = false := f1
    have V : Aside (Below w.heap.size w (w.drewN nq) ∧ IsBytes (w.drewN nq) x i l) := ⟨below_drewN (Below.refl _ _) _, isBytes_below hb (below_drewN (Below.refl _ _) _)⟩
    clear q0 q1 f1 hb
    generalize w.drewN nq = v at *
    go_region_with (go_at_call 9; refine (grow_any x l c i n v.drew hl hc hn V.out.2).mono ?_; rintro e w1 ⟨a', C, rfl, hC, hB1, hbel⟩; have p0 := (hbel.cell (p := ⟨Bb, 0, none⟩) (lt_of_cell v0)).trans v0; have p1 := (hbel.cell (p := ⟨A, j, none⟩) (lt_of_cell v1)).trans v1; have p2 := (hbel.frozen (p := ⟨A, j, none⟩) (lt_of_cell v1)).trans v2; have Y : Aside ((C : Int) = gcap l c n ∧ IsBytes w1 a' i l ∧ Below v.heap.size v w1) := ⟨hC, hB1, (Below.refl _ v).drew.trans hbel⟩; clear hC hB1 hbel)
    all_goals go_wp2
    all_goals go_ret
    all_goals exact ⟨rfl, w1, a', C, Y.out.1, Y.out.2.1, V.out.1.trans (Y.out.2.2.mono V.out.1.size), rfl⟩

end Go.Proofs.Ybulkakqm.Room
