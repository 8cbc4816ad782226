/-
  The walk of LawS1816CFind.
-/
import Derived.Test.YbulkakowSet
import Derived.Lib.Builder
namespace Go.Proofs.Ybulkakow.Rec
open Go.RowKit Go.Sort Go.Shelf Go.Lib Go.Proofs
set_option linter.unusedVariables false

theorem info45 : ∃ j, Yba.prog.info? 45 = some j := by
  have h : (Yba.prog.info? 45).isSome = true := by kernel_rfl
  exact Option.isSome_iff_exists.1 h

theorem eq46 (p : Option Addr) (w : World) : (binOp .eql 46 (.pointer p) (.pointer p)).run Yba.prog w = .ok (.bool true) w := by
  obtain ⟨j, hj⟩ := info45
  cases p with
  | none =>
    rw [run_eql_pointer_nil w 46 none (by kernel_rfl)]
    rfl
  | some a => exact run_eql_ptr_same w a Yba.underlying46 hj
theorem ne46 (p : Option Addr) (w : World) : (binOp .neq 46 (.pointer p) (.pointer p)).run Yba.prog w = .ok (.bool false) w := by
  obtain ⟨j, hj⟩ := info45
  cases p with
  | none =>
    rw [run_neq_pointer_nil w 46 none (by kernel_rfl)]
    rfl
  | some a => exact Lib.run_neq_ptr_same w a Yba.underlying46 hj

/-- A string's bytes against a list's. -/
theorem same_bytes (t : List UInt8) (q : ByteArray) : ((⟨t.toArray⟩ : ByteArray).toList == q.toList) = decide (t = q.data.toList) := by
  rw [ByteArray.toList_eq, ByteArray.toList_eq]
  by_cases h : t = q.data.toList
  · simp [h]
  · have : (t == q.data.toList) = false := by simpa using h
    simp [h, this]

/-- What the scan and Record both come to. -/
def Answer (m : Nat) (T : Nat → List UInt8) (R : Nat → Nat) (q : ByteArray) (p : Option Addr) : Prop :=
  (∃ j, j < m ∧ T j = q.data.toList ∧ p = some ⟨R j, 0, none⟩) ∨ ((∀ j, j < m → T j ≠ q.data.toList) ∧ p = none)

set_option maxHeartbeats 2000000 in
theorem find_any (a : Option Addr) (n c : Nat) (S : Nat → ByteArray) (q : ByteArray) (pick : Int) (useQ : Bool) (w : World) (hn : n ≤ 1024) (hS : IsStrs w a n S) (hp0 : 0 ≤ pick) (hp1 : pick ≤ 255) :
    Calls Yba.prog 5 #[.slice a n c, .string q, .int .u8 pick, .bool useQ] w fun e w' => e = .returned (.bool true) ∧ Below w.heap.size w w' := by
  have AS : Aside (IsStrs w a n S) := hS
  clear hS
  go_enter Yba.func5, Yba.ntmps5
  go_wp2_with fail
  refine (set_any a n c S w hn AS.out).mono ?_
  rintro e w1 ⟨g, m, T, R, hm, rfl, hSet, hT, hB⟩
  have A : Aside (SetAt w1 g m T R ∧ (∀ a b, a < b → b < m → T a < T b) ∧ Below w.heap.size w w1) := ⟨hSet, hT, hB⟩
  have hwl := hB.size
  clear hSet hT hB AS
  unfold setV
  have hq := eq46
  have q0 : ∀ N : Nat, ((w1.alloc (.cells #[.slice (some ⟨g, 0, none⟩) m m, .int .i64 0, .slice none 0 0] 33)).drewN N).cell? ⟨w1.heap.size, 0, none⟩ = some (.slice (some ⟨g, 0, none⟩) m m) := fun N => by simp
  have q1 : ∀ N : Nat, ((w1.alloc (.cells #[.slice (some ⟨g, 0, none⟩) m m, .int .i64 0, .slice none 0 0] 33)).drewN N).cell? ⟨w1.heap.size, 1, none⟩ = some (.int .i64 0) := fun N => by simp
  have q2 : ∀ N : Nat, ((w1.alloc (.cells #[.slice (some ⟨g, 0, none⟩) m m, .int .i64 0, .slice none 0 0] 33)).drewN N).cell? ⟨w1.heap.size, 2, none⟩ = some (.slice none 0 0) := fun N => by simp
  have W : Aside (∀ N : Nat, SetAt ((w1.alloc (.cells #[.slice (some ⟨g, 0, none⟩) m m, .int .i64 0, .slice none 0 0] 33)).drewN N) g m T R ∧ Below w.heap.size w ((w1.alloc (.cells #[.slice (some ⟨g, 0, none⟩) m m, .int .i64 0, .slice none 0 0] 33)).drewN N)) := fun N => by
    have hb : Below w1.heap.size w1 ((w1.alloc (.cells #[.slice (some ⟨g, 0, none⟩) m m, .int .i64 0, .slice none 0 0] 33)).drewN N) := below_drewN ((Below.refl _ _).alloc (Nat.le_refl _) _) N
    exact ⟨setAt_below A.out.1 (Nat.le_refl _) hb, A.out.2.2.trans (hb.mono hwl)⟩
  rcases (show useQ = true ∨ (useQ = false ∧ m = 0) ∨ (useQ = false ∧ 0 < m) by cases useQ <;> simp <;> omega) with rfl | ⟨rfl, hm0⟩ | ⟨rfl, hpos⟩
  · go_wp2
    have r0 : (w1.alloc (.cells #[.slice (some ⟨g, 0, none⟩) m m, .int .i64 0, .slice none 0 0] 33)).cell? ⟨w1.heap.size, 0, none⟩ = some (.slice (some ⟨g, 0, none⟩) m m) := q0 0
    have r1 : (w1.alloc (.cells #[.slice (some ⟨g, 0, none⟩) m m, .int .i64 0, .slice none 0 0] 33)).cell? ⟨w1.heap.size, 1, none⟩ = some (.int .i64 0) := q1 0
    have r2 : (w1.alloc (.cells #[.slice (some ⟨g, 0, none⟩) m m, .int .i64 0, .slice none 0 0] 33)).cell? ⟨w1.heap.size, 2, none⟩ = some (.slice none 0 0) := q2 0
    have V : Aside (SetAt (w1.alloc (.cells #[.slice (some ⟨g, 0, none⟩) m m, .int .i64 0, .slice none 0 0] 33)) g m T R ∧ Below w.heap.size w (w1.alloc (.cells #[.slice (some ⟨g, 0, none⟩) m m, .int .i64 0, .slice none 0 0] 33)) ∧ True) := ⟨(W.out 0).1, (W.out 0).2, trivial⟩
    clear q0 q1 q2 W
    generalize w1.alloc (.cells #[.slice (some ⟨g, 0, none⟩) m m, .int .i64 0, .slice none 0 0] 33) = v at r0 r1 r2 V ⊢
    go_loopg [11, 44] m (fun gk s11 s44 wr => ∃ k : Nat, k ≤ m ∧ m - k ≤ gk ∧ s44 = .int .i64 k ∧ s11 = .pointer none ∧ Aside (wr = v ∧ ∀ j, j < k → T j ≠ q.data.toList))
    case atStart => exact ⟨0, Nat.zero_le _, Nat.le_refl _, rfl, rfl, rfl, fun j hj => absurd hj (Nat.not_lt_zero _)⟩
    case round =>
      obtain ⟨k, hk, hg, rfl, rfl, X⟩ := hrel
      obtain ⟨hwr, hno⟩ := X.out
      clear X
      subst hwr
      have NO : Aside (∀ j, j < k → T j ≠ q.data.toList) := hno
      clear hno
      by_cases hkm : k < m
      · have c1 := (V.out.1 k hkm).1
        have c2 := (V.out.1 k hkm).2.2.1
        unfold encStr at c2
        by_cases hTk : T k = q.data.toList
        · have hd : ((⟨(T k).toArray⟩ : ByteArray).toList == q.toList) = true := by rw [same_bytes]; simp [hTk]
          have ANS : Aside (Answer m T R q (some ⟨R k, 0, none⟩)) := .inl ⟨k, hkm, hTk, rfl⟩
          clear hTk NO
          generalize (⟨(T k).toArray⟩ : ByteArray) = tk at c2 hd
          generalize R k = rk at c1 c2 ANS
          go_wp2_with fail
          refine (record_any g m T R q _ hm V.out.1 A.out.2.1 _ ANS.out).mono ?_
          rintro e w' ⟨rfl, hb⟩
          have B : Aside (Below w.heap.size w w') := V.out.2.1.trans (hb.mono V.out.2.1.size)
          clear hb
          go_wp2
          go_ret
          exact ⟨rfl, B.out⟩
        · have hd : ((⟨(T k).toArray⟩ : ByteArray).toList == q.toList) = false := by rw [same_bytes]; simp [hTk]
          have NX : Aside (∀ j, j < k + 1 → T j ≠ q.data.toList) := fun j hj => by
            by_cases e : j = k
            · rw [e]; exact hTk
            · exact NO.out j (by omega)
          clear hTk NO
          generalize (⟨(T k).toArray⟩ : ByteArray) = tk at c2 hd
          generalize R k = rk at c1 c2
          go_wp2
          go_roundg (m - (k + 1))
          case measure => omega
          case rel => exact ⟨k + 1, by omega, Nat.le_refl _, by go_num, rfl, rfl, NX.out⟩
      · obtain rfl : k = m := by omega
        have ANS : Aside (Answer k T R q none) := .inr ⟨NO.out, rfl⟩
        clear NO
        go_wp2_with fail
        refine (record_any g k T R q _ hm V.out.1 A.out.2.1 _ ANS.out).mono ?_
        rintro e w' ⟨rfl, hb⟩
        have B : Aside (Below w.heap.size w w') := V.out.2.1.trans (hb.mono V.out.2.1.size)
        clear hb
        go_wp2
        go_ret
        exact ⟨rfl, B.out⟩
  · have hdm : decide (0 < m) = false := by simp; omega
    have HM0 : Aside (m = 0) := hm0
    clear hm0
    go_wp2
    have r0 : (w1.alloc (.cells #[.slice (some ⟨g, 0, none⟩) m m, .int .i64 0, .slice none 0 0] 33)).cell? ⟨w1.heap.size, 0, none⟩ = some (.slice (some ⟨g, 0, none⟩) m m) := q0 0
    have r1 : (w1.alloc (.cells #[.slice (some ⟨g, 0, none⟩) m m, .int .i64 0, .slice none 0 0] 33)).cell? ⟨w1.heap.size, 1, none⟩ = some (.int .i64 0) := q1 0
    have r2 : (w1.alloc (.cells #[.slice (some ⟨g, 0, none⟩) m m, .int .i64 0, .slice none 0 0] 33)).cell? ⟨w1.heap.size, 2, none⟩ = some (.slice none 0 0) := q2 0
    have V : Aside (SetAt (w1.alloc (.cells #[.slice (some ⟨g, 0, none⟩) m m, .int .i64 0, .slice none 0 0] 33)) g m T R ∧ Below w.heap.size w (w1.alloc (.cells #[.slice (some ⟨g, 0, none⟩) m m, .int .i64 0, .slice none 0 0] 33)) ∧ True) := ⟨(W.out 0).1, (W.out 0).2, trivial⟩
    clear q0 q1 q2 W
    generalize w1.alloc (.cells #[.slice (some ⟨g, 0, none⟩) m m, .int .i64 0, .slice none 0 0] 33) = v at r0 r1 r2 V ⊢
    go_loopg [11, 44] m (fun gk s11 s44 wr => ∃ k : Nat, k ≤ m ∧ m - k ≤ gk ∧ s44 = .int .i64 k ∧ s11 = .pointer none ∧ Aside (wr = v ∧ ∀ j, j < k → T j ≠ q.data.toList))
    case atStart => exact ⟨0, Nat.zero_le _, Nat.le_refl _, rfl, rfl, rfl, fun j hj => absurd hj (Nat.not_lt_zero _)⟩
    case round =>
      obtain ⟨k, hk, hg, rfl, rfl, X⟩ := hrel
      obtain ⟨hwr, hno⟩ := X.out
      clear X
      subst hwr
      have NO : Aside (∀ j, j < k → T j ≠ q.data.toList) := hno
      clear hno
      by_cases hkm : k < m
      · have c1 := (V.out.1 k hkm).1
        have c2 := (V.out.1 k hkm).2.2.1
        unfold encStr at c2
        by_cases hTk : T k = q.data.toList
        · have hd : ((⟨(T k).toArray⟩ : ByteArray).toList == q.toList) = true := by rw [same_bytes]; simp [hTk]
          have ANS : Aside (Answer m T R q (some ⟨R k, 0, none⟩)) := .inl ⟨k, hkm, hTk, rfl⟩
          clear hTk NO
          generalize (⟨(T k).toArray⟩ : ByteArray) = tk at c2 hd
          generalize R k = rk at c1 c2 ANS
          go_wp2_with fail
          refine (record_any g m T R q _ hm V.out.1 A.out.2.1 _ ANS.out).mono ?_
          rintro e w' ⟨rfl, hb⟩
          have B : Aside (Below w.heap.size w w') := V.out.2.1.trans (hb.mono V.out.2.1.size)
          clear hb
          go_wp2
          go_ret
          exact ⟨rfl, B.out⟩
        · have hd : ((⟨(T k).toArray⟩ : ByteArray).toList == q.toList) = false := by rw [same_bytes]; simp [hTk]
          have NX : Aside (∀ j, j < k + 1 → T j ≠ q.data.toList) := fun j hj => by
            by_cases e : j = k
            · rw [e]; exact hTk
            · exact NO.out j (by omega)
          clear hTk NO
          generalize (⟨(T k).toArray⟩ : ByteArray) = tk at c2 hd
          generalize R k = rk at c1 c2
          go_wp2
          go_roundg (m - (k + 1))
          case measure => omega
          case rel => exact ⟨k + 1, by omega, Nat.le_refl _, by go_num, rfl, rfl, NX.out⟩
      · obtain rfl : k = m := by omega
        have ANS : Aside (Answer k T R q none) := .inr ⟨NO.out, rfl⟩
        clear NO
        go_wp2_with fail
        refine (record_any g k T R q _ hm V.out.1 A.out.2.1 _ ANS.out).mono ?_
        rintro e w' ⟨rfl, hb⟩
        have B : Aside (Below w.heap.size w w') := V.out.2.1.trans (hb.mono V.out.2.1.size)
        clear hb
        go_wp2
        go_ret
        exact ⟨rfl, B.out⟩
  · obtain ⟨pk, rfl⟩ : ∃ pk : Nat, pick = pk := ⟨pick.toNat, by omega⟩
    have hpk : pk < 256 := by omega
    obtain ⟨j, hj, hrem⟩ : ∃ j : Nat, j < m ∧ (pk : Int).tmod (m : Int) = (j : Int) := ⟨pk % m, Nat.mod_lt _ hpos, by rw [Int.tmod_eq_emod_of_nonneg (by omega)]; omega⟩
    have hw1 : IntKind.i64.wrap (pk : Int) = (pk : Int) := by rw [IntKind.wrap_i64]; omega
    have hw2 : IntKind.i64.wrap (j : Int) = (j : Int) := by rw [IntKind.wrap_i64]; omega
    have hm0 : ((m : Int) == 0) = false := by simp; omega
    have hne : ¬ (m : Int) = 0 := by omega
    have cj1 := fun N => ((W.out N).1 j hj).1
    have cj2 := fun N => ((W.out N).1 j hj).2.2.1
    unfold encStr at cj2
    go_wp2
    go_quiet (fail)
    go_wp2
    clear cj1 cj2 hrem hw1 hw2 hm0 hne hp0 hp1
    have r0 : ((w1.alloc (.cells #[.slice (some ⟨g, 0, none⟩) m m, .int .i64 0, .slice none 0 0] 33)).drewN nq).cell? ⟨w1.heap.size, 0, none⟩ = some (.slice (some ⟨g, 0, none⟩) m m) := q0 nq
    have r1 : ((w1.alloc (.cells #[.slice (some ⟨g, 0, none⟩) m m, .int .i64 0, .slice none 0 0] 33)).drewN nq).cell? ⟨w1.heap.size, 1, none⟩ = some (.int .i64 0) := q1 nq
    have r2 : ((w1.alloc (.cells #[.slice (some ⟨g, 0, none⟩) m m, .int .i64 0, .slice none 0 0] 33)).drewN nq).cell? ⟨w1.heap.size, 2, none⟩ = some (.slice none 0 0) := q2 nq
    have V : Aside (SetAt ((w1.alloc (.cells #[.slice (some ⟨g, 0, none⟩) m m, .int .i64 0, .slice none 0 0] 33)).drewN nq) g m T R ∧ Below w.heap.size w ((w1.alloc (.cells #[.slice (some ⟨g, 0, none⟩) m m, .int .i64 0, .slice none 0 0] 33)).drewN nq) ∧ True) := ⟨(W.out nq).1, (W.out nq).2, trivial⟩
    clear q0 q1 q2 W
    generalize (w1.alloc (.cells #[.slice (some ⟨g, 0, none⟩) m m, .int .i64 0, .slice none 0 0] 33)).drewN nq = v at r0 r1 r2 V ⊢
    generalize (⟨(T j).toArray⟩ : ByteArray) = qs
    go_loopg [11, 44] m (fun gk s11 s44 wr => ∃ k : Nat, k ≤ m ∧ m - k ≤ gk ∧ s44 = .int .i64 k ∧ s11 = .pointer none ∧ Aside (wr = v ∧ ∀ j, j < k → T j ≠ qs.data.toList))
    case atStart => exact ⟨0, Nat.zero_le _, Nat.le_refl _, rfl, rfl, rfl, fun j hj => absurd hj (Nat.not_lt_zero _)⟩
    case round =>
      obtain ⟨k, hk, hg, rfl, rfl, X⟩ := hrel
      obtain ⟨hwr, hno⟩ := X.out
      clear X
      subst hwr
      have NO : Aside (∀ j, j < k → T j ≠ qs.data.toList) := hno
      clear hno
      by_cases hkm : k < m
      · have c1 := (V.out.1 k hkm).1
        have c2 := (V.out.1 k hkm).2.2.1
        unfold encStr at c2
        by_cases hTk : T k = qs.data.toList
        · have hd : ((⟨(T k).toArray⟩ : ByteArray).toList == qs.toList) = true := by rw [same_bytes]; simp [hTk]
          have ANS : Aside (Answer m T R qs (some ⟨R k, 0, none⟩)) := .inl ⟨k, hkm, hTk, rfl⟩
          clear hTk NO
          generalize (⟨(T k).toArray⟩ : ByteArray) = tk at c2 hd
          generalize R k = rk at c1 c2 ANS
          go_wp2_with fail
          refine (record_any g m T R qs _ hm V.out.1 A.out.2.1 _ ANS.out).mono ?_
          rintro e w' ⟨rfl, hb⟩
          have B : Aside (Below w.heap.size w w') := V.out.2.1.trans (hb.mono V.out.2.1.size)
          clear hb
          go_wp2
          go_ret
          exact ⟨rfl, B.out⟩
        · have hd : ((⟨(T k).toArray⟩ : ByteArray).toList == qs.toList) = false := by rw [same_bytes]; simp [hTk]
          have NX : Aside (∀ j, j < k + 1 → T j ≠ qs.data.toList) := fun j hj => by
            by_cases e : j = k
            · rw [e]; exact hTk
            · exact NO.out j (by omega)
          clear hTk NO
          generalize (⟨(T k).toArray⟩ : ByteArray) = tk at c2 hd
          generalize R k = rk at c1 c2
          go_wp2
          go_roundg (m - (k + 1))
          case measure => omega
          case rel => exact ⟨k + 1, by omega, Nat.le_refl _, by go_num, rfl, rfl, NX.out⟩
      · obtain rfl : k = m := by omega
        have ANS : Aside (Answer k T R qs none) := .inr ⟨NO.out, rfl⟩
        clear NO
        go_wp2_with fail
        refine (record_any g k T R qs _ hm V.out.1 A.out.2.1 _ ANS.out).mono ?_
        rintro e w' ⟨rfl, hb⟩
        have B : Aside (Below w.heap.size w w') := V.out.2.1.trans (hb.mono V.out.2.1.size)
        clear hb
        go_wp2
        go_ret
        exact ⟨rfl, B.out⟩

end Go.Proofs.Ybulkakow.Rec
