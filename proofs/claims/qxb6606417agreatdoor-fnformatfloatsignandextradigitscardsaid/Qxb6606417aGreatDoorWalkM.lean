import Derived.Test.Qxb6606417aGreatDoorWalkL
namespace Go.Proofs.Qxb6606417aGreatDoor
open Go.RowKit Go.PlainAid
set_option linter.unusedVariables false
set_option linter.unusedSimpArgs false
set_option maxRecDepth 100000

/-- What 'binaryParts' answers. -/
def PartsAre (V : Nat) (bt : Int) (M : Nat) (q : Int) (nar : Bool) : Prop := ∀ W : World, Calls Tryz.prog 38 #[.float .f64 V, .int .i64 bt] W fun e w' => e = .returned (.tuple #[.int .u64 M, .int .i64 q, .bool nar]) ∧ w' = W

set_option maxHeartbeats 1000000 in
theorem atEnd_walk (V : Nat) (bt : Int) (M : Nat) (q : Int) (nar : Bool) (d : Nat) (k : Int) (w : World) (E : Env w) (hP : PartsAre V bt M q nar) (hM : 0 < M) (hM2 : M < 9007199254740992) (hq1 : -2000 ≤ q) (hq2 : q ≤ 2000) (hd : 0 < d) (hd2 : d < 18446744073709551616) (hk1 : -2000 ≤ k) (hk2 : k ≤ 2000) :
    Calls Tryz.prog 20 #[.float .f64 V, .int .i64 bt, .agg #[.int .u64 d, .int .i64 k]] w fun e w' => e = .returned (.bool (atEndN M q nar d k)) ∧ Below w.heap.size w w' := by
  have k39 : ∀ (sg : Nat) (e : Int) (W : World), Below w.heap.size w W → 0 < sg → sg < 18446744073709551616 → -3000 ≤ e → e ≤ 3000 → Calls Tryz.prog 39 #[.agg #[.int .u64 d, .int .i64 k], .int .u64 sg, .int .i64 e] W fun en w' => en = .returned (.bool (equalsN d k sg e)) ∧ Below W.heap.size W w' := fun sg e W h a1 a2 a3 a4 => equals_walk d k sg e W (E.later h) hd hd2 a1 a2 (by omega) (by omega) a3 a4
  have m1 : (2 : Int) * (M : Int) + 1 = ((2 * M + 1 : Nat) : Int) := by omega
  have m2 : (4 : Int) * (M : Int) - 1 = ((4 * M - 1 : Nat) : Int) := by omega
  have m3 : (2 : Int) * (M : Int) - 1 = ((2 * M - 1 : Nat) : Int) := by omega
  obtain ⟨r1, hr1⟩ : ∃ r, equalsN d k (2 * M + 1) (q - 1) = r := ⟨_, rfl⟩
  obtain ⟨r2, hr2⟩ : ∃ r, equalsN d k (4 * M - 1) (q - 2) = r := ⟨_, rfl⟩
  obtain ⟨r3, hr3⟩ : ∃ r, equalsN d k (2 * M - 1) (q - 1) = r := ⟨_, rfl⟩
  have x1 : ∀ W : World, Below w.heap.size w W → Calls Tryz.prog 39 #[.agg #[.int .u64 d, .int .i64 k], .int .u64 (2 * (M : Int) + 1), .int .i64 (q - 1)] W fun en w' => en = .returned (.bool r1) ∧ Below W.heap.size W w' := fun W h => by
    rw [m1, ← hr1]; exact k39 _ _ W h (by omega) (by omega) (by omega) (by omega)
  have x2 : ∀ W : World, Below w.heap.size w W → Calls Tryz.prog 39 #[.agg #[.int .u64 d, .int .i64 k], .int .u64 (4 * (M : Int) - 1), .int .i64 (q - 2)] W fun en w' => en = .returned (.bool r2) ∧ Below W.heap.size W w' := fun W h => by
    rw [m2, ← hr2]; exact k39 _ _ W h (by omega) (by omega) (by omega) (by omega)
  have x3 : ∀ W : World, Below w.heap.size w W → Calls Tryz.prog 39 #[.agg #[.int .u64 d, .int .i64 k], .int .u64 (2 * (M : Int) - 1), .int .i64 (q - 1)] W fun en w' => en = .returned (.bool r3) ∧ Below W.heap.size W w' := fun W h => by
    rw [m3, ← hr3]; exact k39 _ _ W h (by omega) (by omega) (by omega) (by omega)
  have hat : atEndN M q nar d k = (r1 || (if nar then r2 else r3)) := by unfold atEndN; rw [hr1, hr2, hr3]
  rw [hat]
  have X1 : Hid _ := x1
  have X2 : Hid _ := x2
  have X3 : Hid _ := x3
  have KP : Hid (PartsAre V bt M q nar) := hP
  clear x1 x2 x3 hat hr1 hr2 hr3 m1 m2 m3 k39 hP E
  have hB1 : Below w.heap.size w (w.alloc (.cells #[.int .u64 d, .int .i64 k] 31)) := (Below.refl _ _).alloc (Nat.le_refl _) _
  have HB1 : Hid _ := hB1
  clear hB1
  cases r1 with
  | true =>
    rw [Bool.true_or]
    go_enter Tryz.func20, Tryz.ntmps20
    go_wp2_with (first
      | (go_at_call 38; refine (KP.out _).mono ?_; rintro en w' ⟨rfl, hw⟩; subst hw)
      | (go_at_call 39; refine (X1.out _ HB1.out).mono ?_; rintro en w2 ⟨rfl, hB⟩; have B2 : Hid (Below w.heap.size w w2) := HB1.out.trans (hB.mono (by simp)); have D2 : Hid (DecIn w2 w.heap.size d k) := (show DecIn (w.alloc _) w.heap.size d k from heap_new' w _).below hB (by simp); clear hB; have g0 := D2.out.c0; have g1 := D2.out.c1))
    go_ret
    exact ⟨rfl, B2.out⟩
  | false =>
    rw [Bool.false_or]
    cases nar with
    | true =>
      rw [if_pos rfl]
      go_enter Tryz.func20, Tryz.ntmps20
      go_upto_region 4 with (first
        | (go_at_call 38; refine (KP.out _).mono ?_; rintro en w' ⟨rfl, hw⟩; subst hw)
        | (go_at_call 39; refine (X1.out _ HB1.out).mono ?_; rintro en w2 ⟨rfl, hB⟩; have B2 : Hid (Below w.heap.size w w2) := HB1.out.trans (hB.mono (by simp)); have D2 : Hid (DecIn w2 w.heap.size d k) := (show DecIn (w.alloc _) w.heap.size d k from heap_new' w _).below hB (by simp); clear hB; have g0 := D2.out.c0; have g1 := D2.out.c1))
      go_wp2_with (go_at_call 39; refine (X2.out _ B2.out).mono ?_; rintro en w3 ⟨rfl, hB⟩; have B3 : Hid (Below w.heap.size w w3) := B2.out.trans (hB.mono B2.out.size); clear hB)
      go_ret
      exact ⟨rfl, B3.out⟩
    | false =>
      rw [if_neg (by decide)]
      go_enter Tryz.func20, Tryz.ntmps20
      go_upto_region 4 with (first
        | (go_at_call 38; refine (KP.out _).mono ?_; rintro en w' ⟨rfl, hw⟩; subst hw)
        | (go_at_call 39; refine (X1.out _ HB1.out).mono ?_; rintro en w2 ⟨rfl, hB⟩; have B2 : Hid (Below w.heap.size w w2) := HB1.out.trans (hB.mono (by simp)); have D2 : Hid (DecIn w2 w.heap.size d k) := (show DecIn (w.alloc _) w.heap.size d k from heap_new' w _).below hB (by simp); clear hB; have g0 := D2.out.c0; have g1 := D2.out.c1))
      go_wp2_with (go_at_call 39; refine (X3.out _ B2.out).mono ?_; rintro en w3 ⟨rfl, hB⟩; have B3 : Hid (Below w.heap.size w w3) := B2.out.trans (hB.mono B2.out.size); clear hB)
      go_ret
      exact ⟨rfl, B3.out⟩

/-- Is M * 2^q halfway between the decimal and one beside it? -/
def tiedN (M : Nat) (q : Int) (d : Nat) (k : Int) : Bool := equalsN (10 * d - 5) (k - 1) M q || equalsN (10 * d + 5) (k - 1) M q
set_option maxHeartbeats 1000000 in
theorem tied_walk (V : Nat) (bt : Int) (M : Nat) (q : Int) (nar : Bool) (d : Nat) (k : Int) (w : World) (E : Env w) (hP : PartsAre V bt M q nar) (hM : 0 < M) (hM2 : M < 9007199254740992) (hq1 : -2000 ≤ q) (hq2 : q ≤ 2000) (hd : 0 < d) (hd2 : d < 1000000000000000000) (hk1 : -2000 ≤ k) (hk2 : k ≤ 2000) :
    Calls Tryz.prog 21 #[.float .f64 V, .int .i64 bt, .agg #[.int .u64 d, .int .i64 k]] w fun e w' => e = .returned (.bool (tiedN M q d k)) ∧ Below w.heap.size w w' := by
  have m1 : (10 : Int) * (d : Int) - 5 = ((10 * d - 5 : Nat) : Int) := by omega
  have m2 : (10 : Int) * (d : Int) + 5 = ((10 * d + 5 : Nat) : Int) := by omega
  obtain ⟨r1, hr1⟩ : ∃ r, equalsN (10 * d - 5) (k - 1) M q = r := ⟨_, rfl⟩
  obtain ⟨r2, hr2⟩ : ∃ r, equalsN (10 * d + 5) (k - 1) M q = r := ⟨_, rfl⟩
  have x1 : ∀ W : World, Below w.heap.size w W → Calls Tryz.prog 39 #[.agg #[.int .u64 (10 * (d : Int) - 5), .int .i64 (k - 1)], .int .u64 M, .int .i64 q] W fun en w' => en = .returned (.bool r1) ∧ Below W.heap.size W w' := fun W h => by
    rw [m1, ← hr1]; exact equals_walk _ _ _ _ W (E.later h) (by omega) (by omega) hM (by omega) (by omega) (by omega) (by omega) (by omega)
  have x2 : ∀ W : World, Below w.heap.size w W → Calls Tryz.prog 39 #[.agg #[.int .u64 (10 * (d : Int) + 5), .int .i64 (k - 1)], .int .u64 M, .int .i64 q] W fun en w' => en = .returned (.bool r2) ∧ Below W.heap.size W w' := fun W h => by
    rw [m2, ← hr2]; exact equals_walk _ _ _ _ W (E.later h) (by omega) (by omega) hM (by omega) (by omega) (by omega) (by omega) (by omega)
  have hat : tiedN M q d k = (r1 || r2) := by unfold tiedN; rw [hr1, hr2]
  rw [hat]
  have X1 : Hid _ := x1
  have X2 : Hid _ := x2
  have KP : Hid (PartsAre V bt M q nar) := hP
  clear x1 x2 hat hr1 hr2 m1 m2 hP E
  have hB1 : Below w.heap.size w (((w.alloc (.cells #[.int .u64 d, .int .i64 k] 31)).alloc (.cells #[.int .u64 (10 * (d : Int) - 5), .int .i64 (k - 1)] 31)).alloc (.cells #[.int .u64 (10 * (d : Int) + 5), .int .i64 (k - 1)] 31)) := (((Below.refl _ _).alloc (Nat.le_refl _) _).alloc (by simp) _).alloc (by simp; omega) _
  have HC2 : Hid ((((w.alloc (.cells #[.int .u64 d, .int .i64 k] 31)).alloc (.cells #[.int .u64 (10 * (d : Int) - 5), .int .i64 (k - 1)] 31)).alloc (.cells #[.int .u64 (10 * (d : Int) + 5), .int .i64 (k - 1)] 31)).heap[w.heap.size + 2]? = some (.cells #[.int .u64 (10 * (d : Int) + 5), .int .i64 (k - 1)] 31)) := by
    have := heap_new' ((w.alloc (.cells #[.int .u64 d, .int .i64 k] 31)).alloc (.cells #[.int .u64 (10 * (d : Int) - 5), .int .i64 (k - 1)] 31)) (.cells #[.int .u64 (10 * (d : Int) + 5), .int .i64 (k - 1)] 31)
    refine Lib.hid ?_
    simpa using this
  have HB1 : Hid _ := hB1
  clear hB1
  cases r1 with
  | true =>
    rw [Bool.true_or]
    go_enter Tryz.func21, Tryz.ntmps21
    go_wp2_with (first
      | (go_at_call 38; refine (KP.out _).mono ?_; rintro en w' ⟨rfl, hw⟩; subst hw)
      | (go_at_call 39; refine (X1.out _ HB1.out).mono ?_; rintro en w2 ⟨rfl, hB⟩; have B2 : Hid (Below w.heap.size w w2) := HB1.out.trans (hB.mono (by simp; omega)); clear hB))
    go_ret
    exact ⟨rfl, B2.out⟩
  | false =>
    rw [Bool.false_or]
    go_enter Tryz.func21, Tryz.ntmps21
    go_wp2_with (first
      | (go_at_call 38; refine (KP.out _).mono ?_; rintro en w' ⟨rfl, hw⟩; subst hw)
      | (go_at_call 39; refine (X2.out _ B2.out).mono ?_; rintro en w3 ⟨rfl, hB⟩; have B3 : Hid (Below w.heap.size w w3) := B2.out.trans (hB.mono B2.out.size); clear hB)
      | (go_at_call 39; refine (X1.out _ HB1.out).mono ?_; rintro en w2 ⟨rfl, hB⟩; have B2 : Hid (Below w.heap.size w w2) := HB1.out.trans (hB.mono (by simp; omega)); have hblk := hB.block (w.heap.size + 2) (by simp); rw [HC2.out] at hblk; have g0 : w2.cell? ⟨w.heap.size + 2, 0, none⟩ = some (.int .u64 (10 * (d : Int) + 5)) := (by rw [Lib.cell_of_heap hblk]; rfl); have g1 : w2.cell? ⟨w.heap.size + 2, 1, none⟩ = some (.int .i64 (k - 1)) := (by rw [Lib.cell_of_heap hblk]; rfl); clear hB hblk))
    go_ret
    exact ⟨rfl, B3.out⟩
end Go.Proofs.Qxb6606417aGreatDoor
