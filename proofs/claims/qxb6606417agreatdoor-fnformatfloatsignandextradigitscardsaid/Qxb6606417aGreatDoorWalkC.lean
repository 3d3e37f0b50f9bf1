import Derived.Test.Qxb6606417aGreatDoorWalkB
import Derived.Laws.CopyRow
namespace Go.Proofs.Qxb6606417aGreatDoor
open Go.RowKit Go.PlainAid
set_option linter.unusedVariables false
set_option maxRecDepth 100000

/-- The scaler in block b. -/
def ScAt (w : World) (b : Nat) (hi lo : Nat) (s : Int) : Prop := w.heap[b]? = some (.cells #[.int .u64 hi, .int .u64 lo, .int .i64 s] 141 (0, 0))
theorem setB_heap {w : World} {b : Nat} {c : Array Value} {T : TypeId} (i : Nat) (v : Value) (h : w.heap[b]? = some (.cells c T (0, 0))) : (w.setCell ⟨b, i, none⟩ v).heap[b]? = some (.cells (c.setIfInBounds i v) T (0, 0)) := by
  rw [setCell_eq_setRow w b i c T (0, 0) v h]
  exact setRow_heap w b c _ T (0, 0) h
theorem prescale_walk (b i : Nat) (e p lp s : Int) (c0 c1 c2 : Value) (w : World) (E : Env w) (hb : w.heap[b]? = some (.cells #[c0, c1, c2] 141 (0, 0))) (hi : i < 696) (hp : p = i - 348) (he1 : -100000 ≤ e) (he2 : e ≤ 100000) (hl1 : -100000 ≤ lp) (hl2 : lp ≤ 100000) (hb20 : 7 < b) (hs : s = -(e + lp + 3)) :
    Calls Tryz.prog 112 #[.pointer (some ⟨b, 0, none⟩), .int .i64 e, .int .i64 p, .int .i64 lp] w fun en w' => en = .returned (.tuple #[]) ∧ ScAt w' b (rowAt i).1 (rowAt i).2 s ∧ w'.heap.size = w.heap.size ∧ Below b w w' := by
  subst hp
  obtain ⟨t1, t2⟩ := E.tab i hi
  have c0' : w.cell? ⟨b, 0, none⟩ = some c0 := by rw [Lib.cell_of_heap hb]; rfl
  have c1' : w.cell? ⟨b, 1, none⟩ = some c1 := by rw [Lib.cell_of_heap hb]; rfl
  have c2' : w.cell? ⟨b, 2, none⟩ = some c2 := by rw [Lib.cell_of_heap hb]; rfl
  have f0 : w.frozen? ⟨b, 0, none⟩ = false := Lib.frozen_of_heap hb 0
  have f1 : w.frozen? ⟨b, 1, none⟩ = false := Lib.frozen_of_heap hb 1
  have f2 : w.frozen? ⟨b, 2, none⟩ = false := Lib.frozen_of_heap hb 2
  obtain ⟨x, hx⟩ : ∃ x, (rowAt i).1 = x := ⟨_, rfl⟩
  obtain ⟨y, hy⟩ : ∃ y, (rowAt i).2 = y := ⟨_, rfl⟩
  rw [hx] at t1 ⊢
  rw [hy] at t2 ⊢
  clear hx hy
  have hne : ¬ (b = 7) := by omega
  have hne' : ¬ (7 = b) := by omega
  have HB : Hid (w.heap[b]? = some (.cells #[c0, c1, c2] 141 (0, 0))) := hb
  clear hb E
  go_enter Tryz.func112, Tryz.ntmps112
  go_wp2
  go_end0
  subst hs
  refine ⟨rfl, setB_heap 2 _ (setB_heap 1 _ (setB_heap 0 _ HB.out)), by simp [World.setCell], ?_⟩
  exact (((Below.refl b w).setCell (by simp) _).setCell (by simp) _).setCell (by simp) _
theorem and63 (s : Nat) (h : s < 64) : bits .and .i64 (s : Int) 63 = (s : Int) := by
  have : ∀ s : Fin 64, bits .and .i64 ((s : Nat) : Int) 63 = ((s : Nat) : Int) := by decide +kernel
  exact this ⟨s, h⟩
theorem uscale_cases (x hi lo s h mid mid2 T q q1 : Nat) (e1 : x * hi / 18446744073709551616 = h) (e2 : x * hi % 18446744073709551616 = mid) (e3 : x * lo / 18446744073709551616 = mid2) (e4 : 2 ^ s = T) (e5 : h / T = q) (e6 : (h - 1) / T = q1) :
    uscaleN x hi lo s = if q * T ≠ h then q ||| 1 else (if mid < mid2 then q1 ||| (if 1 < mid + 18446744073709551616 - mid2 then 1 else 0) else q ||| (if 1 < mid - mid2 then 1 else 0)) := by
  unfold uscaleN
  have h64 : (2 : Nat) ^ 64 = 18446744073709551616 := by decide
  simp only [h64, e1, e2, e3, e4, e5]
  by_cases h1 : q * T ≠ h
  · rw [if_pos h1, if_pos h1]
  · rw [if_neg h1, if_neg h1]
    by_cases h2 : mid < mid2
    · simp only [if_pos h2, e6]
    · simp only [if_neg h2, e5]
set_option maxHeartbeats 1000000 in
theorem uscale_walk (b x hi lo s : Nat) (w : World) (hb : ScAt w b hi lo s) (hx : x < 18446744073709551616) (hhi : hi < 18446744073709551616) (hlo : lo < 18446744073709551616) (hs : s < 64) (hh : 1 ≤ x * hi / 18446744073709551616) :
    Calls Tryz.prog 114 #[.int .u64 x, .pointer (some ⟨b, 0, none⟩)] w fun en w' => en = .returned (.int .u64 (uscaleN x hi lo s : Nat)) ∧ ∃ m, w' = w.drewN m := by
  have c0 : w.cell? ⟨b, 0, none⟩ = some (.int .u64 hi) := by rw [Lib.cell_of_heap hb]; rfl
  have c1 : w.cell? ⟨b, 1, none⟩ = some (.int .u64 lo) := by rw [Lib.cell_of_heap hb]; rfl
  have c2 : w.cell? ⟨b, 2, none⟩ = some (.int .i64 s) := by rw [Lib.cell_of_heap hb]; rfl
  have a63 := and63 s hs
  obtain ⟨h, hhd⟩ : ∃ h, x * hi / 18446744073709551616 = h := ⟨_, rfl⟩
  obtain ⟨mid, hmid⟩ : ∃ mid, x * hi % 18446744073709551616 = mid := ⟨_, rfl⟩
  obtain ⟨mid2, hmid2⟩ : ∃ mid2, x * lo / 18446744073709551616 = mid2 := ⟨_, rfl⟩
  obtain ⟨mid3, hmid3⟩ : ∃ mid2, x * lo % 18446744073709551616 = mid2 := ⟨_, rfl⟩
  obtain ⟨T, hT⟩ : ∃ T, 2 ^ s = T := ⟨_, rfl⟩
  obtain ⟨q, hq⟩ : ∃ q, h / T = q := ⟨_, rfl⟩
  obtain ⟨q1, hq1⟩ : ∃ q, (h - 1) / T = q := ⟨_, rfl⟩
  have hlt : h < 18446744073709551616 := by
    rw [← hhd]; exact Nat.div_lt_of_lt_mul (Nat.mul_lt_mul'' hx hhi)
  have hlt2 : mid2 < 18446744073709551616 := by
    rw [← hmid2]; exact Nat.div_lt_of_lt_mul (Nat.mul_lt_mul'' hx hlo)
  have hmlt : mid < 18446744073709551616 := by omega
  have hT0 : 0 < T := by rw [← hT]; exact Nat.pow_pos (by omega)
  rw [hhd] at hh
  rw [uscale_cases x hi lo s h mid mid2 T q q1 hhd hmid hmid2 hT hq hq1]
  have m1 : ∀ W : World, Calls Tryz.prog 98 #[.int .u64 x, .int .u64 hi] W fun e w' => e = .returned (.tuple #[.int .u64 (h : Int), .int .u64 (mid : Int)]) ∧ w' = W := fun W => by
    have := Tryz.bits_Mul64 x hi hx hhi W
    rw [hhd, hmid] at this; exact this
  have m2 : ∀ W : World, Calls Tryz.prog 98 #[.int .u64 x, .int .u64 lo] W fun e w' => e = .returned (.tuple #[.int .u64 (mid2 : Int), .int .u64 (mid3 : Int)]) ∧ w' = W := fun W => by
    have := Tryz.bits_Mul64 x lo hx hlo W
    rw [hmid2, hmid3] at this; exact this
  have M1 : Hid (∀ W : World, Calls Tryz.prog 98 #[.int .u64 x, .int .u64 hi] W fun e w' => e = .returned (.tuple #[.int .u64 (h : Int), .int .u64 (mid : Int)]) ∧ w' = W) := m1
  have M2 : Hid (∀ W : World, Calls Tryz.prog 98 #[.int .u64 x, .int .u64 lo] W fun e w' => e = .returned (.tuple #[.int .u64 (mid2 : Int), .int .u64 (mid3 : Int)]) ∧ w' = W) := m2
  have hql : q ≤ h := by rw [← hq]; exact Nat.div_le_self _ _
  have hql1 : q1 ≤ h := by rw [← hq1]; exact Nat.le_trans (Nat.div_le_self _ _) (by omega)
  have t1 : (2 : Int) ^ s = (T : Int) := by rw [← hT]; norm_cast
  have t2 : (h : Int) / (T : Int) = (q : Int) := by rw [← hq]; norm_cast
  have t3 : ((h : Int) - 1) / (T : Int) = (q1 : Int) := by rw [← hq1, show ((h : Int) - 1) = ((h - 1 : Nat) : Int) from by omega]; norm_cast
  have t4 : min s 64 = s := by omega
  obtain ⟨qt, hqt⟩ : ∃ qt, q * T = qt := ⟨_, rfl⟩
  have hqtl : qt ≤ h := by rw [← hqt, ← hq]; exact Nat.div_mul_le_self _ _
  have t5 : (q : Int) * (T : Int) = (qt : Int) := by rw [← hqt]; norm_cast
  rw [hqt]
  clear hb hhd hmid hmid2 hmid3 hT hq hq1 hqt m1 m2
  have o1 : bits .or .u64 (q : Int) 1 = ((q ||| 1 : Nat) : Int) := u64_or_nat q 1 (by omega) (by omega)
  have o2 : bits .or .u64 (q : Int) 0 = ((q ||| 0 : Nat) : Int) := u64_or_nat q 0 (by omega) (by omega)
  have o3 : bits .or .u64 (q1 : Int) 1 = ((q1 ||| 1 : Nat) : Int) := u64_or_nat q1 1 (by omega) (by omega)
  have o4 : bits .or .u64 (q1 : Int) 0 = ((q1 ||| 0 : Nat) : Int) := u64_or_nat q1 0 (by omega) (by omega)
  by_cases hd : qt ≠ h
  · rw [if_pos hd]
    have hd' : ((qt : Int) != (h : Int)) = true := by simp; omega
    go_enter Tryz.func114, Tryz.ntmps114
    go_wp2_with (first
      | (go_at_call 98; refine (M1.out _).mono ?_; rintro e w' ⟨rfl, hw⟩; subst hw))
    go_ret
    exact ⟨rfl, 0, rfl⟩
  rw [if_neg hd]
  have hd' : ((qt : Int) != (h : Int)) = false := by simp; omega
  by_cases hm : mid < mid2
  · rw [if_pos hm]
    have hm' : decide ((mid : Int) < (mid2 : Int)) = true := by simp; omega
    obtain ⟨D, hD⟩ : ∃ D : Nat, mid + 18446744073709551616 - mid2 = D := ⟨_, rfl⟩
    have hsub : IntKind.u64.wrap ((mid : Int) - (mid2 : Int)) = (D : Int) := by rw [IntKind.wrap_u64]; omega
    rw [hD]
    clear hD
    by_cases h1 : 1 < D
    · rw [if_pos h1]
      have h1' : decide ((1 : Int) < (D : Int)) = true := by simp; omega
      go_enter Tryz.func114, Tryz.ntmps114
      go_upto_region 5 with (go_at_call 98; refine (M1.out _).mono ?_; rintro e w' ⟨rfl, hw⟩; subst hw)
      go_upto_region 6 with (go_at_call 98; refine (M2.out _).mono ?_; rintro e w' ⟨rfl, hw⟩; subst hw)
      go_upto_region 7 with (go_at_call 138; refine (bool2u_walk true _).mono ?_; rintro e w' ⟨rfl, hw⟩; subst hw)
      go_quiet ((go_at_call 138; exact Calls.quiet_of_same (bool2u_walk true _)))
      go_wp2
      go_ret
      exact ⟨rfl, _, rfl⟩
    · rw [if_neg h1]
      have h1' : decide ((1 : Int) < (D : Int)) = false := by simp; omega
      go_enter Tryz.func114, Tryz.ntmps114
      go_upto_region 5 with (go_at_call 98; refine (M1.out _).mono ?_; rintro e w' ⟨rfl, hw⟩; subst hw)
      go_upto_region 6 with (go_at_call 98; refine (M2.out _).mono ?_; rintro e w' ⟨rfl, hw⟩; subst hw)
      go_upto_region 7 with (go_at_call 138; refine (bool2u_walk true _).mono ?_; rintro e w' ⟨rfl, hw⟩; subst hw)
      go_quiet ((go_at_call 138; exact Calls.quiet_of_same (bool2u_walk false _)))
      go_wp2
      go_ret
      exact ⟨rfl, _, rfl⟩
  · rw [if_neg hm]
    have hm' : decide ((mid : Int) < (mid2 : Int)) = false := by simp; omega
    obtain ⟨D, hD⟩ : ∃ D : Nat, mid - mid2 = D := ⟨_, rfl⟩
    have hsub : IntKind.u64.wrap ((mid : Int) - (mid2 : Int)) = (D : Int) := by rw [IntKind.wrap_u64]; omega
    rw [hD]
    clear hD
    by_cases h1 : 1 < D
    · rw [if_pos h1]
      have h1' : decide ((1 : Int) < (D : Int)) = true := by simp; omega
      go_enter Tryz.func114, Tryz.ntmps114
      go_upto_region 5 with (go_at_call 98; refine (M1.out _).mono ?_; rintro e w' ⟨rfl, hw⟩; subst hw)
      go_upto_region 6 with (go_at_call 98; refine (M2.out _).mono ?_; rintro e w' ⟨rfl, hw⟩; subst hw)
      go_upto_region 7 with (go_at_call 138; refine (bool2u_walk false _).mono ?_; rintro e w' ⟨rfl, hw⟩; subst hw)
      go_quiet ((go_at_call 138; exact Calls.quiet_of_same (bool2u_walk true _)))
      go_wp2
      go_ret
      exact ⟨rfl, _, rfl⟩
    · rw [if_neg h1]
      have h1' : decide ((1 : Int) < (D : Int)) = false := by simp; omega
      go_enter Tryz.func114, Tryz.ntmps114
      go_upto_region 5 with (go_at_call 98; refine (M1.out _).mono ?_; rintro e w' ⟨rfl, hw⟩; subst hw)
      go_upto_region 6 with (go_at_call 98; refine (M2.out _).mono ?_; rintro e w' ⟨rfl, hw⟩; subst hw)
      go_upto_region 7 with (go_at_call 138; refine (bool2u_walk false _).mono ?_; rintro e w' ⟨rfl, hw⟩; subst hw)
      go_quiet ((go_at_call 138; exact Calls.quiet_of_same (bool2u_walk false _)))
      go_wp2
      go_ret
      exact ⟨rfl, _, rfl⟩
end Go.Proofs.Qxb6606417aGreatDoor
