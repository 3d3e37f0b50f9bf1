import Derived.Test.Qxb6606417aGreatDoorNum17
namespace Go.Proofs.Qxb6606417aGreatDoor
set_option linter.unusedVariables false
set_option linter.unusedSimpArgs false
set_option maxRecDepth 100000
open Ieee

theorem swS : Ieee.single.signWeight = 2147483648 := by decide
theorem infS : Ieee.single.infRung = 2139095040 := by decide
theorem binS : Ieee.single.binade = 8388608 := by decide
/-- A single below zero. -/
theorem read_sneg {s : Nat} (h : s < 2147483648) : (∃ m e, FloatKind.f32.decode (2147483648 + s) = .number true m e) ∨ FloatKind.f32.decode (2147483648 + s) = .infinity true ∨ ∃ p, FloatKind.f32.decode (2147483648 + s) = .nan true p := by
  show (∃ m e, Ieee.single.read (2147483648 + s) = .number true m e) ∨ Ieee.single.read (2147483648 + s) = .infinity true ∨ ∃ p, Ieee.single.read (2147483648 + s) = .nan true p
  unfold Ieee.Format.read
  rw [swS, infS, binS]
  have e1 : (2147483648 + s) / 2147483648 % 2 = 1 := by omega
  have e2 : (2147483648 + s) % 2147483648 = s := by omega
  simp only [e1, e2]
  by_cases h1 : s < 8388608
  · rw [if_pos h1]; exact .inl ⟨_, _, rfl⟩
  · rw [if_neg h1]
    by_cases h2 : s < 2139095040
    · rw [if_pos h2]; exact .inl ⟨_, _, rfl⟩
    · rw [if_neg h2]
      by_cases h3 : s = 2139095040
      · rw [if_pos h3]; exact .inr (.inl rfl)
      · rw [if_neg h3]; exact .inr (.inr ⟨_, rfl⟩)
theorem read_snan {s : Nat} (h1 : 2139095040 < s) (h : s < 2147483648) : ∃ p, FloatKind.f32.decode s = .nan false p := by
  show ∃ p, Ieee.single.read s = .nan false p
  unfold Ieee.Format.read
  rw [swS, infS, binS]
  have e1 : s / 2147483648 % 2 = 0 := by omega
  have e2 : s % 2147483648 = s := by omega
  simp only [e1, e2]
  rw [if_neg (by omega), if_neg (by omega), if_neg (by omega)]
  exact ⟨_, rfl⟩
theorem near_neg (m : Nat) (e : Int) : ∃ x, x ≤ 9218868437227405312 ∧ Ieee.double.nearest true m e = 9223372036854775808 + x := by
  unfold Ieee.Format.nearest
  split
  · exact ⟨0, by omega, word_neg 0⟩
  · refine ⟨_, ?_, word_neg _⟩
    rw [infD]
    exact Nat.min_le_right _ _
/-- Where a double is too great for a single, no single widens to it. -/
theorem wid_ne {V r u : Nat} (h0 : 0 < V) (hV : V < 9218868437227405312) (hr : r < 4294967296) (hn : floatToFloatBits .f64 V .f32 = none) (hu : floatToFloatBits .f32 r .f64 = some u) : (Ieee.double.order u V == some Ordering.eq) = false := by
  by_cases hs : r < 2147483648
  · by_cases hz : r = 0
    · subst hz
      have : u = 0 := by
        have e : floatToFloatBits .f32 0 .f64 = some 0 := by decide
        rw [e] at hu; exact (Option.some.inj hu).symm
      subst this
      cases hb : (Ieee.double.order 0 V == some Ordering.eq) with
      | false => rfl
      | true =>
        exfalso
        have h' := eq_of_beq hb
        unfold Ieee.Format.order at h'
        rw [read_zero, read_pos hV] at h'
        have hsg := sig_pos (mb := 52) h0
        simp only [Ieee.Datum.order, Ieee.signed, Option.some.injEq, Bool.false_eq_true, if_false] at h'
        rw [Int.compare_eq_eq, shl_eq, shl_eq, Nat.zero_mul] at h'
        have : 0 < sigW 52 V * 2 ^ (plW 52 (-1074) V - min (-1074) (plW 52 (-1074) V)).toNat := Nat.mul_pos hsg (Nat.pow_pos (by omega))
        omega
    · rcases Nat.lt_trichotomy r 2139095040 with hi | hi | hi
      · obtain ⟨u', hu', p1, p2, p3⟩ := wid_value (r := r) (by omega) hi
        rw [hu'] at hu
        obtain rfl := Option.some.inj hu
        cases hb : (Ieee.double.order u' V == some Ordering.eq) with
        | false => rfl
        | true =>
          exfalso
          have hv := order_eq_bv okD p1 (show u' < Ieee.double.infRung from p2) h0 (show V < Ieee.double.infRung from hV) (eq_of_beq hb)
          have := nar_value h0 hV (r := r) (by omega) hi (by rw [← hv, p3])
          rw [this] at hn
          cases hn
      · subst hi
        have : u = 9218868437227405312 := by
          have e : floatToFloatBits .f32 2139095040 .f64 = some 9218868437227405312 := by decide
          rw [e] at hu; exact (Option.some.inj hu).symm
        subst this
        unfold Ieee.Format.order
        rw [read_inf, read_pos hV]
        rfl
      · obtain ⟨p, hp⟩ := read_snan hi hs
        unfold floatToFloatBits at hu
        rw [if_neg (by decide), hp] at hu
        cases hu
  · obtain ⟨s, rfl⟩ : ∃ s, r = 2147483648 + s := ⟨r - 2147483648, by omega⟩
    unfold floatToFloatBits at hu
    rw [if_neg (by decide)] at hu
    rcases read_sneg (s := s) (by omega) with ⟨m, e, h⟩ | h | ⟨p, h⟩
    · rw [h] at hu
      obtain ⟨x, hx, hw⟩ := near_neg m e
      have : u = 9223372036854775808 + x := by
        simp only at hu
        split at hu
        · cases hu
        · rw [← Option.some.inj hu]; exact hw
      rw [this]
      exact neg_ne hx h0 hV
    · rw [h] at hu
      have : u = 9223372036854775808 + 9218868437227405312 := by rw [← Option.some.inj hu]; decide
      rw [this]
      exact neg_ne (Nat.le_refl _) h0 hV
    · rw [h] at hu
      cases hu
/-- Of a double that narrows: the single, if widening gives the double back. -/
theorem nar_some {V v : Nat} (h0 : 0 < V) (hV : V < 9218868437227405312) (hn : floatToFloatBits .f64 V .f32 = some v) : v < 2139095040 := by
  unfold floatToFloatBits at hn
  rw [if_neg (by decide), rd64 hV] at hn
  simp only at hn
  split at hn
  · cases hn
  · rename_i hinf
    have hv : Ieee.single.nearest false (sigW 52 V) (plW 52 (-1074) V) = v := Option.some.inj hn
    have hinf' : ¬ (FloatKind.f32.decode (Ieee.single.nearest false (sigW 52 V) (plW 52 (-1074) V))).isInfinity = true := hinf
    rw [hv] at hinf'
    have hle : v ≤ 2139095040 := by
      rw [← hv]
      unfold Ieee.Format.nearest
      have hw : ∀ x, Ieee.single.word false x = x := fun x => by
        unfold Ieee.Format.word
        simp
      split
      · rw [hw]; omega
      · rw [hw, infS]; exact Nat.min_le_right _ _
    by_cases he : v = 2139095040
    · exfalso; subst he; exact hinf' (by decide)
    · omega
end Go.Proofs.Qxb6606417aGreatDoor
