import Derived.Test.Qxb6606417aGreatDoorNum3
import Ieee.Arith
namespace Go.Proofs.Qxb6606417aGreatDoor
set_option linter.unusedVariables false
set_option linter.unusedSimpArgs false
open Ieee

theorem shl_eq (a b : Nat) : a <<< b = a * 2 ^ b := Nat.shiftLeft_eq a b

/-- Rounding to the nearest whole number, away from ties. -/
theorem cut_eq (neg : Bool) (n drop K : Nat) (hn : 2 ^ drop ≤ 4 * n) (h1 : 2 * n < (2 * K + 1) * 2 ^ drop) (h2 : 2 * K * 2 ^ drop < 2 * n + 2 ^ drop) : Toward.even.cut neg n drop = K := by
  have hn0 : n ≠ 0 := fun e => by
    rw [e] at hn
    have := Nat.pow_pos (n := drop) (show 0 < 2 by omega)
    omega
  have hl : drop ≤ n.log2 + 2 := by
    have h3 : n < 2 ^ (n.log2 + 1) := Nat.lt_log2_self
    have h4 : 2 ^ drop < 2 ^ (n.log2 + 3) := by
      calc 2 ^ drop ≤ 4 * n := hn
        _ < 4 * 2 ^ (n.log2 + 1) := by omega
        _ = 2 ^ (n.log2 + 3) := by rw [show n.log2 + 3 = n.log2 + 1 + 2 from rfl, Nat.pow_add 2 (n.log2 + 1) 2]; omega
    have := (Nat.pow_lt_pow_iff_right (a := 2) (by omega)).1 h4
    omega
  unfold Toward.cut
  rw [Nat.min_eq_left hl, shl_eq, Nat.one_mul]
  have hg : 0 < 2 ^ drop := Nat.pow_pos (by omega)
  generalize 2 ^ drop = g at hg h1 h2
  have e := Nat.div_add_mod n g
  have hm := Nat.mod_lt n hg
  obtain ⟨low, hlow⟩ : ∃ low, n / g = low := ⟨_, rfl⟩
  obtain ⟨rest, hrest⟩ : ∃ rest, n % g = rest := ⟨_, rfl⟩
  rw [hlow, hrest] at e
  rw [hrest] at hm
  simp only [hlow, hrest]
  rw [← e] at h1 h2
  -- (2K+1) g > 2 (g low + rest), 2 K g < 2 (g low + rest) + g
  rw [Nat.add_mul, Nat.mul_assoc] at h1
  rw [Nat.mul_assoc] at h2
  rw [Nat.mul_comm g low] at h1 h2
  have hK : K * g < (low + 2) * g := by rw [Nat.add_mul]; omega
  have hK1 := Nat.lt_of_mul_lt_mul_right hK
  have hK2 : low * g < (K + 1) * g := by rw [Nat.add_mul, Nat.one_mul]; omega
  have hK3 := Nat.lt_of_mul_lt_mul_right hK2
  have hc : K = low ∨ K = low + 1 := by omega
  rcases hc with rfl | rfl
  · have a1 : ¬ g < 2 * rest := by omega
    have a2 : ¬ g = 2 * rest := by omega
    simp [a1, a2]
  · rw [Nat.add_mul, Nat.one_mul] at h1 h2
    have a1 : g < 2 * rest := by omega
    simp [a1]
theorem cut_zero (neg : Bool) (n : Nat) : Toward.even.cut neg n 0 = n := by
  unfold Toward.cut
  rw [Nat.zero_min, shl_eq]
  simp
  omega

/-- The rung of M * 2^q. -/
def rungN (mb : Nat) (lm : Int) (M : Nat) (q : Int) : Nat := (q - lm).toNat * 2 ^ mb + M

/-- mag * 2^place lies so near to M * 2^q that it is rounded to it. -/
structure Near (mb : Nat) (M : Nat) (q : Int) (v : Nat) : Prop where
  up : 2 * v < 2 * bv M q + A q * B 0
  lo : 2 * bv M q < 2 * v + A q * B 0
  nar : M = 2 ^ mb → 4 * bv M q < 4 * v + A q * B 0

theorem A_split {a : Int} {n : Nat} {b : Int} (ha : -2000 ≤ a) (h : a + n = b) : A b = A a * 2 ^ n := by rw [← h]; exact A_add a n ha

theorem kept_eq (mag : Nat) (place last : Int) (K : Nat) (hK : 1 ≤ K) (h1 : -2000 ≤ place) (h2 : -2000 ≤ last) (a1 : 2 * (mag * A place) < (2 * K + 1) * A last) (a2 : 2 * (K * A last) < 2 * (mag * A place) + A last) :
    Toward.even.cut false (mag <<< (place - last).toNat) (last - place).toNat = K := by
  rw [shl_eq]
  by_cases h : last ≤ place
  · rw [show (last - place).toNat = 0 from by omega, cut_zero]
    have hA : A place = A last * 2 ^ (place - last).toNat := A_split h2 (by omega)
    have hAl := A_pos last
    rw [hA] at a1 a2
    have e : mag * (A last * 2 ^ (place - last).toNat) = mag * 2 ^ (place - last).toNat * A last := by simp only [Nat.mul_assoc, Nat.mul_comm, Nat.mul_left_comm]
    rw [e] at a1 a2
    generalize mag * 2 ^ (place - last).toNat = n at a1 a2
    have b1 : n * A last < (K + 1) * A last := by rw [Nat.add_mul, Nat.mul_assoc] at a1; rw [Nat.add_mul]; omega
    have b2 : K * A last < (n + 1) * A last := by rw [Nat.add_mul]; omega
    have := Nat.lt_of_mul_lt_mul_right b1
    have := Nat.lt_of_mul_lt_mul_right b2
    omega
  · rw [show (place - last).toNat = 0 from by omega, Nat.pow_zero, Nat.mul_one]
    have hA : A last = A place * 2 ^ (last - place).toNat := A_split h1 (by omega)
    have hAp := A_pos place
    rw [hA] at a1 a2
    generalize (last - place).toNat = drop at a1 a2
    have c1 : 2 * mag < (2 * K + 1) * 2 ^ drop := by
      refine Nat.lt_of_mul_lt_mul_right (a := A place) ?_
      calc 2 * mag * A place = 2 * (mag * A place) := by rw [Nat.mul_assoc]
        _ < (2 * K + 1) * (A place * 2 ^ drop) := a1
        _ = (2 * K + 1) * 2 ^ drop * A place := by simp only [Nat.mul_assoc, Nat.mul_comm, Nat.mul_left_comm]
    have c2 : 2 * K * 2 ^ drop < 2 * mag + 2 ^ drop := by
      refine Nat.lt_of_mul_lt_mul_right (a := A place) ?_
      calc 2 * K * 2 ^ drop * A place = 2 * (K * (A place * 2 ^ drop)) := by simp only [Nat.mul_assoc, Nat.mul_comm, Nat.mul_left_comm]
        _ < 2 * (mag * A place) + A place * 2 ^ drop := a2
        _ = (2 * mag + 2 ^ drop) * A place := by rw [Nat.add_mul, Nat.mul_assoc, Nat.mul_comm (A place)]
    refine cut_eq false mag drop K ?_ c1 c2
    have : 2 ^ drop ≤ K * 2 ^ drop := Nat.le_mul_of_pos_left _ hK
    rw [Nat.mul_assoc] at c2
    omega

theorem nearest_eq (f : Format) (qm : Int) (M : Nat) (q : Int) (mag : Nat) (place : Int) (hf : Fl f.fractionBits f.leastPlace qm M q) (hlm : -1074 ≤ f.leastPlace) (hqm : qm ≤ 971) (hmb1 : 2 ≤ f.fractionBits) (hmb : f.fractionBits ≤ 52) (hpl : -1990 ≤ place) (hpl2 : place ≤ 3000)
    (hmag : 0 < mag) (hnear : Near f.fractionBits M q (bv mag place)) (hinf : rungN f.fractionBits f.leastPlace M q < f.infRung) : f.nearest false mag place = rungN f.fractionBits f.leastPlace M q := by
  obtain ⟨mb, hmbe⟩ : ∃ mb, f.fractionBits = mb := ⟨_, rfl⟩
  obtain ⟨lm, hlme⟩ : ∃ lm, f.leastPlace = lm := ⟨_, rfl⟩
  unfold Format.nearest
  rw [if_neg (by omega)]
  have hbin : f.binade = 2 ^ mb := by unfold Format.binade; rw [hmbe]
  rw [hmbe, hlme] at hf hinf
  rw [hmbe] at hnear hmb hmb1
  rw [hlme] at hlm
  rw [hmbe, hlme]
  simp only [hmbe, hlme, hbin]
  have hq := hf.ge
  have hq2 := hf.le
  have hM1 := hf.lt
  have hM0 := hf.pos
  obtain ⟨L, hL⟩ : ∃ L, mag.log2 = L := ⟨_, rfl⟩
  have g1 : 2 ^ L ≤ mag := by rw [← hL]; exact Nat.log2_self_le (by omega)
  have g2 : mag < 2 ^ (L + 1) := by rw [← hL]; exact Nat.lt_log2_self
  rw [hL]
  have hB0 := B_pos 0
  have hAq := A_pos q
  have hbvM : bv M q = M * A q * B 0 := rfl
  have hbvm : bv mag place = mag * A place * B 0 := rfl
  -- without B 0
  have n1 : 2 * (mag * A place) < (2 * M + 1) * A q := by
    refine Nat.lt_of_mul_lt_mul_right (a := B 0) ?_
    have := hnear.up
    rw [hbvM, hbvm] at this
    rw [Nat.add_mul, Nat.add_mul, Nat.one_mul]
    simp only [Nat.mul_assoc] at this ⊢
    exact this
  have n2 : 2 * (M * A q) < 2 * (mag * A place) + A q := by
    refine Nat.lt_of_mul_lt_mul_right (a := B 0) ?_
    have := hnear.lo
    rw [hbvM, hbvm] at this
    rw [Nat.add_mul]
    simp only [Nat.mul_assoc] at this ⊢
    exact this
  have n3 : M = 2 ^ mb → 4 * (M * A q) < 4 * (mag * A place) + A q := fun e => by
    refine Nat.lt_of_mul_lt_mul_right (a := B 0) ?_
    have := hnear.nar e
    rw [hbvM, hbvm] at this
    rw [Nat.add_mul]
    simp only [Nat.mul_assoc] at this ⊢
    exact this
  have v1 : A (place + L) ≤ mag * A place := by rw [A_add place L (by omega), Nat.mul_comm]; exact Nat.mul_le_mul_right _ g1
  have v2 : mag * A place < A (place + ((L + 1 : Nat) : Int)) := by rw [A_add place (L + 1) (by omega), Nat.mul_comm (A place)]; exact Nat.mul_lt_mul_of_pos_right g2 (A_pos place)
  -- t ≤ mb + q
  have t1 : place + L ≤ mb + q := by
    have h3 : A (place + L) < A (q + ((mb + 1 : Nat) : Int)) := by
      rw [A_add q (mb + 1) (by omega)]
      have h4 : (2 * M + 1) * A q < 2 * (2 ^ (mb + 1)) * A q := Nat.mul_lt_mul_of_pos_right (by omega) hAq
      have h5 : 2 * (2 ^ (mb + 1)) * A q = 2 * (A q * 2 ^ (mb + 1)) := by simp only [Nat.mul_assoc, Nat.mul_comm, Nat.mul_left_comm]
      omega
    have := A_lt (by omega) (by omega) h3
    omega
  have hword : ∀ r, f.word false r = r := fun r => by unfold Format.word; simp
  rw [hword]
  have hmain : max (place + L - mb) lm = q ∨ (max (place + L - mb) lm = q - 1 ∧ M = 2 ^ mb ∧ lm ≤ q - 1 ∧ place + L = mb + q - 1) := by
    by_cases hn : M < 2 ^ mb
    · have := hf.sub hn
      exact .inl (by omega)
    · have t2 : mb + q - 1 ≤ place + L := by
        refine Classical.byContradiction fun hc => ?_
        have h3 : A (place + ((L + 1 : Nat) : Int)) ≤ A (q + ((mb - 1 : Nat) : Int)) := A_le (by omega) (by omega)
        rw [A_add q (mb - 1) (by omega)] at h3
        have h4 : 2 * (2 ^ (mb - 1) * A q) ≤ M * A q := by
          rw [← Nat.mul_assoc]
          refine Nat.mul_le_mul_right _ ?_
          have : 2 * 2 ^ (mb - 1) = 2 ^ mb := by rw [← Nat.pow_succ']; congr 1; omega
          omega
        have h5 : 2 ≤ 2 ^ (mb - 1) := by
          have := Nat.pow_le_pow_right (show 0 < 2 by omega) (show 1 ≤ mb - 1 by omega)
          omega
        have h6 : 2 * A q ≤ 2 ^ (mb - 1) * A q := Nat.mul_le_mul_right _ h5
        rw [Nat.mul_comm (A q)] at h3
        omega
      by_cases hl : max (place + L - mb) lm = q
      · exact .inl hl
      · refine .inr ⟨by omega, ?_, by omega, by omega⟩
        have h3 : place + ((L + 1 : Nat) : Int) = q + (mb : Int) := by omega
        rw [h3, A_add q mb (by omega)] at v2
        have h4 : M * A q < (2 ^ mb + 1) * A q := by
          rw [Nat.add_mul, Nat.mul_comm (2 ^ mb)]
          omega
        have := Nat.lt_of_mul_lt_mul_right h4
        omega
  rcases hmain with hl | ⟨hl, hM, hlq, ht⟩
  · rw [hl]
    rw [kept_eq mag place q M hM0 (by omega) (by omega) n1 n2]
    exact Nat.min_eq_left (Nat.le_of_lt hinf)
  · rw [hl]
    have hA : A q = A (q - 1) * 2 := A_split (n := 1) (by omega) (by omega)
    have h3 : place + ((L + 1 : Nat) : Int) = q + (mb : Int) := by omega
    rw [h3, A_add q mb (by omega), ← hM, hA] at v2
    have n3' := n3 hM
    rw [hA] at n3'
    have k1 : 2 * (mag * A place) < (2 * (2 * M) + 1) * A (q - 1) := by
      rw [Nat.add_mul]
      have : A (q - 1) * 2 * M = 2 * M * A (q - 1) := by simp only [Nat.mul_assoc, Nat.mul_comm, Nat.mul_left_comm]
      have e2 : 2 * (2 * M) * A (q - 1) = 2 * (2 * M * A (q - 1)) := by rw [Nat.mul_assoc]
      omega
    have k2 : 2 * (2 * M * A (q - 1)) < 2 * (mag * A place) + A (q - 1) := by
      have : M * (A (q - 1) * 2) = 2 * M * A (q - 1) := by simp only [Nat.mul_assoc, Nat.mul_comm, Nat.mul_left_comm]
      omega
    rw [kept_eq mag place (q - 1) (2 * M) (by omega) (by omega) (by omega) k1 k2]
    have hr : (q - 1 - lm).toNat * 2 ^ mb + 2 * M = rungN mb lm M q := by
      unfold rungN
      have : (q - lm).toNat = (q - 1 - lm).toNat + 1 := by omega
      rw [this, Nat.add_mul, hM]
      omega
    rw [hr]
    exact Nat.min_eq_left (Nat.le_of_lt hinf)
end Go.Proofs.Qxb6606417aGreatDoor
