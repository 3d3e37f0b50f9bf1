import Derived.Test.Qxb6606417aGreatDoorNum8
namespace Go.Proofs.Qxb6606417aGreatDoor
set_option linter.unusedVariables false
set_option linter.unusedSimpArgs false
set_option maxRecDepth 100000

/-- What the walk of the shortest form needs of its numbers. -/
structure ShortOk (mb : Nat) (lm : Int) (M z : Nat) (q p : Int) : Prop where
  p1 : -348 ≤ p
  p2 : p ≤ 347
  s1 : q - z + log2Pow10 p ≤ -3
  s2 : -66 ≤ q - z + log2Pow10 p
  max : shortMax M z < 18446744073709551616
  min : shortMin mb lm M z q < 18446744073709551616
  min2 : 1024 ≤ shortMin mb lm M z q
  l1 : 1 ≤ shortU M z q p (shortMin mb lm M z q)
  l2 : 4 ≤ shortU M z q p (M * 2 ^ z)
  l3 : 4 ≤ shortU M z q p (shortMax M z)
  w1 : shortU M z q p (shortMin mb lm M z q) < 1500000000000000000
  w2 : shortU M z q p (shortMax M z) < 1500000000000000000
  w3 : shortU M z q p (M * 2 ^ z) < 1500000000000000000
theorem short_parts (mb : Nat) (lm qm : Int) (M z : Nat) (q : Int) (hf : Fl mb lm qm M q) (hmb : mb ≤ 52) (hlm : -1074 ≤ lm) (hqm : qm ≤ 971) (hz1 : 11 ≤ z) (hz2 : z ≤ 63) (hm2 : M * 2 ^ z < 18446744073709551616) (hM53 : M < 9007199254740992) : ShortOk mb lm M z q (shortP mb lm M q) := by
  have hq1 := hf.ge
  have hq2 := hf.le
  obtain ⟨p1, p2, u1, u2⟩ := short_unit mb lm M q (by omega) (by omega)
  obtain ⟨p, hp⟩ : ∃ p, shortP mb lm M q = p := ⟨_, rfl⟩
  rw [hp] at p1 p2 u1 u2
  have hsc : q - z + log2Pow10 p ≤ -3 := by
    have : p = -log10Pow2 q ∨ p = -skewed q := by
      rw [← hp]; unfold shortP; split
      · exact .inr rfl
      · exact .inl rfl
    unfold log10Pow2 skewed at this
    unfold log2Pow10
    rcases this with e | e <;> omega
  have hA : A q = A (q - z) * 2 ^ z := A_split (by omega) (by omega)
  have hpz : 0 < 2 ^ z := Nat.pow_pos (by omega)
  have hz2' : 2 * 2 ^ (z - 1) = 2 ^ z := by rw [← Nat.pow_succ']; congr 1; omega
  have hz4 : 4 * 2 ^ (z - 2) = 2 ^ z := by
    have : 2 ^ z = 2 ^ (z - 2) * 2 ^ 2 := by rw [← Nat.pow_add]; congr 1; omega
    omega
  have hM := hf.pos
  have hMz : 2 ^ z ≤ M * 2 ^ z := Nat.le_mul_of_pos_left _ hM
  -- bounds at a scaled number
  have bnd : ∀ x, 0 < x → x < 18446744073709551616 → 4 * (x * (A (q - z) * B p)) < (shortU M z q p x + 1) * U ∧ 100 * (shortU M z q p x * U) < 400 * (x * (A (q - z) * B p)) + 101 * U := fun x hx0 hx1 =>
    uscale_bounds x (q - z) p _ hx0 hx1 p1 p2 (by omega) (by omega)
  have hVz : A q * B p = 2 ^ z * (A (q - z) * B p) := by rw [hA]; simp only [Nat.mul_assoc, Nat.mul_comm, Nat.mul_left_comm]
  rw [hVz] at u1 u2
  have hU := U_pos
  have hmax : shortMax M z < 18446744073709551616 := by
    unfold shortMax
    -- M * 2^z is a multiple of 2^z below 2^64
    have h64 : 18446744073709551616 = 2 ^ (64 - z) * 2 ^ z := by rw [← Nat.pow_add, show 64 - z + z = 64 from by omega]
    have h1 : M < 2 ^ (64 - z) := by
      rw [h64] at hm2
      exact Nat.lt_of_mul_lt_mul_right hm2
    have h2 : (M + 1) * 2 ^ z ≤ 2 ^ (64 - z) * 2 ^ z := Nat.mul_le_mul_right _ h1
    rw [Nat.add_mul, ← h64] at h2
    omega
  have hmin0 : 2 * shortMin mb lm M z q ≥ M * 2 ^ z ∧ shortMin mb lm M z q < 18446744073709551616 ∧ 2 ^ (z - 1) ≤ shortMin mb lm M z q := by
    unfold shortMin
    split <;> omega
  -- lower bounds
  have l1 : 1 ≤ shortU M z q p (shortMin mb lm M z q) := by
    obtain ⟨b1, _⟩ := bnd _ (by have := hmin0.2.2; have := Nat.pow_pos (n := z - 1) (show 0 < 2 by omega); omega) hmin0.2.1
    have h3 : 2 ^ (z - 1) * (A (q - z) * B p) ≤ shortMin mb lm M z q * (A (q - z) * B p) := Nat.mul_le_mul_right _ hmin0.2.2
    have h4 : 2 ^ z * (A (q - z) * B p) = 2 * (2 ^ (z - 1) * (A (q - z) * B p)) := by rw [← hz2', Nat.mul_assoc]
    have h5 : 2 * U < (shortU M z q p (shortMin mb lm M z q) + 1) * U := by omega
    have := Nat.lt_of_mul_lt_mul_right h5
    omega
  have l2 : 4 ≤ shortU M z q p (M * 2 ^ z) := by
    obtain ⟨b1, _⟩ := bnd _ (by omega) hm2
    have h3 : 2 ^ z * (A (q - z) * B p) ≤ M * 2 ^ z * (A (q - z) * B p) := Nat.mul_le_mul_right _ hMz
    have h5 : 4 * U < (shortU M z q p (M * 2 ^ z) + 1) * U := by omega
    have := Nat.lt_of_mul_lt_mul_right h5
    omega
  -- upper bounds
  have upp : ∀ x, 0 < x → x < 18446744073709551616 → x ≤ 2 * (M * 2 ^ z) → shortU M z q p x < 160 * M + 4 := fun x hx0 hx1 hx2 => by
    obtain ⟨_, b2⟩ := bnd x hx0 hx1
    have h3 : x * (A (q - z) * B p) ≤ 2 * (M * 2 ^ z) * (A (q - z) * B p) := Nat.mul_le_mul_right _ hx2
    have h4 : 2 * (M * 2 ^ z) * (A (q - z) * B p) = 2 * (M * (2 ^ z * (A (q - z) * B p))) := by simp only [Nat.mul_assoc]
    have h6 : M * (2 ^ z * (A (q - z) * B p)) ≤ M * (20 * U) := Nat.mul_le_mul_left _ (Nat.le_of_lt u2)
    have h7 : M * (20 * U) = 20 * (M * U) := by simp only [Nat.mul_assoc, Nat.mul_comm, Nat.mul_left_comm]
    have h5 : shortU M z q p x * U < (160 * M + 4) * U := by
      rw [Nat.add_mul, Nat.mul_assoc]
      omega
    exact Nat.lt_of_mul_lt_mul_right h5
  have w1 := upp (shortMin mb lm M z q) (by have := hmin0.2.2; have := Nat.pow_pos (n := z - 1) (show 0 < 2 by omega); omega) hmin0.2.1 (by unfold shortMin; split <;> omega)
  have w2 := upp (shortMax M z) (by unfold shortMax; omega) hmax (by unfold shortMax; omega)
  have w3 := upp (M * 2 ^ z) (by omega) hm2 (by omega)
  have l3 : 4 ≤ shortU M z q p (shortMax M z) := by
    obtain ⟨b1, _⟩ := bnd (shortMax M z) (by unfold shortMax; omega) hmax
    have h3 : 2 ^ z * (A (q - z) * B p) ≤ shortMax M z * (A (q - z) * B p) := Nat.mul_le_mul_right _ (by unfold shortMax; omega)
    have h5 : 4 * U < (shortU M z q p (shortMax M z) + 1) * U := by omega
    have := Nat.lt_of_mul_lt_mul_right h5
    omega
  have hs2 : -66 ≤ q - z + log2Pow10 p := by
    have : p = -log10Pow2 q ∨ p = -skewed q := by
      rw [← hp]; unfold shortP; split
      · exact .inr rfl
      · exact .inl rfl
    unfold log10Pow2 skewed at this
    unfold log2Pow10
    rcases this with e | e <;> omega
  have hz10 : 2 ^ 10 ≤ 2 ^ (z - 1) := Nat.pow_le_pow_right (by omega) (by omega)
  rw [hp]
  exact ⟨p1, p2, hsc, hs2, hmax, hmin0.2.1, Nat.le_trans hz10 hmin0.2.2, l1, l2, l3, by omega, by omega, by omega⟩
end Go.Proofs.Qxb6606417aGreatDoor
