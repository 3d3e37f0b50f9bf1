import Derived.Test.Qxb6606417aGreatDoorNum7
namespace Go.Proofs.Qxb6606417aGreatDoor
set_option linter.unusedVariables false
set_option linter.unusedSimpArgs false

def skOk (i : Nat) : Bool :=
  let x : Int := (i : Int) - 1200
  let l := skewed x
  B l * A 0 ≤ A x * B 0 && A x * B 0 < 2 * (B (l + 1) * A 0)
def sksOk : Nat → Bool
  | 0 => true
  | n + 1 => skOk n && sksOk n
theorem sks_ok : sksOk 2300 = true := by kernel_rfl
theorem sksOk_at : ∀ n i, sksOk n = true → i < n → skOk i = true
  | 0, i, _, hi => absurd hi (Nat.not_lt_zero _)
  | n + 1, i, h, hi => by
    simp only [sksOk, Bool.and_eq_true] at h
    by_cases e : i = n
    · rw [e]; exact h.1
    · exact sksOk_at n i h.2 (by omega)
theorem skewed_at (x : Int) (h1 : -1200 ≤ x) (h2 : x < 1100) : B (skewed x) * A 0 ≤ A x * B 0 ∧ A x * B 0 < 2 * (B (skewed x + 1) * A 0) := by
  have h := sksOk_at 2300 (x + 1200).toNat sks_ok (by omega)
  unfold skOk at h
  have hp : (((x + 1200).toNat : Int) - 1200) = x := by omega
  simp only [hp, Bool.and_eq_true, decide_eq_true_eq] at h
  exact h

/-- The power of ten of the shortest form. -/
def shortP (mb : Nat) (lm : Int) (M : Nat) (q : Int) : Int := if M = 2 ^ mb ∧ lm < q then -skewed q else -log10Pow2 q
/-- One last place, in units of the shortest form, lies between one and twenty. -/
theorem short_unit (mb : Nat) (lm : Int) (M : Nat) (q : Int) (h1 : -1100 ≤ q) (h2 : q ≤ 1000) :
    -348 ≤ shortP mb lm M q ∧ shortP mb lm M q ≤ 347 ∧ U ≤ A q * B (shortP mb lm M q) ∧ A q * B (shortP mb lm M q) < 20 * U := by
  have gen : ∀ l : Int, -347 ≤ l → l ≤ 340 → B l * A 0 ≤ A q * B 0 → A q * B 0 < 2 * (B (l + 1) * A 0) → U ≤ A q * B (-l) ∧ A q * B (-l) < 20 * U := fun l a1 a2 b1 b2 => by
    have hB : B l * B (-l) = B 0 * B 0 := B_mul _ _ _ _ (by omega) (by omega) (by omega) (by omega) (by omega)
    have hB1 : B (l + 1) = B l * 10 := by
      have := B_add l 1 (by omega)
      exact this
    rw [hB1] at b2
    have c1 := Nat.mul_le_mul_right (B (-l)) b1
    have c2 := Nat.mul_lt_mul_of_pos_right b2 (B_pos (-l))
    have e1 : B l * A 0 * B (-l) = B 0 * U := by
      rw [U_eq]
      calc B l * A 0 * B (-l) = B l * B (-l) * A 0 := by simp only [Nat.mul_assoc, Nat.mul_comm, Nat.mul_left_comm]
        _ = B 0 * (A 0 * B 0) := by rw [hB]; simp only [Nat.mul_assoc, Nat.mul_comm, Nat.mul_left_comm]
    have e2 : A q * B 0 * B (-l) = B 0 * (A q * B (-l)) := by simp only [Nat.mul_assoc, Nat.mul_comm, Nat.mul_left_comm]
    have e3 : 2 * (B l * 10 * A 0) * B (-l) = B 0 * (20 * U) := by
      calc 2 * (B l * 10 * A 0) * B (-l) = 20 * (B l * A 0 * B (-l)) := by
            rw [show (20 : Nat) = 2 * 10 from rfl]
            simp only [Nat.mul_assoc, Nat.mul_comm, Nat.mul_left_comm]
        _ = B 0 * (20 * U) := by rw [e1]; simp only [Nat.mul_assoc, Nat.mul_comm, Nat.mul_left_comm]
    rw [e1, e2] at c1
    rw [e2, e3] at c2
    exact ⟨Nat.le_of_mul_le_mul_left c1 (B_pos 0), Nat.lt_of_mul_lt_mul_left c2⟩
  unfold shortP
  by_cases h : M = 2 ^ mb ∧ lm < q
  · rw [if_pos h]
    obtain ⟨s1, s2⟩ := skewed_at q (by omega) (by omega)
    have hr : -340 ≤ skewed q ∧ skewed q ≤ 310 := by unfold skewed; omega
    obtain ⟨g1, g2⟩ := gen (skewed q) (by omega) (by omega) s1 s2
    exact ⟨by omega, by omega, g1, g2⟩
  · rw [if_neg h]
    obtain ⟨s1, s2⟩ := log10_at q (by omega) (by omega)
    have hr : -340 ≤ log10Pow2 q ∧ log10Pow2 q ≤ 310 := by unfold log10Pow2; omega
    obtain ⟨g1, g2⟩ := gen (log10Pow2 q) (by omega) (by omega) s1 (by omega)
    exact ⟨by omega, by omega, g1, g2⟩

/-- The shortest form of M * 2^q: m = M * 2^z left-justified. -/
def shortU (M z : Nat) (q p : Int) (x : Nat) : Nat := uscaleN x (tabHi p) (tabLo p) (-(q - z + log2Pow10 p + 3)).toNat
def shortMin (mb : Nat) (lm : Int) (M z : Nat) (q : Int) : Nat := if M = 2 ^ mb ∧ lm < q then M * 2 ^ z - 2 ^ (z - 2) else M * 2 ^ z - 2 ^ (z - 1)
def shortMax (M z : Nat) : Nat := M * 2 ^ z + 2 ^ (z - 1)
def shortN (mb : Nat) (lm : Int) (M z : Nat) (q : Int) : Nat × Int :=
  let p := shortP mb lm M q
  let dmin := ceilN (shortU M z q p (shortMin mb lm M z q) + M % 2)
  let dmax := floorN (shortU M z q p (shortMax M z) - M % 2)
  if dmin ≤ dmax / 10 * 10 then (dmax / 10, -(p - 1))
  else if dmin < dmax then (roundN (shortU M z q p (M * 2 ^ z)), -p) else (dmin, -p)

theorem short_ok (mb : Nat) (lm qm : Int) (M z : Nat) (q : Int) (hf : Fl mb lm qm M q) (hmb : mb ≤ 52) (hlm : -1074 ≤ lm) (hqm : qm ≤ 971) (hz1 : 11 ≤ z) (hz2 : z ≤ 63) (hm2 : M * 2 ^ z < 18446744073709551616) (hM53 : M < 9007199254740992) :
    0 < (shortN mb lm M z q).1 ∧ (shortN mb lm M z q).1 < 1000000000000000000 ∧ -349 ≤ -(shortN mb lm M z q).2 ∧ -(shortN mb lm M z q).2 ≤ 347 := by
  have hq1 := hf.ge
  have hq2 := hf.le
  obtain ⟨p1, p2, u1, u2⟩ := short_unit mb lm M q (by omega) (by omega)
  obtain ⟨p, hp⟩ : ∃ p, shortP mb lm M q = p := ⟨_, rfl⟩
  rw [hp] at p1 p2 u1 u2
  have hsc : q - z + log2Pow10 p ≤ -3 := by
    have : p = -log10Pow2 q ∨ p = -skewed q := by
      rw [← hp]; unfold shortP; split
      · exact .inr rfl
      · exact .inl rfl
    unfold log10Pow2 skewed at this
    unfold log2Pow10
    rcases this with e | e <;> omega
  have hA : A q = A (q - z) * 2 ^ z := A_split (by omega) (by omega)
  have hpz : 0 < 2 ^ z := Nat.pow_pos (by omega)
  have hz2' : 2 * 2 ^ (z - 1) = 2 ^ z := by rw [← Nat.pow_succ']; congr 1; omega
  have hz4 : 4 * 2 ^ (z - 2) = 2 ^ z := by
    have : 2 ^ z = 2 ^ (z - 2) * 2 ^ 2 := by rw [← Nat.pow_add]; congr 1; omega
    omega
  have hM := hf.pos
  have hMz : 2 ^ z ≤ M * 2 ^ z := Nat.le_mul_of_pos_left _ hM
  -- bounds at a scaled number
  have bnd : ∀ x, 0 < x → x < 18446744073709551616 → 4 * (x * (A (q - z) * B p)) < (shortU M z q p x + 1) * U ∧ 100 * (shortU M z q p x * U) < 400 * (x * (A (q - z) * B p)) + 101 * U := fun x hx0 hx1 =>
    uscale_bounds x (q - z) p _ hx0 hx1 p1 p2 (by omega) (by omega)
  have hVz : A q * B p = 2 ^ z * (A (q - z) * B p) := by rw [hA]; simp only [Nat.mul_assoc, Nat.mul_comm, Nat.mul_left_comm]
  rw [hVz] at u1 u2
  have hU := U_pos
  have hmax : shortMax M z < 18446744073709551616 := by
    unfold shortMax
    -- M * 2^z is a multiple of 2^z below 2^64
    have h64 : 18446744073709551616 = 2 ^ (64 - z) * 2 ^ z := by rw [← Nat.pow_add, show 64 - z + z = 64 from by omega]
    have h1 : M < 2 ^ (64 - z) := by
      rw [h64] at hm2
      exact Nat.lt_of_mul_lt_mul_right hm2
    have h2 : (M + 1) * 2 ^ z ≤ 2 ^ (64 - z) * 2 ^ z := Nat.mul_le_mul_right _ h1
    rw [Nat.add_mul, ← h64] at h2
    omega
  have hmin0 : 2 * shortMin mb lm M z q ≥ M * 2 ^ z ∧ shortMin mb lm M z q < 18446744073709551616 ∧ 2 ^ (z - 1) ≤ shortMin mb lm M z q := by
    unfold shortMin
    split <;> omega
  -- lower bounds
  have l1 : 1 ≤ shortU M z q p (shortMin mb lm M z q) := by
    obtain ⟨b1, _⟩ := bnd _ (by have := hmin0.2.2; have := Nat.pow_pos (n := z - 1) (show 0 < 2 by omega); omega) hmin0.2.1
    have h3 : 2 ^ (z - 1) * (A (q - z) * B p) ≤ shortMin mb lm M z q * (A (q - z) * B p) := Nat.mul_le_mul_right _ hmin0.2.2
    have h4 : 2 ^ z * (A (q - z) * B p) = 2 * (2 ^ (z - 1) * (A (q - z) * B p)) := by rw [← hz2', Nat.mul_assoc]
    have h5 : 2 * U < (shortU M z q p (shortMin mb lm M z q) + 1) * U := by omega
    have := Nat.lt_of_mul_lt_mul_right h5
    omega
  have l2 : 4 ≤ shortU M z q p (M * 2 ^ z) := by
    obtain ⟨b1, _⟩ := bnd _ (by omega) hm2
    have h3 : 2 ^ z * (A (q - z) * B p) ≤ M * 2 ^ z * (A (q - z) * B p) := Nat.mul_le_mul_right _ hMz
    have h5 : 4 * U < (shortU M z q p (M * 2 ^ z) + 1) * U := by omega
    have := Nat.lt_of_mul_lt_mul_right h5
    omega
  -- upper bounds
  have upp : ∀ x, 0 < x → x < 18446744073709551616 → x ≤ 2 * (M * 2 ^ z) → shortU M z q p x < 160 * M + 4 := fun x hx0 hx1 hx2 => by
    obtain ⟨_, b2⟩ := bnd x hx0 hx1
    have h3 : x * (A (q - z) * B p) ≤ 2 * (M * 2 ^ z) * (A (q - z) * B p) := Nat.mul_le_mul_right _ hx2
    have h4 : 2 * (M * 2 ^ z) * (A (q - z) * B p) = 2 * (M * (2 ^ z * (A (q - z) * B p))) := by simp only [Nat.mul_assoc]
    have h6 : M * (2 ^ z * (A (q - z) * B p)) ≤ M * (20 * U) := Nat.mul_le_mul_left _ (Nat.le_of_lt u2)
    have h7 : M * (20 * U) = 20 * (M * U) := by simp only [Nat.mul_assoc, Nat.mul_comm, Nat.mul_left_comm]
    have h5 : shortU M z q p x * U < (160 * M + 4) * U := by
      rw [Nat.add_mul, Nat.mul_assoc]
      omega
    exact Nat.lt_of_mul_lt_mul_right h5
  have w1 := upp (shortMin mb lm M z q) (by have := hmin0.2.2; have := Nat.pow_pos (n := z - 1) (show 0 < 2 by omega); omega) hmin0.2.1 (by unfold shortMin; split <;> omega)
  have w2 := upp (shortMax M z) (by unfold shortMax; omega) hmax (by unfold shortMax; omega)
  have w3 := upp (M * 2 ^ z) (by omega) hm2 (by omega)
  unfold shortN
  simp only [hp]
  generalize shortU M z q p (shortMin mb lm M z q) = a at *
  generalize shortU M z q p (shortMax M z) = b at *
  generalize shortU M z q p (M * 2 ^ z) = c at *
  unfold ceilN floorN
  by_cases h1 : (a + M % 2 + 3) / 4 ≤ (b - M % 2) / 4 / 10 * 10
  · rw [if_pos h1]
    refine ⟨?_, ?_, ?_, ?_⟩
    · show 0 < (b - M % 2) / 4 / 10; omega
    · show (b - M % 2) / 4 / 10 < _; omega
    · show -349 ≤ -(-(p - 1)); omega
    · show -(-(p - 1)) ≤ 347; omega
  · rw [if_neg h1]
    by_cases h2 : (a + M % 2 + 3) / 4 < (b - M % 2) / 4
    · rw [if_pos h2]
      refine ⟨?_, ?_, ?_, ?_⟩
      · show 0 < roundN c; unfold roundN; omega
      · show roundN c < _; unfold roundN; omega
      · show -349 ≤ -(-p); omega
      · show -(-p) ≤ 347; omega
    · rw [if_neg h2]
      refine ⟨?_, ?_, ?_, ?_⟩
      · show 0 < (a + M % 2 + 3) / 4; omega
      · show (a + M % 2 + 3) / 4 < _; omega
      · show -349 ≤ -(-p); omega
      · show -(-p) ≤ 347; omega
end Go.Proofs.Qxb6606417aGreatDoor
