import Derived.Test.Qxb6606417aGreatDoorNum2
namespace Go.Proofs.Qxb6606417aGreatDoor
set_option linter.unusedVariables false
set_option linter.unusedSimpArgs false

def parseE (mb : Nat) (lm : Int) (b : Nat) (p : Int) : Int := min (-lm) (mb + 1 - b - log2Pow10 p)
def parseS (mb : Nat) (lm : Int) (b : Nat) (p : Int) : Int := -(parseE mb lm b p - (64 - b) + log2Pow10 p + 3)
def parseU (mb : Nat) (lm : Int) (d b : Nat) (p : Int) : Nat := uscaleN (d * 2 ^ (64 - b)) (tabHi p) (tabLo p) (parseS mb lm b p).toNat
def parseN (mb : Nat) (lm : Int) (d b : Nat) (p : Int) : Nat × Int :=
  let u := parseU mb lm d b p
  if 4 * 2 ^ (mb + 1) - 2 ≤ u then (roundN (u / 2 ||| u % 2), -(parseE mb lm b p - 1)) else (roundN u, -parseE mb lm b p)

theorem or_mod (v b : Nat) (hb : b ≤ 1) : v ||| b = if v % 2 = 1 then v else v + b := by
  have h : b = 0 ∨ b = 1 := by omega
  rcases h with rfl | rfl
  · simp
  · have h1 : (v ||| 1) / 2 = v / 2 := by rw [Nat.or_div_two]; simp
    have h2 : (v ||| 1) % 2 = 1 := Nat.or_mod_two_eq_one.2 (.inr rfl)
    split <;> omega
theorem round_shift (M u : Nat) (hM : 0 < M) (h1 : 8 * M - 1 ≤ u) (h2 : u ≤ 8 * M + 1) : roundN (u / 2 ||| u % 2) = M := by
  rw [or_mod _ _ (by omega)]
  unfold roundN
  split <;> omega
theorem round_plain (M u : Nat) (hM : 0 < M) (h1 : 4 * M - 1 ≤ u) (h2 : u ≤ 4 * M + 1) : roundN u = M := by
  unfold roundN
  omega

/-- Where the decimal is close to M * 2^q, how the scale is chosen. -/
theorem parse_scale (mb : Nat) (lm qm : Int) (M d b : Nat) (q p : Int) (hf : Fl mb lm qm M q) (hmb : 23 ≤ mb) (hmb2 : mb ≤ 52) (hlm : -1074 ≤ lm) (hlm2 : lm ≤ 0) (hqm : qm ≤ 971) (hc : Close M q d p)
    (hb1 : 1 ≤ b) (hb2 : b ≤ 64) (hd1 : 2 ^ (b - 1) ≤ d) (hd2 : d < 2 ^ b) (hp1 : -348 ≤ p) (hp2 : p ≤ 347) :
    (q + parseE mb lm b p = 0 ∨ (q + parseE mb lm b p = 1 ∧ 2 ^ mb ≤ M)) ∧ 0 ≤ parseS mb lm b p ∧ parseS mb lm b p < 64 := by
  obtain ⟨l1, l2⟩ := log2_at p hp1 hp2
  have hlp : -1160 ≤ log2Pow10 p ∧ log2Pow10 p ≤ 1160 := by unfold log2Pow10; omega
  have hq := hf.ge
  have hq2 := hf.le
  obtain ⟨lp, hlpe⟩ : ∃ lp, log2Pow10 p = lp := ⟨_, rfl⟩
  rw [hlpe] at l1 l2 hlp
  have hB0 := B_pos 0
  have hAq := A_pos q
  -- the decimal between two powers of two
  have d1 : A (lp + ((b - 1 : Nat) : Int)) * B 0 ≤ dv d p := by
    rw [A_add lp (b - 1) (by omega)]
    unfold dv
    calc A lp * 2 ^ (b - 1) * B 0 = 2 ^ (b - 1) * (A lp * B 0) := by simp only [Nat.mul_assoc, Nat.mul_comm, Nat.mul_left_comm]
      _ ≤ d * (A 0 * B p) := Nat.mul_le_mul hd1 l1
      _ = d * A 0 * B p := by rw [Nat.mul_assoc]
  have d2 : dv d p * 16384 ≤ A (lp + 1 + (b : Int)) * B 0 * 16383 := by
    rw [A_add (lp + 1) b (by omega)]
    unfold dv
    calc d * A 0 * B p * 16384 = d * (A 0 * B p * 16384) := by simp only [Nat.mul_assoc]
      _ ≤ 2 ^ b * (A (lp + 1) * B 0 * 16383) := Nat.mul_le_mul (Nat.le_of_lt hd2) l2
      _ = A (lp + 1) * 2 ^ b * B 0 * 16383 := by simp only [Nat.mul_assoc, Nat.mul_comm, Nat.mul_left_comm]
  have hbv : bv M q = M * (A q * B 0) := by unfold bv; rw [Nat.mul_assoc]
  have cu := hc.up
  have cl := hc.lo
  rw [hbv] at cu cl
  generalize dv d p = D at d1 d2 cu cl
  -- lower: c ≤ q + mb + 1
  have hc1 : lp + b ≤ q + mb + 1 := by
    have hM : M + 1 ≤ 2 ^ (mb + 1) := hf.lt
    have e1 : (M + 1) * (A q * B 0) ≤ 2 ^ (mb + 1) * (A q * B 0) := Nat.mul_le_mul_right _ hM
    rw [Nat.add_mul, Nat.one_mul] at e1
    have e2 : D < 2 ^ (mb + 1) * (A q * B 0) := by omega
    have e3 : A (lp + ((b - 1 : Nat) : Int)) * B 0 < A (q + ((mb + 1 : Nat) : Int)) * B 0 := by
      rw [A_add q (mb + 1) (by omega)]
      calc A (lp + ((b - 1 : Nat) : Int)) * B 0 ≤ D := d1
        _ < 2 ^ (mb + 1) * (A q * B 0) := e2
        _ = A q * 2 ^ (mb + 1) * B 0 := by simp only [Nat.mul_assoc, Nat.mul_comm, Nat.mul_left_comm]
    have := A_lt (by omega) (by omega) (Nat.lt_of_mul_lt_mul_right e3)
    omega
  -- upper: q + mb ≤ c where M is normal
  have hc2 : 2 ^ mb ≤ M → q + mb ≤ lp + b := by
    intro hM
    refine Classical.byContradiction fun hn => ?_
    have e1 : A (lp + 1 + (b : Int)) ≤ A (q + (mb : Int)) := A_le (by omega) (by omega)
    rw [A_add q mb (by omega)] at e1
    have e2 : A (lp + 1 + (b : Int)) * B 0 ≤ 2 ^ mb * (A q * B 0) := by
      calc A (lp + 1 + (b : Int)) * B 0 ≤ A q * 2 ^ mb * B 0 := Nat.mul_le_mul_right _ e1
        _ = 2 ^ mb * (A q * B 0) := by simp only [Nat.mul_assoc, Nat.mul_comm, Nat.mul_left_comm]
    have e3 : 2 ^ mb * (A q * B 0) ≤ M * (A q * B 0) := Nat.mul_le_mul_right _ hM
    have e4 : 2 ^ 23 * (A q * B 0) ≤ 2 ^ mb * (A q * B 0) := Nat.mul_le_mul_right _ (Nat.pow_le_pow_right (by omega) hmb)
    have hpos : 0 < A q * B 0 := Nat.mul_pos hAq hB0
    generalize 2 ^ mb * (A q * B 0) = G at e2 e3 e4
    generalize A q * B 0 = a at *
    omega
  -- c ≥ q - 1
  have hc3 : q - 1 ≤ lp + b := by
    refine Classical.byContradiction fun hn => ?_
    have e1 : A (lp + 1 + (b : Int)) ≤ A (q - 1) := A_le (by omega) (by omega)
    have e5 : A q = A (q - 1) * 2 := by
      have := A_add (q - 1) 1 (by omega)
      rw [show q - 1 + ((1 : Nat) : Int) = q from by omega] at this
      exact this
    have e2 : 2 * (A (lp + 1 + (b : Int)) * B 0) ≤ A q * B 0 := by
      rw [e5]
      calc 2 * (A (lp + 1 + (b : Int)) * B 0) ≤ 2 * (A (q - 1) * B 0) := Nat.mul_le_mul_left _ (Nat.mul_le_mul_right _ e1)
        _ = A (q - 1) * 2 * B 0 := by simp only [Nat.mul_assoc, Nat.mul_comm, Nat.mul_left_comm]
    have e3 : 1 * (A q * B 0) ≤ M * (A q * B 0) := Nat.mul_le_mul_right _ hf.pos
    have hpos : 0 < A q * B 0 := Nat.mul_pos hAq hB0
    generalize A (lp + 1 + (b : Int)) * B 0 = Y at *
    generalize M * (A q * B 0) = X at *
    generalize A q * B 0 = a at *
    omega
  unfold parseS parseE
  rw [hlpe]
  by_cases hM : 2 ^ mb ≤ M
  · have := hc2 hM
    refine ⟨?_, by omega, by omega⟩
    by_cases hk : q + min (-lm) (mb + 1 - b - lp) = 0
    · exact .inl hk
    · exact .inr ⟨by omega, hM⟩
  · have := hf.sub (by omega)
    exact ⟨.inl (by omega), by omega, by omega⟩

theorem parse_close (mb : Nat) (lm qm : Int) (M d b : Nat) (q p : Int) (hf : Fl mb lm qm M q) (hmb : 23 ≤ mb) (hmb2 : mb ≤ 52) (hlm : -1074 ≤ lm) (hlm2 : lm ≤ 0) (hqm : qm ≤ 971) (hc : Close M q d p)
    (hb1 : 1 ≤ b) (hb2 : b ≤ 64) (hd1 : 2 ^ (b - 1) ≤ d) (hd2 : d < 2 ^ b) (hp1 : -348 ≤ p) (hp2 : p ≤ 347) : parseN mb lm d b p = (M, q) := by
  obtain ⟨hk, s1, s2⟩ := parse_scale mb lm qm M d b q p hf hmb hmb2 hlm hlm2 hqm hc hb1 hb2 hd1 hd2 hp1 hp2
  have hlp : -1160 ≤ log2Pow10 p ∧ log2Pow10 p ≤ 1160 := by unfold log2Pow10; omega
  have hq := hf.ge
  have hq2 := hf.le
  obtain ⟨E, hE⟩ : ∃ E, parseE mb lm b p = E := ⟨_, rfl⟩
  have hS : parseS mb lm b p = -(E - (64 - b) + log2Pow10 p + 3) := by unfold parseS; rw [hE]
  rw [hE] at hk
  have hEb : -1000 ≤ E ∧ E ≤ 1100 := by omega
  have hx1 : 0 < d * 2 ^ (64 - b) := Nat.mul_pos (Nat.lt_of_lt_of_le (Nat.pow_pos (by omega)) hd1) (Nat.pow_pos (by omega))
  have hx2 : d * 2 ^ (64 - b) < 18446744073709551616 := by
    calc d * 2 ^ (64 - b) < 2 ^ b * 2 ^ (64 - b) := Nat.mul_lt_mul_of_pos_right hd2 (Nat.pow_pos (by omega))
      _ = 2 ^ 64 := by rw [← Nat.pow_add]; congr 1; omega
      _ = 18446744073709551616 := rfl
  obtain ⟨u1, u2⟩ := uscale_bounds (d * 2 ^ (64 - b)) (E - (64 - b)) p (parseS mb lm b p).toNat hx1 hx2 hp1 hp2 (by omega) (by omega)
  have hU : uscaleN (d * 2 ^ (64 - b)) (tabHi p) (tabLo p) (parseS mb lm b p).toNat = parseU mb lm d b p := rfl
  rw [hU] at u1 u2
  have hX : d * 2 ^ (64 - b) * (A (E - (64 - b)) * B p) = d * (A E * B p) := by
    have := A_add (E - (64 - b)) (64 - b) (by omega)
    rw [show E - (64 - (b : Int)) + ((64 - b : Nat) : Int) = E from by omega] at this
    rw [this]
    simp only [Nat.mul_assoc, Nat.mul_comm, Nat.mul_left_comm]
  rw [hX] at u1 u2
  -- the decimal, scaled by 2^E
  obtain ⟨k, hkE⟩ : ∃ k : Nat, q + E = (k : Int) := ⟨(q + E).toNat, by omega⟩
  have hAA : A q * A E = A 0 * (A 0 * 2 ^ k) := by
    have h1 := A_mul q E 0 (k : Int) (by omega) (by omega) (by omega) (by omega) (by omega)
    have h2 := A_add 0 k (by omega)
    rw [Int.zero_add] at h2
    rw [h1, h2]
  have e1 : dv d p * A E = A 0 * (d * (A E * B p)) := by
    unfold dv
    simp only [Nat.mul_assoc, Nat.mul_comm, Nat.mul_left_comm]
  have e2 : A q * B 0 * A E = A 0 * (2 ^ k * U) := by
    rw [U_eq]
    calc A q * B 0 * A E = A q * A E * B 0 := by simp only [Nat.mul_assoc, Nat.mul_comm, Nat.mul_left_comm]
      _ = A 0 * (2 ^ k * (A 0 * B 0)) := by rw [hAA]; simp only [Nat.mul_assoc, Nat.mul_comm, Nat.mul_left_comm]
  have e3 : bv M q * A E = A 0 * (M * (2 ^ k * U)) := by
    unfold bv
    calc M * A q * B 0 * A E = M * (A q * B 0 * A E) := by simp only [Nat.mul_assoc]
      _ = A 0 * (M * (2 ^ k * U)) := by rw [e2]; simp only [Nat.mul_assoc, Nat.mul_comm, Nat.mul_left_comm]
  have g1 := Nat.mul_lt_mul_of_pos_right hc.up (A_pos E)
  have g2 := Nat.mul_lt_mul_of_pos_right hc.lo (A_pos E)
  rw [Nat.add_mul, Nat.mul_assoc 13, Nat.mul_assoc 13, e1, e2, e3] at g1
  rw [Nat.add_mul, Nat.mul_assoc 13, Nat.mul_assoc 13, e1, e2, e3] at g2
  have f1 : 13 * (d * (A E * B p)) < 13 * (M * (2 ^ k * U)) + 2 ^ k * U := by
    refine Nat.lt_of_mul_lt_mul_left (a := A 0) ?_
    rw [Nat.mul_add, Nat.mul_left_comm (A 0) 13, Nat.mul_left_comm (A 0) 13]
    exact g1
  have f2 : 13 * (M * (2 ^ k * U)) < 13 * (d * (A E * B p)) + 2 ^ k * U := by
    refine Nat.lt_of_mul_lt_mul_left (a := A 0) ?_
    rw [Nat.mul_add, Nat.mul_left_comm (A 0) 13, Nat.mul_left_comm (A 0) 13]
    exact g2
  generalize d * (A E * B p) = Y at f1 f2 u1 u2
  have hUp := U_pos
  unfold parseN
  simp only [hE]
  generalize parseU mb lm d b p = u at u1 u2
  have hMlt := hf.lt
  have hMpos := hf.pos
  have hpw : 2 ^ (mb + 1) = 2 * 2 ^ mb := by rw [Nat.pow_succ, Nat.mul_comm]
  have hp1' : 0 < 2 ^ mb := Nat.pow_pos (by omega)
  rcases hk with hk | ⟨hk, hM⟩
  · have hk0 : k = 0 := by omega
    subst hk0
    rw [Nat.pow_zero, Nat.one_mul] at f1 f2
    have l1 : (4 * M) * U < (u + 2) * U := by
      rw [Nat.add_mul, Nat.mul_assoc]
      rw [Nat.add_mul] at u1
      omega
    have l2 : u * U < (4 * M + 2) * U := by
      rw [Nat.add_mul, Nat.mul_assoc]
      omega
    have m1 := Nat.lt_of_mul_lt_mul_right l1
    have m2 := Nat.lt_of_mul_lt_mul_right l2
    rw [if_neg (by omega), round_plain M u hMpos (by omega) (by omega)]
    rw [show -E = q from by omega]
  · have hk0 : k = 1 := by omega
    subst hk0
    rw [Nat.pow_one] at f1 f2
    have e5 : M * (2 * U) = 2 * (M * U) := by simp only [Nat.mul_assoc, Nat.mul_comm, Nat.mul_left_comm]
    rw [e5] at f1 f2
    have l1 : (8 * M) * U < (u + 2) * U := by
      rw [Nat.add_mul, Nat.mul_assoc]
      rw [Nat.add_mul] at u1
      omega
    have l2 : u * U < (8 * M + 2) * U := by
      rw [Nat.add_mul, Nat.mul_assoc]
      omega
    have m1 := Nat.lt_of_mul_lt_mul_right l1
    have m2 := Nat.lt_of_mul_lt_mul_right l2
    rw [if_pos (by omega), round_shift M u hMpos (by omega) (by omega)]
    rw [show -(E - 1) = q from by omega]
end Go.Proofs.Qxb6606417aGreatDoor
