import Derived.Test.Qxb6606417aGreatDoorNum
namespace Go.Proofs.Qxb6606417aGreatDoor
set_option linter.unusedVariables false
set_option linter.unusedSimpArgs false

/-- A decimal d * 10^k and a binary number M * 2^q, scaled. -/
def dv (d : Nat) (k : Int) : Nat := d * A 0 * B k
def bv (M : Nat) (q : Int) : Nat := M * A q * B 0
/-- The decimal lies within a thirteenth of the last place of M * 2^q. -/
structure Close (M : Nat) (q : Int) (d : Nat) (k : Int) : Prop where
  up : 13 * dv d k < 13 * bv M q + A q * B 0
  lo : 13 * bv M q < 13 * dv d k + A q * B 0
/-- A positive number of a format: mb fraction bits, the least place lm. -/
structure Fl (mb : Nat) (lm qm : Int) (M : Nat) (q : Int) : Prop where
  pos : 0 < M
  lt : M < 2 ^ (mb + 1)
  ge : lm ≤ q
  le : q ≤ qm
  sub : M < 2 ^ mb → q = lm

theorem fixed18_close (mb : Nat) (lm qm : Int) (M : Nat) (q : Int) (sft : Nat) (hf : Fl mb lm qm M q) (hmb : mb ≤ 52) (hlm : -1074 ≤ lm) (hqm : qm ≤ 971) (h1 : 9223372036854775808 ≤ M * 2 ^ sft) (h2 : M * 2 ^ sft < 18446744073709551616) (hs : sft ≤ 63) :
    Close M q (fixedN (M * 2 ^ sft) (q - sft) 18).1 (fixedN (M * 2 ^ sft) (q - sft) 18).2 := by
  have hq := hf.ge
  have hq2 := hf.le
  obtain ⟨k1, k2, F⟩ := fixed_ok (M * 2 ^ sft) (q - sft) 18 (by omega) (by omega) h1 h2 (by omega) (by omega)
  generalize (fixedN (M * 2 ^ sft) (q - sft) 18).1 = d at F
  generalize (fixedN (M * 2 ^ sft) (q - sft) 18).2 = k at F k1 k2
  have hA : 2 ^ sft * A (q - sft) = A q := by
    have := A_add (q - sft) sft (by omega)
    rw [show q - (sft : Int) + sft = q from by omega] at this
    rw [this, Nat.mul_comm]
  have hX : M * 2 ^ sft * (A (q - sft) * B (-k)) = M * (A q * B (-k)) := by
    rw [← hA]
    simp only [Nat.mul_assoc]
  rw [hX] at F
  have hM : M ≤ 2 ^ 53 := Nat.le_trans (Nat.le_of_lt hf.lt) (Nat.pow_le_pow_right (by omega) (by omega))
  have hG : 11 * U ≤ A q * B (-k) := by
    have := F.big
    have h3 : M * (A q * B (-k)) ≤ 2 ^ 53 * (A q * B (-k)) := Nat.mul_le_mul_right _ hM
    have h4 : 2 ^ 53 * (11 * U) ≤ (10 ^ (18 - 1) - 1) * U := by
      rw [← Nat.mul_assoc]
      exact Nat.mul_le_mul_right _ (by decide)
    exact Nat.le_of_mul_le_mul_left (Nat.le_trans h4 (Nat.le_trans this h3)) (by decide)
  have hlo := F.lo
  have hup := F.up
  have hB : B (-k) * B k = B 0 * B 0 := B_mul _ _ _ _ (by omega) (by omega) (by omega) (by omega) (by omega)
  have hb0 := B_pos 0
  have hbk := B_pos k
  have e1 : d * U * B k = dv d k * B 0 := by
    unfold dv
    rw [U_eq]
    simp only [Nat.mul_assoc, Nat.mul_comm, Nat.mul_left_comm]
  have e2 : M * (A q * B (-k)) * B k = bv M q * B 0 := by
    unfold bv
    calc M * (A q * B (-k)) * B k = M * A q * (B (-k) * B k) := by simp only [Nat.mul_assoc]
      _ = M * A q * B 0 * B 0 := by rw [hB]; simp only [Nat.mul_assoc]
  have e3 : A q * B (-k) * B k = A q * B 0 * B 0 := by
    rw [Nat.mul_assoc, hB, Nat.mul_assoc]
  have g1 : 13 * (d * U) < 13 * (M * (A q * B (-k))) + A q * B (-k) := by omega
  have g2 : 13 * (M * (A q * B (-k))) < 13 * (d * U) + A q * B (-k) := by omega
  have f1 := Nat.mul_lt_mul_of_pos_right g1 hbk
  have f2 := Nat.mul_lt_mul_of_pos_right g2 hbk
  rw [Nat.add_mul, Nat.mul_assoc 13, Nat.mul_assoc 13, e1, e2, e3] at f1
  rw [Nat.add_mul, Nat.mul_assoc 13, Nat.mul_assoc 13, e1, e2, e3] at f2
  constructor
  · refine Nat.lt_of_mul_lt_mul_right (a := B 0) ?_
    rw [Nat.add_mul, Nat.mul_assoc 13, Nat.mul_assoc 13]
    exact f1
  · refine Nat.lt_of_mul_lt_mul_right (a := B 0) ?_
    rw [Nat.add_mul, Nat.mul_assoc 13, Nat.mul_assoc 13]
    exact f2

/-- The decimal without the zeros that its mantissa ends in. -/
def trimN (d : Nat) (k : Int) : Nat × Int := if h : d % 10 = 0 ∧ d ≠ 0 then trimN (d / 10) (k + 1) else (d, k)
termination_by d
decreasing_by omega
theorem trim_dv : ∀ (n d : Nat) (k : Int), d ≤ n → -800 ≤ k → dv (trimN d k).1 (trimN d k).2 = dv d k ∧ k ≤ (trimN d k).2 ∧ (trimN d k).1 ≤ d ∧ (d ≠ 0 → (trimN d k).1 ≠ 0) := by
  intro n
  induction n with
  | zero =>
    intro d k hd hk
    rw [trimN, dif_neg (by omega)]
    exact ⟨rfl, Int.le_refl _, Nat.le_refl _, fun h => h⟩
  | succ n ih =>
    intro d k hd hk
    rw [trimN]
    by_cases h : d % 10 = 0 ∧ d ≠ 0
    · rw [dif_pos h]
      obtain ⟨i1, i2, i3, i4⟩ := ih (d / 10) (k + 1) (by omega) (by omega)
      refine ⟨?_, by omega, by omega, fun _ => i4 (by omega)⟩
      rw [i1]
      unfold dv
      rw [show k + 1 = k + ((1 : Nat) : Int) from rfl, B_add k 1 hk]
      have : d = d / 10 * 10 := by omega
      calc d / 10 * A 0 * (B k * 10 ^ 1) = d / 10 * 10 * A 0 * B k := by simp only [Nat.mul_assoc, Nat.mul_comm, Nat.mul_left_comm, Nat.pow_one]
        _ = d * A 0 * B k := by rw [← this]
    · rw [dif_neg h]
      exact ⟨rfl, Int.le_refl _, Nat.le_refl _, fun h => h⟩
theorem Close.trim {M d : Nat} {q k : Int} (h : Close M q d k) (hk : -800 ≤ k) : Close M q (trimN d k).1 (trimN d k).2 := by
  obtain ⟨e, _⟩ := trim_dv d d k (Nat.le_refl _) hk
  exact ⟨by rw [e]; exact h.up, by rw [e]; exact h.lo⟩

/-- The whole logarithm of ten's powers. -/
def lp2Ok (i : Nat) : Bool :=
  let p : Int := (i : Int) - 348
  let l := log2Pow10 p
  A l * B 0 ≤ A 0 * B p && A 0 * B p * 16384 ≤ A (l + 1) * B 0 * 16383
def lps2Ok : Nat → Bool
  | 0 => true
  | n + 1 => lp2Ok n && lps2Ok n
theorem lps2_ok : lps2Ok 696 = true := by kernel_rfl
theorem lps2Ok_at : ∀ n i, lps2Ok n = true → i < n → lp2Ok i = true
  | 0, i, _, hi => absurd hi (Nat.not_lt_zero _)
  | n + 1, i, h, hi => by
    simp only [lps2Ok, Bool.and_eq_true] at h
    by_cases e : i = n
    · rw [e]; exact h.1
    · exact lps2Ok_at n i h.2 (by omega)
theorem log2_at (p : Int) (h1 : -348 ≤ p) (h2 : p ≤ 347) : A (log2Pow10 p) * B 0 ≤ A 0 * B p ∧ A 0 * B p * 16384 ≤ A (log2Pow10 p + 1) * B 0 * 16383 := by
  have h := lps2Ok_at 696 (p + 348).toNat lps2_ok (by omega)
  unfold lp2Ok at h
  have hp : (((p + 348).toNat : Int) - 348) = p := by omega
  simp only [hp, Bool.and_eq_true, decide_eq_true_eq] at h
  exact h
theorem A_lt {a b : Int} (ha : -2000 ≤ a) (hb : -2000 ≤ b) (h : A a < A b) : a < b := by
  unfold A at h
  have := (Nat.pow_lt_pow_iff_right (a := 2) (by omega)).1 h
  omega
theorem A_le {a b : Int} (ha : -2000 ≤ a) (h : a ≤ b) : A a ≤ A b := by
  unfold A
  exact Nat.pow_le_pow_right (by omega) (by omega)
end Go.Proofs.Qxb6606417aGreatDoor
