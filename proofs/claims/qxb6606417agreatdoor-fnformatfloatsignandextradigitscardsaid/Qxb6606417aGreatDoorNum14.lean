import Derived.Test.Qxb6606417aGreatDoorNum12
import Derived.Test.Qxb6606417aGreatDoorNum10
namespace Go.Proofs.Qxb6606417aGreatDoor
set_option linter.unusedVariables false
set_option linter.unusedSimpArgs false
open Ieee

/-- What is known of a decimal on the road. -/
structure DOk (x : Nat) (k : Int) : Prop where
  pos : 0 < x
  lt : x < 1000000000000000000
  last : x % 10 ≠ 0
  k1 : -349 ≤ k
  k2 : k ≤ 370
theorem trim_ok (d : Nat) (p : Int) (hd : 0 < d) (hd2 : d < 1000000000000000000) (hp1 : -349 ≤ p) (hp2 : p ≤ 349) : DOk (trimN d p).1 (trimN d p).2 := by
  obtain ⟨i, t1, t2, t3, t4, t5⟩ := trim_digits d d p (Nat.le_refl _) hd
  have hn : Lib.nDigits d ≤ 18 := nDigits_lt (by omega) (by omega)
  have h1 : (trimN d p).1 ≠ 0 := by intro h; rw [h] at t4; simp at t4
  have hle : (trimN d p).1 ≤ d := by
    have : (trimN d p).1 * 1 ≤ (trimN d p).1 * 10 ^ i := Nat.mul_le_mul_left _ (Nat.pow_pos (by omega))
    omega
  exact ⟨by omega, by omega, t4, by omega, by omega⟩
/-- The word's left-justified significand. -/
def zW (mb w : Nat) : Nat := 64 - Lib.bitLen (sigW mb w)
theorem just_ok {M : Nat} (h0 : 0 < M) (h : M < 9007199254740992) : 11 ≤ 64 - Lib.bitLen M ∧ 64 - Lib.bitLen M ≤ 63 ∧ 9223372036854775808 ≤ M * 2 ^ (64 - Lib.bitLen M) ∧ M * 2 ^ (64 - Lib.bitLen M) < 18446744073709551616 := by
  obtain ⟨b1, b2, b3, b4⟩ := bitLen_spec M (by omega) h0
  have hb : Lib.bitLen M ≤ 53 := by
    rcases Nat.lt_or_ge 53 (Lib.bitLen M) with h1 | h1
    · exfalso
      have : 2 ^ 53 ≤ 2 ^ (Lib.bitLen M - 1) := Nat.pow_le_pow_right (by omega) (by omega)
      have h53 : (2 : Nat) ^ 53 = 9007199254740992 := by decide
      omega
    · exact h1
  generalize Lib.bitLen M = b at *
  have e1 : 2 ^ (b - 1) * 2 ^ (64 - b) = 9223372036854775808 := by rw [← Nat.pow_add, show b - 1 + (64 - b) = 63 from by omega]
  have e2 : 2 ^ b * 2 ^ (64 - b) = 18446744073709551616 := by rw [← Nat.pow_add, show b + (64 - b) = 64 from by omega]
  have hp : 0 < 2 ^ (64 - b) := Nat.pow_pos (by omega)
  have g1 := Nat.mul_le_mul_right (2 ^ (64 - b)) b3
  have g2 := Nat.mul_lt_mul_of_pos_right b4 hp
  omega
/-- The n-digit decimal and the shortest decimal of a word. -/
def fixP (mb : Nat) (lm : Int) (w n : Nat) : Nat × Int := fixedN (sigW mb w * 2 ^ zW mb w) (plW mb lm w - zW mb w) n
def fixD (mb : Nat) (lm : Int) (w n : Nat) : Nat × Int := trimN (fixP mb lm w n).1 (fixP mb lm w n).2
def shoP (mb : Nat) (lm : Int) (w : Nat) : Nat × Int := shortN mb lm (sigW mb w) (zW mb w) (plW mb lm w)
def shoD (mb : Nat) (lm : Int) (w : Nat) : Nat × Int := trimN (shoP mb lm w).1 (shoP mb lm w).2
theorem sig53 {f : Format} {qm : Int} (ok : FmtOk f qm) {w : Nat} (h0 : 0 < w) (h1 : w < f.infRung) : 0 < sigW f.fractionBits w ∧ sigW f.fractionBits w < 9007199254740992 := by
  obtain ⟨hf, _⟩ := fl_of_word ok h0 h1
  have h2 := hf.lt
  have : 2 ^ (f.fractionBits + 1) ≤ 2 ^ 53 := Nat.pow_le_pow_right (by omega) (by have := ok.mb2; omega)
  have h53 : (2 : Nat) ^ 53 = 9007199254740992 := by decide
  exact ⟨hf.pos, by omega⟩
theorem fixP_ok {f : Format} {qm : Int} (ok : FmtOk f qm) {w n : Nat} (h0 : 0 < w) (h1 : w < f.infRung) (hn1 : 1 ≤ n) (hn2 : n ≤ 18) :
    0 < (fixP f.fractionBits f.leastPlace w n).1 ∧ (fixP f.fractionBits f.leastPlace w n).1 < 10 ^ n ∧ -347 ≤ (fixP f.fractionBits f.leastPlace w n).2 ∧ (fixP f.fractionBits f.leastPlace w n).2 ≤ 348 := by
  obtain ⟨s1, s2⟩ := sig53 ok h0 h1
  obtain ⟨j1, j2, j3, j4⟩ := just_ok s1 s2
  obtain ⟨p1, p2⟩ := pl_range ok h0 h1
  have := ok.l1
  have := ok.q1
  obtain ⟨k1, k2, F⟩ := fixed_ok (sigW f.fractionBits w * 2 ^ zW f.fractionBits w) (plW f.fractionBits f.leastPlace w - zW f.fractionBits w) n hn1 hn2 j3 j4 (by unfold zW; omega) (by unfold zW; omega)
  have hp := fixed_pos (sigW f.fractionBits w * 2 ^ zW f.fractionBits w) (plW f.fractionBits f.leastPlace w - zW f.fractionBits w) n hn1 hn2 j3 j4 (by unfold zW; omega) (by unfold zW; omega)
  exact ⟨hp, F.dig, by unfold fixP; omega, by unfold fixP; omega⟩
theorem fixD_ok {f : Format} {qm : Int} (ok : FmtOk f qm) {w n : Nat} (h0 : 0 < w) (h1 : w < f.infRung) (hn1 : 1 ≤ n) (hn2 : n ≤ 18) :
    DOk (fixD f.fractionBits f.leastPlace w n).1 (fixD f.fractionBits f.leastPlace w n).2 ∧ Lib.nDigits (fixD f.fractionBits f.leastPlace w n).1 ≤ n := by
  obtain ⟨a, b, c, e⟩ := fixP_ok ok h0 h1 hn1 hn2
  have h18 : 10 ^ n ≤ 10 ^ 18 := Nat.pow_le_pow_right (by omega) hn2
  have e18 : (10 : Nat) ^ 18 = 1000000000000000000 := by decide
  refine ⟨trim_ok _ _ a (by omega) (by omega) (by omega), ?_⟩
  obtain ⟨i, t1, t2, t3, t4, t5⟩ := trim_digits (fixP f.fractionBits f.leastPlace w n).1 _ (fixP f.fractionBits f.leastPlace w n).2 (Nat.le_refl _) a
  have := nDigits_lt b (by omega)
  show Lib.nDigits (trimN _ _).1 ≤ n
  omega
theorem shoP_ok {f : Format} {qm : Int} (ok : FmtOk f qm) {w : Nat} (h0 : 0 < w) (h1 : w < f.infRung) :
    0 < (shoP f.fractionBits f.leastPlace w).1 ∧ (shoP f.fractionBits f.leastPlace w).1 < 1000000000000000000 ∧ -349 ≤ (shoP f.fractionBits f.leastPlace w).2 ∧ (shoP f.fractionBits f.leastPlace w).2 ≤ 349 := by
  obtain ⟨s1, s2⟩ := sig53 ok h0 h1
  obtain ⟨j1, j2, j3, j4⟩ := just_ok s1 s2
  obtain ⟨hf, _⟩ := fl_of_word ok h0 h1
  obtain ⟨a, b, c, e⟩ := short_ok f.fractionBits f.leastPlace qm (sigW f.fractionBits w) (zW f.fractionBits w) (plW f.fractionBits f.leastPlace w) hf ok.mb2 ok.l1 ok.q1 j1 j2 j4 s2
  exact ⟨a, b, by unfold shoP; omega, by unfold shoP; omega⟩
theorem shoD_ok {f : Format} {qm : Int} (ok : FmtOk f qm) {w : Nat} (h0 : 0 < w) (h1 : w < f.infRung) :
    DOk (shoD f.fractionBits f.leastPlace w).1 (shoD f.fractionBits f.leastPlace w).2 := by
  obtain ⟨a, b, c, e⟩ := shoP_ok ok h0 h1
  exact trim_ok _ _ a b c e
/-- At 18 digits the decimal is close. -/
theorem fix18_close {f : Format} {qm : Int} (ok : FmtOk f qm) {w : Nat} (h0 : 0 < w) (h1 : w < f.infRung) :
    Close (sigW f.fractionBits w) (plW f.fractionBits f.leastPlace w) (fixD f.fractionBits f.leastPlace w 18).1 (fixD f.fractionBits f.leastPlace w 18).2 := by
  obtain ⟨s1, s2⟩ := sig53 ok h0 h1
  obtain ⟨j1, j2, j3, j4⟩ := just_ok s1 s2
  obtain ⟨hf, _⟩ := fl_of_word ok h0 h1
  have := (fixP_ok ok h0 h1 (n := 18) (by omega) (by omega)).2.2.1
  have hc := fixed18_close f.fractionBits f.leastPlace qm (sigW f.fractionBits w) (plW f.fractionBits f.leastPlace w) (zW f.fractionBits w) hf ok.mb2 ok.l1 ok.q1 j3 j4 j2
  exact hc.trim (by show -800 ≤ (fixP f.fractionBits f.leastPlace w 18).2; omega)
/-- The exponent of a close decimal of 18 digits. -/
theorem fix18_low {f : Format} {qm : Int} (ok : FmtOk f qm) {w : Nat} (h0 : 0 < w) (h1 : w < f.infRung) :
    log10Pow2 f.leastPlace - 17 ≤ (fixD f.fractionBits f.leastPlace w 18).2 := by
  obtain ⟨s1, s2⟩ := sig53 ok h0 h1
  obtain ⟨j1, j2, j3, j4⟩ := just_ok s1 s2
  obtain ⟨p1, p2⟩ := pl_range ok h0 h1
  have := ok.l1
  obtain ⟨a, b, c, e⟩ := fixP_ok ok h0 h1 (n := 18) (by omega) (by omega)
  obtain ⟨i, t1, _⟩ := trim_digits (fixP f.fractionBits f.leastPlace w 18).1 _ (fixP f.fractionBits f.leastPlace w 18).2 (Nat.le_refl _) a
  show _ ≤ (trimN _ _).2
  rw [t1]
  have hmon : log10Pow2 f.leastPlace ≤ log10Pow2 (plW f.fractionBits f.leastPlace w - zW f.fractionBits w + 63) := by
    unfold log10Pow2 zW
    omega
  have h3 : log10Pow2 (plW f.fractionBits f.leastPlace w - zW f.fractionBits w + 63) - 17 ≤ (fixP f.fractionBits f.leastPlace w 18).2 := by
    unfold fixP fixedN
    simp only
    split
    · simp only; omega
    · simp only; omega
  omega
theorem close_high {M d : Nat} {q k : Int} {qm : Int} {mb : Nat} {lm : Int} (hc : Close M q d k) (hf : Fl mb lm qm M q) (hd : 0 < d) (hk : 0 ≤ k) (hq : -1200 ≤ q) (hqm : 0 ≤ qm) : 10 ^ k.toNat < 2 * (2 ^ (mb + 1) * 2 ^ qm.toNat) := by
  have h1 := hc.up
  have hlt := hf.lt
  have hle := hf.le
  have hpos := hf.pos
  have hB : B k = B 0 * 10 ^ k.toNat := by
    have := B_add 0 k.toNat (by omega)
    rw [show (0 : Int) + (k.toNat : Int) = k from by omega] at this
    exact this
  have hA : A q ≤ A 0 * 2 ^ qm.toNat := by
    have := A_add 0 qm.toNat (by omega)
    rw [← this]
    exact A_le (by omega) (by omega)
  unfold dv bv at h1
  rw [hB] at h1
  have hA0 := A_pos 0
  have hB0 := B_pos 0
  have hAq := A_pos q
  -- A 0 B 0 10^k ≤ d A 0 B 0 10^k < 2 M A q B 0
  have e1 : A 0 * (B 0 * 10 ^ k.toNat) ≤ d * A 0 * (B 0 * 10 ^ k.toNat) := by
    rw [Nat.mul_assoc d]; exact Nat.le_mul_of_pos_left _ hd
  have e2 : A q * B 0 ≤ M * A q * B 0 := by rw [Nat.mul_assoc]; exact Nat.le_mul_of_pos_left _ hpos
  have e3 : M * A q * B 0 ≤ 2 ^ (mb + 1) * (A 0 * 2 ^ qm.toNat) * B 0 := Nat.mul_le_mul_right _ (Nat.mul_le_mul (by omega) hA)
  have e4 : A 0 * (B 0 * 10 ^ k.toNat) < 2 * (2 ^ (mb + 1) * (A 0 * 2 ^ qm.toNat) * B 0) := by omega
  have e5 : A 0 * (B 0 * 10 ^ k.toNat) = (A 0 * B 0) * 10 ^ k.toNat := by rw [Nat.mul_assoc]
  have e6 : 2 * (2 ^ (mb + 1) * (A 0 * 2 ^ qm.toNat) * B 0) = (A 0 * B 0) * (2 * (2 ^ (mb + 1) * 2 ^ qm.toNat)) := by simp only [Nat.mul_assoc, Nat.mul_comm, Nat.mul_left_comm]
  rw [e5, e6] at e4
  exact Nat.lt_of_mul_lt_mul_left e4
set_option exponentiation.threshold 2000 in
theorem close_highD {M d : Nat} {q k : Int} (hc : Close M q d k) (hf : Fl 52 (-1074) 971 M q) (hd : 0 < d) : k ≤ 310 := by
  rcases Int.lt_or_le 310 k with h | h
  · exfalso
    have := close_high hc hf hd (by omega) (by have := hf.ge; omega) (by omega)
    have h2 : 10 ^ 311 ≤ 10 ^ k.toNat := Nat.pow_le_pow_right (by omega) (by omega)
    have h3 : 2 * (2 ^ (52 + 1) * 2 ^ (971 : Int).toNat) < 10 ^ 311 := by decide +kernel
    omega
  · exact h
theorem close_highS {M d : Nat} {q k : Int} (hc : Close M q d k) (hf : Fl 23 (-149) 104 M q) (hd : 0 < d) : k ≤ 40 := by
  rcases Int.lt_or_le 40 k with h | h
  · exfalso
    have := close_high hc hf hd (by omega) (by have := hf.ge; omega) (by omega)
    have h2 : 10 ^ 41 ≤ 10 ^ k.toNat := Nat.pow_le_pow_right (by omega) (by omega)
    have h3 : 2 * (2 ^ (23 + 1) * 2 ^ (104 : Int).toNat) < 10 ^ 41 := by decide
    omega
  · exact h
end Go.Proofs.Qxb6606417aGreatDoor
