import Derived.Test.Qxb6606417aGreatDoorNum4
namespace Go.Proofs.Qxb6606417aGreatDoor
set_option linter.unusedVariables false
set_option linter.unusedSimpArgs false
open Ieee

/-- What is used of the two formats. -/
structure FmtOk (f : Format) (qm : Int) : Prop where
  l1 : -1074 ≤ f.leastPlace
  l2 : f.leastPlace ≤ -149
  q1 : qm ≤ 971
  mb1 : 23 ≤ f.fractionBits
  mb2 : f.fractionBits ≤ 52
  inf : f.infRung = (qm - f.leastPlace + 2).toNat * 2 ^ f.fractionBits
  q2 : 100 ≤ qm
  sw : f.infRung < f.signWeight
theorem okD : FmtOk Ieee.double 971 := ⟨by decide, by decide, by decide, by decide, by decide, by decide, by decide, by decide⟩
theorem okS : FmtOk Ieee.single 104 := ⟨by decide, by decide, by decide, by decide, by decide, by decide, by decide, by decide⟩

/-- A word's significand and place. -/
def sigW (mb w : Nat) : Nat := if w < 2 ^ mb then w else 2 ^ mb + w % 2 ^ mb
def plW (mb : Nat) (lm : Int) (w : Nat) : Int := if w < 2 ^ mb then lm else lm + (w / 2 ^ mb - 1 : Nat)

theorem fl_of_word {f : Format} {qm : Int} (ok : FmtOk f qm) {w : Nat} (h0 : 0 < w) (h1 : w < f.infRung) :
    Fl f.fractionBits f.leastPlace qm (sigW f.fractionBits w) (plW f.fractionBits f.leastPlace w) ∧ rungN f.fractionBits f.leastPlace (sigW f.fractionBits w) (plW f.fractionBits f.leastPlace w) = w := by
  have hi := ok.inf
  have hlm := ok.l2
  have hq2 := ok.q2
  rw [hi] at h1
  clear hi ok
  generalize f.fractionBits = mb at *
  generalize f.leastPlace = lm at *
  have hp : 0 < 2 ^ mb := Nat.pow_pos (by omega)
  have hpw : 2 ^ (mb + 1) = 2 * 2 ^ mb := by rw [Nat.pow_succ, Nat.mul_comm]
  unfold sigW plW rungN
  by_cases h : w < 2 ^ mb
  · rw [if_pos h, if_pos h]
    exact ⟨⟨h0, by omega, Int.le_refl _, by omega, fun _ => rfl⟩, by simp⟩
  · rw [if_neg h, if_neg h]
    have hm := Nat.mod_lt w hp
    have hd := Nat.div_add_mod w (2 ^ mb)
    have hq : w / 2 ^ mb < (qm - lm + 2).toNat := (Nat.div_lt_iff_lt_mul hp).2 h1
    have hq1 : 1 ≤ w / 2 ^ mb := (Nat.le_div_iff_mul_le hp).2 (by omega)
    refine ⟨⟨by omega, by omega, by omega, by omega, fun hc => by omega⟩, ?_⟩
    rw [show (lm + ((w / 2 ^ mb - 1 : Nat) : Int) - lm).toNat = w / 2 ^ mb - 1 from by omega]
    rw [Nat.sub_mul, Nat.one_mul, Nat.mul_comm (w / 2 ^ mb)]
    have : 2 ^ mb ≤ 2 ^ mb * (w / 2 ^ mb) := Nat.le_mul_of_pos_right _ hq1
    omega
theorem read_word {f : Format} {qm : Int} (ok : FmtOk f qm) {w : Nat} (h1 : w < f.infRung) : f.read w = .number false (sigW f.fractionBits w) (plW f.fractionBits f.leastPlace w) := by
  have hs := ok.sw
  unfold Format.read
  have e1 : w / f.signWeight = 0 := Nat.div_eq_of_lt (by omega)
  have e2 : w % f.signWeight = w := Nat.mod_eq_of_lt (by omega)
  simp only [e1, e2]
  have hb : f.binade = 2 ^ f.fractionBits := rfl
  rw [hb]
  unfold sigW plW
  by_cases h : w < 2 ^ f.fractionBits
  · simp [h]
  · simp [h, h1]

theorem sig_rung {f : Format} {qm : Int} (ok : FmtOk f qm) {M : Nat} {q : Int} (hf : Fl f.fractionBits f.leastPlace qm M q) :
    rungN f.fractionBits f.leastPlace M q < f.infRung ∧ 0 < rungN f.fractionBits f.leastPlace M q ∧ sigW f.fractionBits (rungN f.fractionBits f.leastPlace M q) = M ∧ plW f.fractionBits f.leastPlace (rungN f.fractionBits f.leastPlace M q) = q := by
  have hi := ok.inf
  rw [hi]
  clear hi ok
  generalize f.fractionBits = mb at *
  generalize f.leastPlace = lm at *
  have hp : 0 < 2 ^ mb := Nat.pow_pos (by omega)
  have hpw : 2 ^ (mb + 1) = 2 * 2 ^ mb := by rw [Nat.pow_succ, Nat.mul_comm]
  have h1 := hf.pos
  have h2 := hf.lt
  have h3 := hf.ge
  have h4 := hf.le
  unfold sigW plW rungN
  obtain ⟨n, hn⟩ : ∃ n : Nat, (q - lm).toNat = n := ⟨_, rfl⟩
  rw [hn]
  have e1 : (n + 2) * 2 ^ mb ≤ (qm - lm + 2).toNat * 2 ^ mb := Nat.mul_le_mul_right _ (by omega)
  rw [Nat.add_mul] at e1
  refine ⟨by omega, by omega, ?_⟩
  by_cases hs : M < 2 ^ mb
  · have := hf.sub hs
    have hn0 : n = 0 := by omega
    rw [hn0, Nat.zero_mul, Nat.zero_add, if_pos hs, if_pos hs]
    exact ⟨rfl, this.symm⟩
  · have hge : ¬ n * 2 ^ mb + M < 2 ^ mb := by omega
    rw [if_neg hge, if_neg hge]
    have hM : n * 2 ^ mb + M = 2 ^ mb * (n + 1) + (M - 2 ^ mb) := by rw [Nat.mul_add, Nat.mul_one, Nat.mul_comm (2 ^ mb)]; omega
    rw [hM, Nat.mul_add_mod, Nat.mod_eq_of_lt (by omega), Nat.mul_add_div hp, Nat.div_eq_of_lt (show M - 2 ^ mb < 2 ^ mb by omega)]
    exact ⟨by omega, by omega⟩

/-- The value of a word, scaled. -/
def wv (f : Format) (w : Nat) : Nat := bv (sigW f.fractionBits w) (plW f.fractionBits f.leastPlace w)
/-- A whole number that fits the significand, as a word. -/
theorem int_word {f : Format} {qm : Int} (ok : FmtOk f qm) {D : Nat} (h0 : 0 < D) (h1 : D < 2 ^ (f.fractionBits + 1)) : f.nearest false D 0 < f.infRung ∧ 0 < f.nearest false D 0 ∧ wv f (f.nearest false D 0) = bv D 0 := by
  have hm1 := ok.mb1
  have hm2 := ok.mb2
  have hl1 := ok.l1
  have hl2 := ok.l2
  have hq1 := ok.q1
  have hq2 := ok.q2
  obtain ⟨L, hL⟩ : ∃ L, D.log2 = L := ⟨_, rfl⟩
  have g1 : 2 ^ L ≤ D := by rw [← hL]; exact Nat.log2_self_le (by omega)
  have g2 : D < 2 ^ (L + 1) := by rw [← hL]; exact Nat.lt_log2_self
  have hLm : L ≤ f.fractionBits := by
    have h5 : 2 ^ L < 2 ^ (f.fractionBits + 1) := Nat.lt_of_le_of_lt g1 h1
    have := (Nat.pow_lt_pow_iff_right (a := 2) (by omega)).1 h5
    omega
  have a1 : 2 ^ L * 2 ^ (f.fractionBits - L) = 2 ^ f.fractionBits := by rw [← Nat.pow_add]; congr 1; omega
  have a2 : 2 ^ (L + 1) * 2 ^ (f.fractionBits - L) = 2 ^ (f.fractionBits + 1) := by rw [← Nat.pow_add]; congr 1; omega
  have hk : 0 < 2 ^ (f.fractionBits - L) := Nat.pow_pos (by omega)
  have b1 : 2 ^ f.fractionBits ≤ D * 2 ^ (f.fractionBits - L) := by rw [← a1]; exact Nat.mul_le_mul_right _ g1
  have b2 : D * 2 ^ (f.fractionBits - L) < 2 ^ (f.fractionBits + 1) := by rw [← a2]; exact Nat.mul_lt_mul_of_pos_right g2 hk
  have hf : Fl f.fractionBits f.leastPlace qm (D * 2 ^ (f.fractionBits - L)) ((L : Int) - f.fractionBits) := ⟨by have := Nat.pow_pos (n := f.fractionBits) (show 0 < 2 by omega); omega, b2, by omega, by omega, fun h => by omega⟩
  have hA : A 0 = A ((L : Int) - f.fractionBits) * 2 ^ (f.fractionBits - L) := A_split (by omega) (by omega)
  have hbv : bv D 0 = bv (D * 2 ^ (f.fractionBits - L)) ((L : Int) - f.fractionBits) := by
    unfold bv
    rw [hA]
    simp only [Nat.mul_assoc, Nat.mul_comm, Nat.mul_left_comm]
  obtain ⟨r1, r2, r3, r4⟩ := sig_rung ok hf
  have hpos : 0 < A ((L : Int) - f.fractionBits) * B 0 := Nat.mul_pos (A_pos _) (B_pos 0)
  have hn := nearest_eq f qm _ _ D 0 hf hl1 hq1 (by omega) hm2 (by omega) (by omega) h0 ⟨by rw [hbv]; omega, by rw [hbv]; omega, fun _ => by rw [hbv]; omega⟩ r1
  rw [hn]
  refine ⟨r1, r2, ?_⟩
  unfold wv
  rw [r3, r4, hbv]

/-- A product that is near to a number of the format. -/
theorem mul_word {f : Format} {qm : Int} (ok : FmtOk f qm) {x y : Nat} (hx : x < f.infRung) (hy : y < f.infRung) : f.mul x y = some (f.nearest false (sigW f.fractionBits x * sigW f.fractionBits y) (plW f.fractionBits f.leastPlace x + plW f.fractionBits f.leastPlace y)) := by
  unfold Format.mul
  rw [read_word ok hx, read_word ok hy]
  rfl
theorem pl_range {f : Format} {qm : Int} (ok : FmtOk f qm) {w : Nat} (h0 : 0 < w) (h1 : w < f.infRung) : f.leastPlace ≤ plW f.fractionBits f.leastPlace w ∧ plW f.fractionBits f.leastPlace w ≤ qm := by
  obtain ⟨h, _⟩ := fl_of_word ok h0 h1
  exact ⟨h.ge, h.le⟩
/-- The product's value, scaled: (D as x) * (10^t as y) = D * 10^t. -/
theorem mul_value {f : Format} {x y D t : Nat} (hx : wv f x = bv D 0) (hy : wv f y = bv (10 ^ t) 0) (h1 : -1000 ≤ plW f.fractionBits f.leastPlace x) (h2 : -1000 ≤ plW f.fractionBits f.leastPlace y) :
    bv (sigW f.fractionBits x * sigW f.fractionBits y) (plW f.fractionBits f.leastPlace x + plW f.fractionBits f.leastPlace y) = dv D t := by
  unfold wv at hx hy
  generalize sigW f.fractionBits x = m at *
  generalize sigW f.fractionBits y = n at *
  generalize plW f.fractionBits f.leastPlace x = i at *
  generalize plW f.fractionBits f.leastPlace y = j at *
  have hA : A (i + j) * A 0 = A i * A j := A_mul _ _ _ _ (by omega) (by omega) (by omega) (by omega) (by omega)
  have hB : B (t : Int) = B 0 * 10 ^ t := by
    have := B_add 0 t (by omega)
    rw [Int.zero_add] at this; exact this
  unfold bv at hx hy ⊢
  unfold dv
  have hx' : m * A i = D * A 0 := Nat.eq_of_mul_eq_mul_right (B_pos 0) hx
  have hy' : n * A j = 10 ^ t * A 0 := Nat.eq_of_mul_eq_mul_right (B_pos 0) hy
  refine Nat.eq_of_mul_eq_mul_right (A_pos 0) ?_
  calc m * n * A (i + j) * B 0 * A 0 = m * n * (A (i + j) * A 0) * B 0 := by simp only [Nat.mul_assoc, Nat.mul_comm, Nat.mul_left_comm]
    _ = (m * A i) * (n * A j) * B 0 := by rw [hA]; simp only [Nat.mul_assoc, Nat.mul_comm, Nat.mul_left_comm]
    _ = D * A 0 * B (t : Int) * A 0 := by rw [hx', hy', hB]; simp only [Nat.mul_assoc, Nat.mul_comm, Nat.mul_left_comm]
theorem Close.near {mb M d : Nat} {q k : Int} {v : Nat} (h : Close M q d k) (hv : v = dv d k) : Near mb M q v := by
  have h1 := h.up
  have h2 := h.lo
  rw [hv]
  exact ⟨by omega, by omega, fun _ => by omega⟩
theorem sig_pos {mb w : Nat} (h : 0 < w) : 0 < sigW mb w := by
  unfold sigW
  have := Nat.pow_pos (n := mb) (show 0 < 2 by omega)
  split <;> omega
/-- THE EXACT PRODUCT: d * 10^t, rounded once, is the number that it is close to. -/
theorem exact_mul {f : Format} {qm : Int} (ok : FmtOk f qm) {x y D t M : Nat} {q : Int} (hf : Fl f.fractionBits f.leastPlace qm M q) (hx0 : 0 < x) (hx1 : x < f.infRung) (hy0 : 0 < y) (hy1 : y < f.infRung) (hx : wv f x = bv D 0) (hy : wv f y = bv (10 ^ t) 0)
    (h1 : -1000 ≤ plW f.fractionBits f.leastPlace x) (h2 : -900 ≤ plW f.fractionBits f.leastPlace y) (hc : Close M q D t) : f.mul x y = some (rungN f.fractionBits f.leastPlace M q) := by
  rw [mul_word ok hx1 hy1]
  have px := pl_range ok hx0 hx1
  have py := pl_range ok hy0 hy1
  have := ok.l1
  have := ok.q1
  have := ok.mb1
  obtain ⟨r1, _⟩ := sig_rung ok hf
  rw [nearest_eq f qm M q _ _ hf ok.l1 ok.q1 (by omega) ok.mb2 (by omega) (by omega) (Nat.mul_pos (sig_pos hx0) (sig_pos hy0)) (hc.near (mul_value hx hy (by omega) (by omega))) r1]
end Go.Proofs.Qxb6606417aGreatDoor
