import Derived.Test.Qxb6606417aGreatDoorNum9
namespace Go.Proofs.Qxb6606417aGreatDoor
set_option linter.unusedVariables false
set_option linter.unusedSimpArgs false
open Ieee

theorem cut_range (n drop : Nat) (h : drop ≤ n.log2 + 2) : n / 2 ^ drop ≤ Toward.even.cut false n drop ∧ Toward.even.cut false n drop ≤ n / 2 ^ drop + 1 := by
  unfold Toward.cut
  rw [Nat.min_eq_left h]
  simp only [shl_eq, Nat.one_mul]
  generalize (decide (2 ^ drop < 2 * (n % 2 ^ drop)) || 2 ^ drop == 2 * (n % 2 ^ drop) && n / 2 ^ drop % 2 == 1) = b
  cases b
  · exact ⟨Nat.le_refl _, Nat.le_add_right _ _⟩
  · exact ⟨Nat.le_add_right _ _, Nat.le_refl _⟩
/-- Where the nearest word lies. -/
theorem nearest_range (f : Format) (mag : Nat) (place : Int) (h0 : 0 < mag) (hn : f.leastPlace ≤ place + mag.log2 - f.fractionBits) :
    ∃ K, 2 ^ f.fractionBits ≤ K ∧ K ≤ 2 ^ (f.fractionBits + 1) ∧ f.nearest false mag place = min ((place + mag.log2 - f.fractionBits - f.leastPlace).toNat * 2 ^ f.fractionBits + K) f.infRung := by
  have g1 : 2 ^ mag.log2 ≤ mag := Nat.log2_self_le (by omega)
  have g2 : mag < 2 ^ (mag.log2 + 1) := Nat.lt_log2_self
  unfold Format.nearest
  rw [if_neg (by omega), show max (place + (mag.log2 : Int) - f.fractionBits) f.leastPlace = place + mag.log2 - f.fractionBits from by omega]
  simp only [Format.word, Format.binade, shl_eq]
  have e1 : (place - (place + (mag.log2 : Int) - f.fractionBits)).toNat = f.fractionBits - mag.log2 := by omega
  have e2 : (place + (mag.log2 : Int) - f.fractionBits - place).toNat = mag.log2 - f.fractionBits := by omega
  rw [e1, e2]
  generalize mag.log2 = L at *
  generalize f.fractionBits = fb at *
  have hfb : 0 < 2 ^ fb := Nat.pow_pos (by omega)
  refine ⟨Toward.even.cut false (mag * 2 ^ (fb - L)) (L - fb), ?_, ?_, by simp⟩
  · by_cases h : L ≤ fb
    · have a1 : 2 ^ L * 2 ^ (fb - L) = 2 ^ fb := by rw [← Nat.pow_add]; congr 1; omega
      obtain ⟨c1, c2⟩ := cut_range (mag * 2 ^ (fb - L)) (L - fb) (by omega)
      rw [show L - fb = 0 from by omega] at c1 ⊢
      have := Nat.mul_le_mul_right (2 ^ (fb - L)) g1
      simp at c1
      omega
    · rw [show fb - L = 0 from by omega, Nat.pow_zero, Nat.mul_one]
      obtain ⟨c1, c2⟩ := cut_range mag (L - fb) (by have := (Nat.le_log2 (n := mag) (by omega)).2 g1; omega)
      refine Nat.le_trans ?_ c1
      rw [Nat.le_div_iff_mul_le (Nat.pow_pos (by omega)), ← Nat.pow_add, show fb + (L - fb) = L from by omega]
      exact g1
  · by_cases h : L ≤ fb
    · have a1 : 2 ^ (L + 1) * 2 ^ (fb - L) = 2 ^ (fb + 1) := by rw [← Nat.pow_add]; congr 1; omega
      have := Nat.mul_lt_mul_of_pos_right g2 (Nat.pow_pos (n := fb - L) (show 0 < 2 by omega))
      rw [show L - fb = 0 from by omega, cut_zero]
      omega
    · rw [show fb - L = 0 from by omega, Nat.pow_zero, Nat.mul_one]
      obtain ⟨c1, c2⟩ := cut_range mag (L - fb) (by have := (Nat.le_log2 (n := mag) (by omega)).2 g1; omega)
      refine Nat.le_trans c2 ?_
      have : mag / 2 ^ (L - fb) < 2 ^ (fb + 1) := by
        rw [Nat.div_lt_iff_lt_mul (Nat.pow_pos (by omega)), ← Nat.pow_add, show fb + 1 + (L - fb) = L + 1 from by omega]
        exact g2
      omega
/-- A product of two words of moderate size is a word. -/
theorem mul_moderate {f : Format} {qm : Int} (ok : FmtOk f qm) {x y : Nat} (hx0 : 0 < x) (hx : x < f.infRung) (hy0 : 0 < y) (hy : y < f.infRung)
    (hpx : -60 ≤ plW f.fractionBits f.leastPlace x) (hpy : -60 ≤ plW f.fractionBits f.leastPlace y) (hq : plW f.fractionBits f.leastPlace x + plW f.fractionBits f.leastPlace y + f.fractionBits + 2 ≤ qm) (hsum : f.leastPlace + f.fractionBits ≤ plW f.fractionBits f.leastPlace x + plW f.fractionBits f.leastPlace y) :
    ∃ z, f.mul x y = some z ∧ 0 < z ∧ z < f.infRung := by
  obtain ⟨fx, _⟩ := fl_of_word ok hx0 hx
  obtain ⟨fy, _⟩ := fl_of_word ok hy0 hy
  have hmp : 0 < sigW f.fractionBits x * sigW f.fractionBits y := Nat.mul_pos fx.pos fy.pos
  have hl : (sigW f.fractionBits x * sigW f.fractionBits y).log2 < 2 * f.fractionBits + 2 := by
    rw [Nat.log2_lt (by omega)]
    have := Nat.mul_lt_mul_of_lt_of_lt fx.lt fy.lt
    rw [← Nat.pow_add, show f.fractionBits + 1 + (f.fractionBits + 1) = 2 * f.fractionBits + 2 from by omega] at this
    exact this
  have hm1 := ok.mb1
  have hinf := ok.inf
  rw [mul_word ok hx hy]
  obtain ⟨K, k1, k2, k3⟩ := nearest_range f _ (plW f.fractionBits f.leastPlace x + plW f.fractionBits f.leastPlace y) hmp (by omega)
  generalize sigW f.fractionBits x * sigW f.fractionBits y = mag at *
  generalize plW f.fractionBits f.leastPlace x + plW f.fractionBits f.leastPlace y = pl at *
  refine ⟨_, rfl, ?_⟩
  rw [k3]
  have hp : 0 < 2 ^ f.fractionBits := Nat.pow_pos (by omega)
  have hpw : 2 ^ (f.fractionBits + 1) = 2 * 2 ^ f.fractionBits := by rw [Nat.pow_succ, Nat.mul_comm]
  have h3 : (pl + mag.log2 - f.fractionBits - f.leastPlace).toNat + 3 ≤ (qm - f.leastPlace + 2).toNat := by omega
  have h4 := Nat.mul_le_mul_right (2 ^ f.fractionBits) h3
  rw [Nat.add_mul] at h4
  rw [← hinf] at h4
  omega
end Go.Proofs.Qxb6606417aGreatDoor
