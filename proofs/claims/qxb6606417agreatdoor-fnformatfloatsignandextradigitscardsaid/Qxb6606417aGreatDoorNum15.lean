import Derived.Test.Qxb6606417aGreatDoorWalkY
namespace Go.Proofs.Qxb6606417aGreatDoor
open Go.RowKit Go.PlainAid
set_option linter.unusedVariables false
set_option linter.unusedSimpArgs false
set_option maxRecDepth 100000

theorem nearest_le_inf (f : Ieee.Format) (m : Nat) (e : Int) : f.nearest false m e ≤ f.infRung := by
  unfold Ieee.Format.nearest
  split
  · show (0 : Nat) ≤ _; omega
  · show min _ _ ≤ _
    exact Nat.min_le_right _ _
theorem parseS_u (x : Nat) (k : Int) (D : DP x k) (h1 : -70 ≤ k) (h2 : k ≤ 40) (hs : ¬ 64 ≤ parseS 23 (-149) (Lib.bitLen x) k) : parseU 23 (-149) x (Lib.bitLen x) k ≤ 134217729 := by
  obtain ⟨b1, b2, b3, b4⟩ := bitLen_spec x (by have := D.lt; omega) D.pos
  have hPE : parseE 23 (-149) (Lib.bitLen x) k = min 149 (24 - (Lib.bitLen x : Int) - log2Pow10 k) := by unfold parseE; rfl
  have hPS : parseS 23 (-149) (Lib.bitLen x) k = -(parseE 23 (-149) (Lib.bitLen x) k - (64 - (Lib.bitLen x : Int)) + log2Pow10 k + 3) := rfl
  have hS : 37 ≤ parseS 23 (-149) (Lib.bitLen x) k := by rw [hPS, hPE]; omega
  unfold parseU
  obtain ⟨g1, g2, g3⟩ := hi_ge k (by omega) (by omega)
  have j4 : x * 2 ^ (64 - Lib.bitLen x) < 18446744073709551616 := by
    have := Nat.mul_lt_mul_of_pos_right b4 (Nat.pow_pos (n := 64 - Lib.bitLen x) (show 0 < 2 by omega))
    rw [← Nat.pow_add, show Lib.bitLen x + (64 - Lib.bitLen x) = 64 from by omega] at this
    exact this
  refine uscale_le _ _ _ _ 134217728 ?_
  have h1 : x * 2 ^ (64 - Lib.bitLen x) * tabHi k / 18446744073709551616 < 18446744073709551616 := Nat.div_lt_of_lt_mul (Nat.mul_lt_mul'' j4 g2)
  have h2 : 2 ^ 37 ≤ 2 ^ (parseS 23 (-149) (Lib.bitLen x) k).toNat := Nat.pow_le_pow_right (by omega) (by omega)
  have h3 : x * 2 ^ (64 - Lib.bitLen x) * tabHi k / 18446744073709551616 / 2 ^ (parseS 23 (-149) (Lib.bitLen x) k).toNat ≤ x * 2 ^ (64 - Lib.bitLen x) * tabHi k / 18446744073709551616 / 2 ^ 37 := Nat.div_le_div_left h2 (by decide)
  have e8 : (2 : Nat) ^ 37 = 137438953472 := by decide
  rw [e8] at h3
  omega
theorem packS_le (m : Nat) (e : Int) (hm : m ≤ 16777216) (he : -149 ≤ e) : (packW 23 32 (-149) 104 2139095040 m e).1 ≤ 2139095040 := by
  unfold packW
  have e23 : (2 : Nat) ^ 23 = 8388608 := by decide
  split
  · show m ≤ _; omega
  · rename_i h
    split
    · exact Nat.le_refl _
    · rename_i h2
      show _ ||| _ ≤ _
      have hge : 2 ^ 23 ≤ m := by
        rcases Nat.lt_or_ge m (2 ^ 23) with h3 | h3
        · exact absurd (and_pow_low h3) h
        · exact h3
      have hlt : m < 2 ^ (23 + 1) := by
        rcases Nat.lt_or_ge m (2 ^ (23 + 1)) with h3 | h3
        · exact h3
        · have : m = 16777216 := by have e24 : (2 : Nat) ^ (23 + 1) = 16777216 := by decide
                                    omega
          rw [this] at h
          exact absurd (by decide) h
      rw [clear_bit hge hlt (by omega), Nat.or_comm, Nat.mul_comm, ← Nat.two_pow_add_eq_or_of_lt (by rw [Nat.pow_succ] at hlt; omega)]
      rw [e23] at *
      have e24 : (2 : Nat) ^ (23 + 1) = 16777216 := by decide
      rw [e24] at hlt
      have ht : (e + 1 - -149).toNat ≤ 254 := by omega
      omega
theorem numS_le (x : Nat) (k : Int) (D : DP x k) : (numS x k).1 ≤ 2139095040 := by
  unfold numS
  split
  · exact Nat.le_refl _
  · split
    · show 0 ≤ _; omega
    · rename_i h1 h2
      have hpw : (parseW 23 32 (-149) 104 2139095040 x k).1 ≤ 2139095040 := by
        unfold parseW
        split
        · show 0 ≤ _; omega
        · rename_i hs
          have hu := parseS_u x k D (by omega) (by omega) hs
          refine packS_le _ _ ?_ ?_
          · unfold parseN
            simp only
            generalize parseU 23 (-149) x (Lib.bitLen x) k = u at hu
            have e24 : (2 : Nat) ^ (23 + 1) = 16777216 := by decide
            rw [e24]
            split
            · show roundN _ ≤ _
              have := (or_bit (u / 2) (u % 2) (by omega)).2
              generalize u / 2 ||| u % 2 = v at this
              unfold roundN
              omega
            · show roundN _ ≤ _
              unfold roundN
              omega
          · unfold parseN
            simp only
            have hPE : parseE 23 (-149) (Lib.bitLen x) k ≤ 149 := by unfold parseE; omega
            split
            · show -149 ≤ -(_ - 1); omega
            · show -149 ≤ -_; omega
      cases hE : exactW Ieee.single 7 10 1259902592 tabS x k with
      | none => exact hpw
      | some r =>
        show r ≤ 2139095040
        have hinf : Ieee.single.infRung = 2139095040 := by decide
        rw [← hinf]
        have e52 : (2 : Nat) ^ Ieee.single.fractionBits = 8388608 := by decide
        unfold exactW at hE
        rw [e52] at hE
        split at hE
        · cases hE
        · rename_i hd
          obtain ⟨x0, x1, _⟩ := step_word okS D.pos (by rw [e52]; omega)
          split at hE
          · cases hE; exact nearest_le_inf _ _ _
          · split at hE
            · rename_i h3
              split at hE
              · rename_i h4
                obtain ⟨z, hz, z0, z1⟩ := step_mul okS D.pos (by rw [e52]; omega) (tabS_ok (k - ((10 : Nat) : Int)).toNat (by omega)) (by decide) (by decide)
                rw [hz, Option.getD_some] at hE
                split at hE
                · cases hE
                · rw [mul_word okS z1 (tabS_ok 10 (by omega)).lt] at hE
                  cases hE
                  exact nearest_le_inf _ _ _
              · split at hE
                · cases hE
                · rw [mul_word okS x1 (tabS_ok k.toNat (by omega)).lt] at hE
                  cases hE
                  exact nearest_le_inf _ _ _
            · split at hE
              · rw [div_word okS x1 (tabS_ok (-k).toNat (by omega)).lt (tabS_ok (-k).toNat (by omega)).pos _ rfl] at hE
                cases hE
                exact nearest_le_inf _ _ _
              · cases hE
/-- A float32's word as a float64's. -/
def widW (r : Nat) : Nat := (floatToFloatBits .f32 r .f64).getD 0
theorem wid_ok (r : Nat) (h : r ≤ 2139095040) : floatToFloatBits .f32 r .f64 = some (widW r) := by
  have key : ∃ v, floatToFloatBits .f32 r .f64 = some v := by
    by_cases hi : r = 2139095040
    · subst hi
      exact ⟨_, rfl⟩
    · have hr : r < Ieee.single.infRung := by have : Ieee.single.infRung = 2139095040 := by decide
                                              omega
      have hdec : FloatKind.f32.decode r = .number false (sigW 23 r) (plW 23 (-149) r) := read_word okS hr
      unfold floatToFloatBits
      rw [if_neg (by decide), hdec]
      simp only
      have hfin : (FloatKind.f64.encode (.number false (sigW 23 r) (plW 23 (-149) r))) < Ieee.double.infRung := by
        show Ieee.double.nearest false (sigW 23 r) (plW 23 (-149) r) < _
        by_cases h0 : r = 0
        · subst h0; decide
        · obtain ⟨fl, _⟩ := fl_of_word okS (by omega) hr
          have hfl : Fl 23 (-149) 104 (sigW 23 r) (plW 23 (-149) r) := fl
          have hlog : (sigW 23 r).log2 < 24 := by
            rw [Nat.log2_lt (by have := hfl.pos; omega)]
            exact hfl.lt
          have a1 := hfl.ge
          have a2 := hfl.le
          have dl : Ieee.double.leastPlace = -1074 := by decide
          have df : Ieee.double.fractionBits = 52 := rfl
          obtain ⟨K, k1, k2, k3⟩ := nearest_range Ieee.double (sigW 23 r) (plW 23 (-149) r) hfl.pos (by rw [dl, df]; omega)
          rw [k3, dl, df]
          rw [df] at k2
          have di : Ieee.double.infRung = 9218868437227405312 := by decide
          have e53 : (2 : Nat) ^ (52 + 1) = 9007199254740992 := by decide
          have e52 : (2 : Nat) ^ 52 = 4503599627370496 := by decide
          rw [e53] at k2
          rw [di, e52]
          have ht : (plW 23 (-149) r + (sigW 23 r).log2 - ((52 : Nat) : Int) - -1074).toNat ≤ 1149 := by omega
          generalize (plW 23 (-149) r + (sigW 23 r).log2 - ((52 : Nat) : Int) - -1074).toNat = t at ht
          refine Nat.lt_of_le_of_lt (Nat.min_le_left _ _) ?_
          clear k3 k1 hfl fl hr hdec a1 a2 hlog dl df di e53 e52 h hi h0
          have h3 : t * 4503599627370496 ≤ 1149 * 4503599627370496 := Nat.mul_le_mul_right _ ht
          omega
      have hread : FloatKind.f64.decode (FloatKind.f64.encode (.number false (sigW 23 r) (plW 23 (-149) r))) = .number false _ _ := read_word okD hfin
      rw [hread]
      exact ⟨_, rfl⟩
  obtain ⟨v, hv⟩ := key
  unfold widW
  rw [hv]; rfl
end Go.Proofs.Qxb6606417aGreatDoor
