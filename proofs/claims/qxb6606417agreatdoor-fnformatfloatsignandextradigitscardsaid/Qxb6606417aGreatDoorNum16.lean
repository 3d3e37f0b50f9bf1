import Derived.Test.Qxb6606417aGreatDoorNum14
import Derived.Laws.FloatArith
namespace Go.Proofs.Qxb6606417aGreatDoor
set_option linter.unusedVariables false
set_option linter.unusedSimpArgs false
open Ieee

/-- A number that equals a word's is rounded to that word. -/
theorem near_word {f : Format} {qm : Int} (ok : FmtOk f qm) {w : Nat} (h0 : 0 < w) (h1 : w < f.infRung) {mag : Nat} {place : Int} (hm : 0 < mag) (p1 : -1990 ≤ place) (p2 : place ≤ 3000) (hv : bv mag place = wv f w) : f.nearest false mag place = w := by
  obtain ⟨fl, hr⟩ := fl_of_word ok h0 h1
  have hp : 0 < A (plW f.fractionBits f.leastPlace w) * B 0 := Nat.mul_pos (A_pos _) (B_pos 0)
  unfold wv at hv
  have := nearest_eq f qm _ _ mag place fl ok.l1 ok.q1 (by have := ok.mb1; omega) ok.mb2 p1 p2 hm ⟨by rw [hv]; omega, by rw [hv]; omega, fun _ => by rw [hv]; omega⟩ (by rw [hr]; exact h1)
  rw [this, hr]
/-- A number that fits the significand keeps its value. -/
theorem place_word {f : Format} {qm : Int} (ok : FmtOk f qm) {D : Nat} {e : Int} (h0 : 0 < D) (h1 : D < 2 ^ (f.fractionBits + 1)) (e1 : f.leastPlace ≤ e + D.log2 - f.fractionBits) (e2 : e + D.log2 - f.fractionBits ≤ qm) (e3 : -1000 ≤ e) (e4 : e ≤ 1000) :
    f.nearest false D e < f.infRung ∧ 0 < f.nearest false D e ∧ wv f (f.nearest false D e) = bv D e := by
  have hm1 := ok.mb1
  have hm2 := ok.mb2
  have hl1 := ok.l1
  have hl2 := ok.l2
  have hq1 := ok.q1
  have hq2 := ok.q2
  obtain ⟨L, hL⟩ : ∃ L, D.log2 = L := ⟨_, rfl⟩
  rw [hL] at e1 e2
  have g1 : 2 ^ L ≤ D := by rw [← hL]; exact Nat.log2_self_le (by omega)
  have g2 : D < 2 ^ (L + 1) := by rw [← hL]; exact Nat.lt_log2_self
  have hLm : L ≤ f.fractionBits := by
    have h5 : 2 ^ L < 2 ^ (f.fractionBits + 1) := Nat.lt_of_le_of_lt g1 h1
    have := (Nat.pow_lt_pow_iff_right (a := 2) (by omega)).1 h5
    omega
  have a1 : 2 ^ L * 2 ^ (f.fractionBits - L) = 2 ^ f.fractionBits := by rw [← Nat.pow_add]; congr 1; omega
  have a2 : 2 ^ (L + 1) * 2 ^ (f.fractionBits - L) = 2 ^ (f.fractionBits + 1) := by rw [← Nat.pow_add]; congr 1; omega
  have hk : 0 < 2 ^ (f.fractionBits - L) := Nat.pow_pos (by omega)
  have b1 : 2 ^ f.fractionBits ≤ D * 2 ^ (f.fractionBits - L) := by rw [← a1]; exact Nat.mul_le_mul_right _ g1
  have b2 : D * 2 ^ (f.fractionBits - L) < 2 ^ (f.fractionBits + 1) := by rw [← a2]; exact Nat.mul_lt_mul_of_pos_right g2 hk
  have hf : Fl f.fractionBits f.leastPlace qm (D * 2 ^ (f.fractionBits - L)) (e + (L : Int) - f.fractionBits) := ⟨by have := Nat.pow_pos (n := f.fractionBits) (show 0 < 2 by omega); omega, b2, by omega, by omega, fun h => by omega⟩
  have hA : A e = A (e + (L : Int) - f.fractionBits) * 2 ^ (f.fractionBits - L) := A_split (by omega) (by omega)
  have hbv : bv D e = bv (D * 2 ^ (f.fractionBits - L)) (e + (L : Int) - f.fractionBits) := by
    unfold bv
    rw [hA]
    simp only [Nat.mul_assoc, Nat.mul_comm, Nat.mul_left_comm]
  obtain ⟨r1, r2, r3, r4⟩ := sig_rung ok hf
  have hpos : 0 < A (e + (L : Int) - f.fractionBits) * B 0 := Nat.mul_pos (A_pos _) (B_pos 0)
  have hn := nearest_eq f qm _ _ D e hf hl1 hq1 (by omega) hm2 (by omega) (by omega) h0 ⟨by rw [hbv]; omega, by rw [hbv]; omega, fun _ => by rw [hbv]; omega⟩ r1
  rw [hn]
  refine ⟨r1, r2, ?_⟩
  unfold wv
  rw [r3, r4, hbv]
theorem order_eq_bv {f : Format} {qm : Int} (ok : FmtOk f qm) {a b : Nat} (ha0 : 0 < a) (ha : a < f.infRung) (hb0 : 0 < b) (hb : b < f.infRung) (h : f.order a b = some .eq) : wv f a = wv f b := by
  have l1 := ok.l1
  have pa := (pl_range ok ha0 ha).1
  have pb := (pl_range ok hb0 hb).1
  unfold Format.order at h
  rw [read_word ok ha, read_word ok hb] at h
  unfold wv bv
  generalize sigW f.fractionBits a = m at *
  generalize sigW f.fractionBits b = n at *
  generalize plW f.fractionBits f.leastPlace a = i at *
  generalize plW f.fractionBits f.leastPlace b = j at *
  simp only [Ieee.Datum.order, Ieee.signed, Option.some.injEq, Bool.false_eq_true, if_false] at h
  rw [Int.compare_eq_eq] at h
  have h' : m <<< (i - min i j).toNat = n <<< (j - min i j).toNat := by exact_mod_cast h
  rw [shl_eq, shl_eq] at h'
  have hi : A i = A (min i j) * 2 ^ (i - min i j).toNat := A_split (by omega) (by omega)
  have hj : A j = A (min i j) * 2 ^ (j - min i j).toNat := A_split (by omega) (by omega)
  rw [hi, hj]
  congr 1
  calc m * (A (min i j) * 2 ^ (i - min i j).toNat) = A (min i j) * (m * 2 ^ (i - min i j).toNat) := Nat.mul_left_comm _ _ _
    _ = A (min i j) * (n * 2 ^ (j - min i j).toNat) := by rw [h']
    _ = _ := Nat.mul_left_comm _ _ _
/-- Equal in order, equal as words. -/
theorem order_eq_word {f : Format} {qm : Int} (ok : FmtOk f qm) {a b : Nat} (ha0 : 0 < a) (ha : a < f.infRung) (hb0 : 0 < b) (hb : b < f.infRung) (h : f.order a b = some .eq) : a = b := by
  have hv := order_eq_bv ok ha0 ha hb0 hb h
  have pa := pl_range ok ha0 ha
  have l1 := ok.l1
  have q1 := ok.q1
  have e1 := near_word ok ha0 ha (mag := sigW f.fractionBits a) (place := plW f.fractionBits f.leastPlace a) (sig_pos ha0) (by omega) (by omega) rfl
  have e2 := near_word ok hb0 hb (mag := sigW f.fractionBits a) (place := plW f.fractionBits f.leastPlace a) (sig_pos ha0) (by omega) (by omega) hv
  rw [← e1, e2]
theorem rd32 {r : Nat} (h : r < 2139095040) : FloatKind.f32.decode r = .number false (sigW 23 r) (plW 23 (-149) r) := read_word okS h
theorem rd64 {r : Nat} (h : r < 9218868437227405312) : FloatKind.f64.decode r = .number false (sigW 52 r) (plW 52 (-1074) r) := read_word okD h
/-- A single's word, widened: the value stays. -/
theorem wid_value {r : Nat} (h0 : 0 < r) (h : r < 2139095040) : ∃ u, floatToFloatBits .f32 r .f64 = some u ∧ 0 < u ∧ u < 9218868437227405312 ∧ wv double u = wv single r := by
  obtain ⟨fl, hr⟩ := fl_of_word okS h0 (show r < Ieee.single.infRung from h)
  have hfl : Fl 23 (-149) 104 (sigW 23 r) (plW 23 (-149) r) := fl
  have hlog : (sigW 23 r).log2 < 24 := by
    rw [Nat.log2_lt (by have := hfl.pos; omega)]
    exact hfl.lt
  have a1 := hfl.ge
  have a2 := hfl.le
  have dl : Ieee.double.leastPlace = -1074 := by decide
  have df : Ieee.double.fractionBits = 52 := rfl
  have hlt := hfl.lt
  obtain ⟨b1, b2, b3⟩ := place_word okD (D := sigW 23 r) (e := plW 23 (-149) r) hfl.pos (by rw [df]; exact Nat.lt_of_lt_of_le hlt (by decide)) (by rw [dl, df]; omega) (by rw [df]; omega) (by omega) (by omega)
  refine ⟨Ieee.double.nearest false (sigW 23 r) (plW 23 (-149) r), ?_, b2, b1, b3⟩
  unfold floatToFloatBits
  rw [if_neg (by decide), rd32 h]
  show (if (FloatKind.f64.decode (Ieee.double.nearest false (sigW 23 r) (plW 23 (-149) r))).isInfinity then none else some (Ieee.double.nearest false (sigW 23 r) (plW 23 (-149) r))) = _
  rw [rd64 b1]
  rfl
/-- A double that equals a single: narrowing it gives that single. -/
theorem nar_value {V r : Nat} (hV0 : 0 < V) (hV : V < 9218868437227405312) (h0 : 0 < r) (h : r < 2139095040) (hv : wv double V = wv single r) : floatToFloatBits .f64 V .f32 = some r := by
  have pa := pl_range okD hV0 (show V < Ieee.double.infRung from hV)
  have dl : Ieee.double.leastPlace = -1074 := by decide
  have df : Ieee.double.fractionBits = 52 := rfl
  rw [dl, df] at pa
  have hn : Ieee.single.nearest false (sigW 52 V) (plW 52 (-1074) V) = r := near_word okS h0 h (sig_pos hV0) (by omega) (by omega) hv
  unfold floatToFloatBits
  rw [if_neg (by decide), rd64 hV]
  show (if (FloatKind.f32.decode (Ieee.single.nearest false (sigW 52 V) (plW 52 (-1074) V))).isInfinity then none else some (Ieee.single.nearest false (sigW 52 V) (plW 52 (-1074) V))) = _
  rw [hn, rd32 h]
  rfl
theorem word_neg (x : Nat) : Ieee.double.word true x = 9223372036854775808 + x := by
  have : Ieee.double.signWeight = 9223372036854775808 := by decide
  unfold Format.word
  rw [this]
  rfl
end Go.Proofs.Qxb6606417aGreatDoor
