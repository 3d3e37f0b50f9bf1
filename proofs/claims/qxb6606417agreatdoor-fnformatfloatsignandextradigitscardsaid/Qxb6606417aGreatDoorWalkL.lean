import Derived.Test.Qxb6606417aGreatDoorWalkK
import Derived.Test.Qxb6606417aGreatDoorNum14
namespace Go.Proofs.Qxb6606417aGreatDoor
open Go.RowKit Go.PlainAid
set_option linter.unusedVariables false
set_option linter.unusedSimpArgs false
set_option maxRecDepth 100000

def narW (mb v : Nat) : Bool := decide (v % 2 ^ mb = 0) && decide (1 < v / 2 ^ mb)
theorem and_low (v : Nat) (mb : Nat) (hv : v < 18446744073709551616) (hm : mb ≤ 52) : bits BinOp.and IntKind.u64 (v : Int) ((2 ^ mb - 1 : Nat) : Int) = ((v % 2 ^ mb : Nat) : Int) := by
  have h1 : 2 ^ mb ≤ 2 ^ 52 := Nat.pow_le_pow_right (by omega) hm
  have h52 : (2 : Nat) ^ 52 = 4503599627370496 := by decide
  rw [u64_and_nat v (2 ^ mb - 1) hv (by omega), Nat.and_two_pow_sub_one_eq_mod]
theorem or_high (r : Nat) (mb : Nat) (hr : r < 2 ^ mb) (hm : mb ≤ 52) : bits BinOp.or IntKind.u64 (r : Int) ((2 ^ mb : Nat) : Int) = ((2 ^ mb + r : Nat) : Int) := by
  have h1 : 2 ^ mb ≤ 2 ^ 52 := Nat.pow_le_pow_right (by omega) hm
  have h52 : (2 : Nat) ^ 52 = 4503599627370496 := by decide
  rw [u64_or_nat r (2 ^ mb) (by omega) (by omega), Nat.or_comm]
  have := Nat.two_pow_add_eq_or_of_lt hr 1
  rw [Nat.mul_one] at this
  rw [this]
/-- What the walks use of a word: its fraction and its exponent. -/
structure Parts (mb : Nat) (lm : Int) (v fr bi : Nat) : Prop where
  hfr : fr < 2 ^ mb
  dd : 2 ^ mb * bi + fr = v
  s0 : bi = 0 → sigW mb v = fr ∧ plW mb lm v = lm ∧ narW mb v = false
  s1 : bi ≠ 0 → sigW mb v = 2 ^ mb + fr ∧ plW mb lm v = lm + bi - 1 ∧ narW mb v = (decide (fr = 0) && decide (1 < bi))
theorem parts_of (mb : Nat) (lm : Int) (v : Nat) : Parts mb lm v (v % 2 ^ mb) (v / 2 ^ mb) := by
  have hp : 0 < 2 ^ mb := Nat.pow_pos (by omega)
  have hfr := Nat.mod_lt v hp
  have dd := Nat.div_add_mod v (2 ^ mb)
  refine ⟨hfr, dd, fun h => ?_, fun h => ?_⟩
  · have hv : v < 2 ^ mb := by rw [h] at dd; omega
    unfold sigW plW narW
    rw [if_pos hv, if_pos hv, h, Nat.mod_eq_of_lt hv]
    exact ⟨rfl, rfl, by simp⟩
  · have hv : ¬ v < 2 ^ mb := fun hv => h (Nat.div_eq_of_lt hv)
    unfold sigW plW narW
    rw [if_neg hv, if_neg hv]
    exact ⟨rfl, by generalize v / 2 ^ mb = b at h ⊢; omega, rfl⟩

set_option maxHeartbeats 1000000 in
theorem parts64_walk (v : Nat) (w : World) (h1 : v < 9218868437227405312) :
    Calls Tryz.prog 38 #[.float .f64 v, .int .i64 64] w fun e w' => e = .returned (.tuple #[.int .u64 (sigW 52 v : Nat), .int .i64 (plW 52 (-1074) v), .bool (narW 52 v)]) ∧ w' = w := by
  have a1 := and_low v 52 (by omega) (by omega)
  obtain ⟨hfr, dd, s0, s1⟩ := parts_of 52 (-1074) v
  have o1 := or_high (v % 2 ^ 52) 52 hfr (by omega)
  have e52 : (2 : Nat) ^ 52 = 4503599627370496 := by decide
  have c1 := call15
  have c2 := call64
  obtain ⟨fr, hfre⟩ : ∃ x, v % 2 ^ 52 = x := ⟨_, rfl⟩
  obtain ⟨bi, hbie⟩ : ∃ x, v / 2 ^ 52 = x := ⟨_, rfl⟩
  rw [hfre] at a1 hfr dd o1 s0 s1
  rw [hbie] at dd s0 s1
  clear hfre hbie
  rw [e52] at a1 hfr o1 dd s1
  have a2 : bits BinOp.and IntKind.u64 (v : Int) 4503599627370495 = (fr : Int) := a1
  have o2 : bits BinOp.or IntKind.u64 (fr : Int) 4503599627370496 = ((4503599627370496 + fr : Nat) : Int) := o1
  have hq : (v : Int) / 4503599627370496 = (bi : Int) := by omega
  have hbi : bi ≤ 2047 := by omega
  clear a1 o1 e52
  skip
  by_cases hb : bi = 0
  · obtain ⟨r1, r2, r3⟩ := s0 hb
    rw [r1, r2, r3]
    subst hb
    clear dd s0 s1 r1 r2 r3
    go_enter Tryz.func38, Tryz.ntmps38
    go_wp2
    go_ret3
    exact ⟨rfl, rfl⟩
  · obtain ⟨r1, r2, r3⟩ := s1 hb
    rw [r1, r2, r3]
    have hb0 : ((bi : Int) == 0) = false := by simp; omega
    clear s0 s1 r1 r2 r3 dd
    by_cases hf : fr = 0
    · have hf0 : ((fr : Int) == 0) = true := by simp; omega
      rw [decide_eq_true hf, Bool.true_and]
      clear hf
      by_cases h1' : 1 < bi
      · have hgt : decide ((bi : Int) > 1) = true := decide_eq_true (by omega)
        rw [decide_eq_true h1']
        go_enter Tryz.func38, Tryz.ntmps38
        go_wp2
        go_ret3
        exact ⟨rfl, rfl⟩
      · have hgt : decide ((bi : Int) > 1) = false := decide_eq_false (by omega)
        rw [decide_eq_false h1']
        go_enter Tryz.func38, Tryz.ntmps38
        go_wp2
        go_ret3
        exact ⟨rfl, rfl⟩
    · have hf0 : ((fr : Int) == 0) = false := by simp; omega
      rw [decide_eq_false hf, Bool.false_and]
      clear hf
      go_enter Tryz.func38, Tryz.ntmps38
      go_wp2
      go_ret3
      exact ⟨rfl, rfl⟩

set_option maxHeartbeats 1000000 in
theorem parts32_walk (V v : Nat) (hcv : ∀ W : World, (convert 22 23 (.float .f64 V)).run Tryz.prog W = .ok (.float .f32 v) W) (w : World) (h1 : v < 2139095040) :
    Calls Tryz.prog 38 #[.float .f64 V, .int .i64 32] w fun e w' => e = .returned (.tuple #[.int .u64 (sigW 23 v : Nat), .int .i64 (plW 23 (-149) v), .bool (narW 23 v)]) ∧ w' = w := by
  have a1 := and_low v 23 (by omega) (by omega)
  obtain ⟨hfr, dd, s0, s1⟩ := parts_of 23 (-149) v
  have o1 := or_high (v % 2 ^ 23) 23 hfr (by omega)
  have e52 : (2 : Nat) ^ 23 = 8388608 := by decide
  have c1 := call15
  have c2 := call64
  obtain ⟨fr, hfre⟩ : ∃ x, v % 2 ^ 23 = x := ⟨_, rfl⟩
  obtain ⟨bi, hbie⟩ : ∃ x, v / 2 ^ 23 = x := ⟨_, rfl⟩
  rw [hfre] at a1 hfr dd o1 s0 s1
  rw [hbie] at dd s0 s1
  clear hfre hbie
  rw [e52] at a1 hfr o1 dd s1
  have a2 : bits BinOp.and IntKind.u64 (v : Int) 8388607 = (fr : Int) := a1
  have o2 : bits BinOp.or IntKind.u64 (fr : Int) 8388608 = ((8388608 + fr : Nat) : Int) := o1
  have hq : (v : Int) / 8388608 = (bi : Int) := by omega
  have hbi : bi ≤ 2047 := by omega
  clear a1 o1 e52
  have hv32 : v < 4294967296 := by omega
  by_cases hb : bi = 0
  · obtain ⟨r1, r2, r3⟩ := s0 hb
    rw [r1, r2, r3]
    subst hb
    clear dd s0 s1 r1 r2 r3
    go_enter Tryz.func38, Tryz.ntmps38
    go_wp2
    go_ret3
    exact ⟨rfl, rfl⟩
  · obtain ⟨r1, r2, r3⟩ := s1 hb
    rw [r1, r2, r3]
    have hb0 : ((bi : Int) == 0) = false := by simp; omega
    clear s0 s1 r1 r2 r3 dd
    by_cases hf : fr = 0
    · have hf0 : ((fr : Int) == 0) = true := by simp; omega
      rw [decide_eq_true hf, Bool.true_and]
      clear hf
      by_cases h1' : 1 < bi
      · have hgt : decide ((bi : Int) > 1) = true := decide_eq_true (by omega)
        rw [decide_eq_true h1']
        go_enter Tryz.func38, Tryz.ntmps38
        go_wp2
        go_ret3
        exact ⟨rfl, rfl⟩
      · have hgt : decide ((bi : Int) > 1) = false := decide_eq_false (by omega)
        rw [decide_eq_false h1']
        go_enter Tryz.func38, Tryz.ntmps38
        go_wp2
        go_ret3
        exact ⟨rfl, rfl⟩
    · have hf0 : ((fr : Int) == 0) = false := by simp; omega
      rw [decide_eq_false hf, Bool.false_and]
      clear hf
      go_enter Tryz.func38, Tryz.ntmps38
      go_wp2
      go_ret3
      exact ⟨rfl, rfl⟩
end Go.Proofs.Qxb6606417aGreatDoor
