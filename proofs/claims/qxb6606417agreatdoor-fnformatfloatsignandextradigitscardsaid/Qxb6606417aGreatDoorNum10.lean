import Derived.Test.Qxb6606417aGreatDoorNum9
import Derived.Lib.ItoaNum
namespace Go.Proofs.Qxb6606417aGreatDoor
set_option linter.unusedVariables false
set_option linter.unusedSimpArgs false
open Ieee

/-- The n-digit form is never zero. -/
theorem fixed_pos (m : Nat) (e : Int) (n : Nat) (hn1 : 1 ≤ n) (hn2 : n ≤ 18) (hm1 : 9223372036854775808 ≤ m) (hm2 : m < 18446744073709551616) (he1 : -1137 ≤ e) (he2 : e ≤ 971) : 0 < (fixedN m e n).1 := by
  have hl : -324 ≤ log10Pow2 (e + 63) ∧ log10Pow2 (e + 63) ≤ 311 := by unfold log10Pow2; omega
  obtain ⟨p, hp⟩ : ∃ p : Int, p = n - 1 - log10Pow2 (e + 63) := ⟨_, rfl⟩
  have hp1 : -347 ≤ p := by omega
  have hp2 : p ≤ 347 := by omega
  have hs : e + log2Pow10 p ≤ -3 := by
    have h5 : log10Pow2 (e + 63) = (e + 63) * 78913 / 262144 := rfl
    unfold log2Pow10
    omega
  have hr := scale_range hn1 hm1 hp (by omega) (by omega) (by omega) (by omega)
  obtain ⟨b1, b2⟩ := uscale_bounds m e p (-(e + log2Pow10 p + 3)).toNat (by omega) hm2 (by omega) hp2 (by omega) (by omega)
  have hU := U_pos
  have hte : 1 ≤ 10 ^ (n - 1) := Nat.pow_pos (by omega)
  have hten : 10 ^ n = 10 * 10 ^ (n - 1) := by
    rw [← Nat.pow_succ']
    congr 1
    omega
  have hsU : U ≤ 10 ^ (n - 1) * U := Nat.le_mul_of_pos_left U hte
  have hfix : fixedN m e n = if 4 * 10 ^ n - 2 ≤ scaleN m e p then (roundN (divN (scaleN m e p) 10), -(p - 1)) else (roundN (scaleN m e p), -p) := by rw [hp]; rfl
  have hsc : scaleN m e p = uscaleN m (tabHi p) (tabLo p) (-(e + log2Pow10 p + 3)).toNat := rfl
  rw [← hsc] at b1 b2
  rw [hfix]
  generalize scaleN m e p = u at b1 b2
  generalize m * (A e * B p) = X at *
  have hu : 4 ≤ u := by
    rcases Nat.lt_or_ge u 4 with h | h
    · exfalso
      have : (u + 1) * U ≤ 4 * U := Nat.mul_le_mul_right _ (by omega)
      omega
    · exact h
  by_cases hd : 4 * 10 ^ n - 2 ≤ u
  · rw [if_pos hd]
    have := (div_bounds u).1
    show 0 < roundN (divN u 10)
    generalize divN u 10 = v at this
    unfold roundN
    omega
  · rw [if_neg hd]
    show 0 < roundN u
    unfold roundN
    omega

/-! The digits that a decimal ends in. -/
theorem trim_step {y : Nat} {p : Int} (h : y % 10 = 0) (h0 : 0 < y) : trimN y p = trimN (y / 10) (p + 1) := by
  rw [trimN, dif_pos ⟨h, by omega⟩]
theorem trim_stop {y : Nat} {p : Int} (h : y % 10 ≠ 0) : trimN y p = (y, p) := by
  rw [trimN, dif_neg (by omega)]
theorem dec_big {u : Nat} (h : ¬ u < 10) : Lib.decDigits u = Lib.decDigits (u / 10) ++ [UInt8.ofNat (48 + u % 10)] := by
  rw [Lib.decDigits, dif_neg h]
theorem dec_small {u : Nat} (h : u < 10) : Lib.decDigits u = [UInt8.ofNat (48 + u)] := by
  rw [Lib.decDigits, dif_pos h]
theorem ofNat_dig (r : Nat) (h : r < 10) : (UInt8.ofNat (48 + r)).toNat = 48 + r := by
  rw [UInt8.toNat_ofNat']; omega
/-- The digits and the zeros that were cut. -/
theorem trim_digits : ∀ (n d : Nat) (p : Int), d ≤ n → 0 < d → ∃ i : Nat, (trimN d p).2 = p + i ∧ Lib.decDigits d = Lib.decDigits (trimN d p).1 ++ List.replicate i 48 ∧ Lib.nDigits d = Lib.nDigits (trimN d p).1 + i ∧ (trimN d p).1 % 10 ≠ 0 ∧ d = (trimN d p).1 * 10 ^ i := by
  intro n
  induction n with
  | zero => intro d p h1 h2; omega
  | succ n ih =>
    intro d p h1 h2
    by_cases h : d % 10 = 0
    · rw [trim_step h h2]
      obtain ⟨i, a, b, c, e, f⟩ := ih (d / 10) (p + 1) (by omega) (by omega)
      refine ⟨i + 1, by omega, ?_, ?_, e, ?_⟩
      · rw [dec_big (by omega), b, h, List.append_assoc]
        congr 1
        rw [List.replicate_succ']
        rfl
      · rw [Lib.nDigits_big (by omega), c]; omega
      · rw [Nat.pow_succ, ← Nat.mul_assoc, ← f]; omega
    · rw [trim_stop h]
      exact ⟨0, by simp, by simp, by simp, h, by simp⟩
theorem dec_last {x : Nat} (h : x % 10 ≠ 0) : ∃ M c, Lib.decDigits x = M ++ [c] ∧ c.toNat = 48 + x % 10 := by
  by_cases hx : x < 10
  · exact ⟨[], _, dec_small hx, by rw [ofNat_dig x hx]; omega⟩
  · exact ⟨_, _, dec_big hx, by rw [ofNat_dig _ (by omega)]⟩
theorem pow_le_of_nDigits : ∀ (m d : Nat), d ≤ m → ∀ n, 0 < n → n < Lib.nDigits d → 10 ^ n ≤ d := by
  intro m
  induction m with
  | zero => intro d hd n hn h2; rw [Lib.nDigits_small (by omega)] at h2; omega
  | succ m ih =>
    intro d hd n hn h2
    by_cases h10 : d < 10
    · rw [Lib.nDigits_small h10] at h2; omega
    · rw [Lib.nDigits_big h10] at h2
      by_cases hn1 : n = 1
      · rw [hn1]; omega
      · have := ih (d / 10) (by omega) (n - 1) (by omega) (by omega)
        have e : 10 ^ n = 10 ^ (n - 1) * 10 := by rw [← Nat.pow_succ]; congr 1; omega
        rw [e]; omega
theorem nDigits_lt {d n : Nat} (h : d < 10 ^ n) (h0 : 0 < n) : Lib.nDigits d ≤ n := by
  rcases Nat.lt_or_ge n (Lib.nDigits d) with h1 | h1
  · exfalso
    have := pow_le_of_nDigits d d (Nat.le_refl _) n h0 h1
    omega
  · exact h1
/-- Digits are digits. -/
theorem dec_mem : ∀ (n u : Nat), u ≤ n → ∀ c ∈ Lib.decDigits u, 48 ≤ c.toNat ∧ c.toNat ≤ 57 := by
  intro n
  induction n with
  | zero =>
    intro u hu c hc
    rw [dec_small (by omega), List.mem_singleton] at hc
    subst hc
    rw [ofNat_dig _ (by omega)]; omega
  | succ n ih =>
    intro u hu c hc
    by_cases h : u < 10
    · rw [dec_small h, List.mem_singleton] at hc
      subst hc
      rw [ofNat_dig _ h]; omega
    · rw [dec_big h, List.mem_append, List.mem_singleton] at hc
      rcases hc with hc | hc
      · exact ih _ (by omega) c hc
      · subst hc
        rw [ofNat_dig _ (by omega)]; omega
/-- The value of a row of digits. -/
def valD (a : Nat) (l : List UInt8) : Nat := l.foldl (fun a c => a * 10 + (c.toNat - 48)) a
theorem valD_append (a : Nat) (l m : List UInt8) : valD a (l ++ m) = valD (valD a l) m := by unfold valD; rw [List.foldl_append]
theorem valD_zeros (a : Nat) : ∀ j, valD a (List.replicate j 48) = a * 10 ^ j
  | 0 => by simp [valD]
  | j + 1 => by
    rw [List.replicate_succ', valD_append, valD_zeros a j]
    show a * 10 ^ j * 10 + (48 - 48) = _
    rw [Nat.pow_succ, ← Nat.mul_assoc]; omega
theorem val_dec : ∀ (n u : Nat), u ≤ n → valD 0 (Lib.decDigits u) = u := by
  intro n
  induction n with
  | zero =>
    intro u hu
    rw [dec_small (by omega)]
    show 0 * 10 + ((UInt8.ofNat (48 + u)).toNat - 48) = u
    rw [ofNat_dig _ (by omega)]; omega
  | succ n ih =>
    intro u hu
    by_cases h : u < 10
    · rw [dec_small h]
      show 0 * 10 + ((UInt8.ofNat (48 + u)).toNat - 48) = u
      rw [ofNat_dig _ h]; omega
    · rw [dec_big h, valD_append, ih _ (by omega)]
      show u / 10 * 10 + ((UInt8.ofNat (48 + u % 10)).toNat - 48) = u
      rw [ofNat_dig _ (by omega)]; omega
theorem dec_first : ∀ (n u : Nat), u ≤ n → 0 < u → ∃ c r, Lib.decDigits u = c :: r ∧ 49 ≤ c.toNat ∧ c.toNat ≤ 57 := by
  intro n
  induction n with
  | zero => intro u h1 h2; omega
  | succ n ih =>
    intro u h1 h2
    by_cases h : u < 10
    · exact ⟨_, [], dec_small h, by rw [ofNat_dig _ h]; omega, by rw [ofNat_dig _ h]; omega⟩
    · obtain ⟨c, r, e, a, b⟩ := ih (u / 10) (by omega) (by omega)
      exact ⟨c, r ++ [UInt8.ofNat (48 + u % 10)], by rw [dec_big h, e]; rfl, a, b⟩
theorem trim_shift (x : Nat) (k : Int) (h : x % 10 ≠ 0) : ∀ j : Nat, trimN (x * 10 ^ j) (k - j) = (x, k)
  | 0 => by simpa using trim_stop (p := k) h
  | j + 1 => by
    have hp : 0 < 10 ^ j := Nat.pow_pos (by omega)
    have hx : 0 < x := by omega
    have e : x * 10 ^ (j + 1) = x * 10 ^ j * 10 := by rw [Nat.pow_succ, Nat.mul_assoc]
    rw [e, trim_step (by omega) (by have := Nat.mul_pos hx hp; omega), Nat.mul_div_cancel _ (by omega), show k - ((j + 1 : Nat) : Int) + 1 = k - j from by omega]
    exact trim_shift x k h j
end Go.Proofs.Qxb6606417aGreatDoor
