import Derived.Test.Qxb6606417aGreatDoorNum6
namespace Go.Proofs.Qxb6606417aGreatDoor
set_option linter.unusedVariables false
set_option linter.unusedSimpArgs false

/-- The zeros that a number ends in, in binary. -/
def tz (n : Nat) : Nat := if h : n % 2 = 0 ∧ n ≠ 0 then tz (n / 2) + 1 else 0
termination_by n
decreasing_by omega
theorem tz_spec : ∀ (m n : Nat), n ≤ m → n / 2 ^ tz n * 2 ^ tz n = n := by
  intro m
  induction m with
  | zero =>
    intro n hn
    obtain rfl : n = 0 := by omega
    simp
  | succ m ih =>
    intro n hn
    rw [tz]
    by_cases h : n % 2 = 0 ∧ n ≠ 0
    · rw [dif_pos h]
      have := ih (n / 2) (by omega)
      rw [Nat.pow_succ, Nat.mul_comm _ 2, ← Nat.div_div_eq_div_mul, Nat.mul_comm 2, ← Nat.mul_assoc, this]
      omega
    · rw [dif_neg h]; simp
def div5 : Nat → Nat → Option Nat
  | 0, n => some n
  | t + 1, n => if n % 5 = 0 then div5 t (n / 5) else none
theorem div5_spec : ∀ (t n o : Nat), div5 t n = some o → n = o * 5 ^ t
  | 0, n, o, h => by simp [div5] at h; simp [h]
  | t + 1, n, o, h => by
    unfold div5 at h
    by_cases h5 : n % 5 = 0
    · rw [if_pos h5] at h
      have := div5_spec t (n / 5) o h
      rw [Nat.pow_succ, ← Nat.mul_assoc, ← this]
      omega
    · rw [if_neg h5] at h; cases h
/-- Is d * 10^k the number sig * 2^e? -/
def equalsN (d : Nat) (k : Int) (sig : Nat) (e : Int) : Bool :=
  if (tz d : Int) + k ≠ e + tz sig then false
  else if 0 ≤ k then (match div5 k.toNat (sig / 2 ^ tz sig) with | some o => d / 2 ^ tz d == o | none => false)
  else (match div5 (-k).toNat (d / 2 ^ tz d) with | some r => r == sig / 2 ^ tz sig | none => false)
theorem five_two (n : Nat) : 5 ^ n * 2 ^ n = 10 ^ n := by rw [← Nat.mul_pow]
theorem equals_sound {d sig : Nat} {k e : Int} (h : equalsN d k sig e = true) (hk : -700 ≤ k) (he : -1900 ≤ e) : dv d k = bv sig e := by
  unfold equalsN at h
  by_cases hc : (tz d : Int) + k ≠ e + tz sig
  · rw [if_pos hc] at h; cases h
  rw [if_neg hc] at h
  have hd := tz_spec d d (Nat.le_refl _)
  have hs := tz_spec sig sig (Nat.le_refl _)
  generalize d / 2 ^ tz d = rest at *
  generalize sig / 2 ^ tz sig = odd at *
  obtain ⟨a, ha⟩ : ∃ a, tz d = a := ⟨_, rfl⟩
  obtain ⟨b, hb⟩ : ∃ b, tz sig = b := ⟨_, rfl⟩
  rw [ha] at hc hd
  rw [hb] at hc hs
  unfold dv bv
  rw [← hd, ← hs]
  by_cases h0 : 0 ≤ k
  · rw [if_pos h0] at h
    cases hv : div5 k.toNat odd with
    | none => rw [hv] at h; cases h
    | some o =>
      rw [hv] at h
      obtain rfl : rest = o := by simpa using h
      have ho := div5_spec _ _ _ hv
      rw [ho]
      obtain ⟨t, ht⟩ : ∃ t : Nat, k = (t : Int) := ⟨k.toNat, by omega⟩
      subst ht
      rw [Int.toNat_natCast]
      have hB : B (t : Int) = B 0 * 10 ^ t := by
        have := B_add 0 t (by omega)
        rw [Int.zero_add] at this; exact this
      have hA : A e * 2 ^ b = A 0 * 2 ^ (a + t) := by
        rw [← A_add e b (by omega), ← A_add 0 (a + t) (by omega)]
        congr 1
        omega
      calc rest * 2 ^ a * A 0 * B (t : Int) = rest * 5 ^ t * (A 0 * (2 ^ a * 2 ^ t)) * B 0 := by rw [hB, ← five_two]; simp only [Nat.mul_assoc, Nat.mul_comm, Nat.mul_left_comm]
        _ = rest * 5 ^ t * (A e * 2 ^ b) * B 0 := by rw [hA, Nat.pow_add]
        _ = rest * 5 ^ t * 2 ^ b * A e * B 0 := by simp only [Nat.mul_assoc, Nat.mul_comm, Nat.mul_left_comm]
  · rw [if_neg h0] at h
    cases hv : div5 (-k).toNat rest with
    | none => rw [hv] at h; cases h
    | some o =>
      rw [hv] at h
      obtain rfl : o = odd := by simpa using h
      have ho := div5_spec _ _ _ hv
      rw [ho]
      obtain ⟨t, ht⟩ : ∃ t : Nat, k = -(t : Int) := ⟨(-k).toNat, by omega⟩
      subst ht
      rw [show (-(-(t : Int))).toNat = t from by omega]
      have hB : B 0 = B (-(t : Int)) * 10 ^ t := by
        have := B_add (-(t : Int)) t (by omega)
        rw [show -(t : Int) + t = 0 from by omega] at this; exact this
      have hA : A e * 2 ^ b * 2 ^ t = A 0 * 2 ^ a := by
        rw [Nat.mul_assoc, ← Nat.pow_add, ← A_add e (b + t) (by omega), ← A_add 0 a (by omega)]
        congr 1
        omega
      calc o * 5 ^ t * 2 ^ a * A 0 * B (-(t : Int)) = o * 5 ^ t * (A 0 * 2 ^ a) * B (-(t : Int)) := by simp only [Nat.mul_assoc, Nat.mul_comm, Nat.mul_left_comm]
        _ = o * (A e * 2 ^ b) * (B (-(t : Int)) * (5 ^ t * 2 ^ t)) := by rw [← hA]; simp only [Nat.mul_assoc, Nat.mul_comm, Nat.mul_left_comm]
        _ = o * 2 ^ b * A e * B 0 := by rw [five_two, ← hB]; simp only [Nat.mul_assoc, Nat.mul_comm, Nat.mul_left_comm]

/-- Does the decimal lie at an end of the interval of M * 2^q? -/
def atEndN (M : Nat) (q : Int) (nar : Bool) (d : Nat) (k : Int) : Bool :=
  equalsN d k (2 * M + 1) (q - 1) || (if nar then equalsN d k (4 * M - 1) (q - 2) else equalsN d k (2 * M - 1) (q - 1))
theorem close_not_end {M d : Nat} {q k : Int} (hc : Close M q d k) (hM : 0 < M) (nar : Bool) (hk : -700 ≤ k) (hq : -1800 ≤ q) : atEndN M q nar d k = false := by
  have hA1 : A q = A (q - 1) * 2 := A_split (n := 1) (by omega) (by omega)
  have hA2 : A (q - 1) = A (q - 2) * 2 := A_split (n := 1) (by omega) (by omega)
  have h1 := hc.up
  have h2 := hc.lo
  have hpos : 0 < A (q - 2) * B 0 := Nat.mul_pos (A_pos _) (B_pos 0)
  have ha : A q * B 0 = 4 * (A (q - 2) * B 0) := by rw [hA1, hA2]; simp only [Nat.mul_assoc, Nat.mul_comm, Nat.mul_left_comm]; omega
  have hbM : bv M q = 4 * M * (A (q - 2) * B 0) := by unfold bv; rw [Nat.mul_assoc, ha]; simp only [Nat.mul_assoc, Nat.mul_comm, Nat.mul_left_comm]
  rw [ha, hbM] at h1 h2
  have e1 : equalsN d k (2 * M + 1) (q - 1) = false := by
    cases he : equalsN d k (2 * M + 1) (q - 1)
    · rfl
    · have := equals_sound he hk (by omega)
      rw [this] at h1
      have e : bv (2 * M + 1) (q - 1) = (4 * M + 2) * (A (q - 2) * B 0) := by
        unfold bv
        rw [hA2, show 4 * M + 2 = (2 * M + 1) * 2 from by omega]
        simp only [Nat.mul_assoc, Nat.mul_comm, Nat.mul_left_comm]
      rw [e, Nat.add_mul] at h1
      omega
  have e2 : equalsN d k (2 * M - 1) (q - 1) = false := by
    cases he : equalsN d k (2 * M - 1) (q - 1)
    · rfl
    · have := equals_sound he hk (by omega)
      rw [this] at h2
      have e : bv (2 * M - 1) (q - 1) = (4 * M - 2) * (A (q - 2) * B 0) := by
        unfold bv
        rw [hA2, show 4 * M - 2 = (2 * M - 1) * 2 from by omega]
        simp only [Nat.mul_assoc, Nat.mul_comm, Nat.mul_left_comm]
      rw [e, Nat.sub_mul] at h2
      have : 4 * (A (q - 2) * B 0) ≤ 4 * M * (A (q - 2) * B 0) := Nat.mul_le_mul_right _ (by omega)
      omega
  have e3 : equalsN d k (4 * M - 1) (q - 2) = false := by
    cases he : equalsN d k (4 * M - 1) (q - 2)
    · rfl
    · have := equals_sound he hk (by omega)
      rw [this] at h2
      have e : bv (4 * M - 1) (q - 2) = (4 * M - 1) * (A (q - 2) * B 0) := by
        unfold bv
        rw [Nat.mul_assoc]
      rw [e, Nat.sub_mul] at h2
      have : 4 * (A (q - 2) * B 0) ≤ 4 * M * (A (q - 2) * B 0) := Nat.mul_le_mul_right _ (by omega)
      omega
  unfold atEndN
  rw [e1, e2, e3]
  cases nar <;> rfl
end Go.Proofs.Qxb6606417aGreatDoor
