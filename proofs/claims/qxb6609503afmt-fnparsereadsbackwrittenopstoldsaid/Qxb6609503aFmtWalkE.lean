import Derived.Test.Qxb6609503aFmtWalkC
namespace Go.Proofs.Qxb6609503aFmt
open Go.RowKit Go.PlainAid
set_option linter.unusedVariables false

def Dr (w w' : World) : Prop := ∃ n, w' = w.drewN n
theorem Dr.refl (w : World) : Dr w w := ⟨0, rfl⟩
theorem Dr.trans {a b c : World} (h : Dr a b) (g : Dr b c) : Dr a c := by
  obtain ⟨n, rfl⟩ := h; obtain ⟨m, rfl⟩ := g; exact ⟨n + m, World.drewN_drewN _ _ _⟩

theorem dec_get : ∀ (N n : Nat), n ≤ N → ∀ p, p < (Pl.dec n).length → (Pl.dec n).getD p 0 = UInt8.ofNat (48 + n / 10 ^ ((Pl.dec n).length - (p + 1)) % 10)
  | N, n, hN, p, hp => by
    by_cases h : n < 10
    · rw [dec_base h] at hp ⊢
      obtain rfl : p = 0 := by simpa using hp
      simp [Nat.mod_eq_of_lt h]
    · have hs := dec_step h
      have hl : (Pl.dec n).length = (Pl.dec (n / 10)).length + 1 := by rw [hs]; simp
      by_cases hp2 : p < (Pl.dec (n / 10)).length
      · match N, hN with
        | 0, hN => exact absurd hN (by omega)
        | N + 1, hN =>
        have ih := dec_get N (n / 10) (by omega) p hp2
        have e : (Pl.dec n).getD p 0 = (Pl.dec (n / 10)).getD p 0 := by
          rw [hs]; simp [List.getD_eq_getElem?_getD, List.getElem?_append_left hp2]
        rw [e, ih, hl, show (Pl.dec (n / 10)).length + 1 - (p + 1) = ((Pl.dec (n / 10)).length - (p + 1)) + 1 by omega, Nat.pow_succ, Nat.mul_comm _ 10, ← Nat.div_div_eq_div_mul]
      · have hpe : p = (Pl.dec (n / 10)).length := by omega
        rw [hl, hpe, Nat.sub_self, Nat.pow_zero, Nat.div_one, hs]
        simp [List.getD_eq_getElem?_getD]
theorem dec_lt : ∀ (N n : Nat), n ≤ N → n < 10 ^ (Pl.dec n).length
  | N, n, hN => by
    by_cases h : n < 10
    · rw [dec_base h]; simpa using h
    · match N, hN with
      | 0, hN => exact absurd hN (by omega)
      | N + 1, hN =>
      have ih := dec_lt N (n / 10) (by omega)
      rw [dec_step h, List.length_append, List.length_singleton, Nat.pow_succ]
      omega
theorem dec_pos (n : Nat) : 0 < (Pl.dec n).length := by
  by_cases h : n < 10
  · rw [dec_base h]; simp
  · rw [dec_step h]; simp

/-- The value of the first p digits. -/
def pv (n p : Nat) : Nat := n / 10 ^ ((Pl.dec n).length - p)
theorem pv_zero (n : Nat) : pv n 0 = 0 := Nat.div_eq_of_lt (by simpa using dec_lt n n (Nat.le_refl _))
theorem pv_end (n : Nat) : pv n (Pl.dec n).length = n := by simp [pv]
theorem pv_step {n p : Nat} (hp : p < (Pl.dec n).length) : ∃ r, r < 10 ∧ (Pl.dec n).getD p 0 = UInt8.ofNat (48 + r) ∧ pv n (p + 1) = 10 * pv n p + r ∧ pv n (p + 1) ≤ n := by
  refine ⟨pv n (p + 1) % 10, Nat.mod_lt _ (by omega), dec_get n n (Nat.le_refl _) p hp, ?_, Nat.div_le_self _ _⟩
  have e : pv n p = pv n (p + 1) / 10 := by
    unfold pv
    rw [show (Pl.dec n).length - p = ((Pl.dec n).length - (p + 1)) + 1 by omega, Nat.pow_succ, Nat.div_div_eq_div_mul]
  rw [e]; omega
theorem digit_val {r : Nat} (h : r < 10) : byteV (UInt8.ofNat (48 + r)) = .int .u8 (48 + (r : Int)) := by
  have := digit_byte r
  rw [Nat.mod_eq_of_lt h] at this
  rw [this]
  congr 1
  omega

theorem tok_len (o : Pl.Op3) : (Pl.tokOf o).length = 1 + (Pl.dec o.n).length + (if o.k ≤ 2 then o.it.length + 2 else 0) := by
  unfold Pl.tokOf
  by_cases h : o.k ≤ 2 <;> simp [h] <;> omega
theorem tok_zero (o : Pl.Op3) : (Pl.tokOf o).getD 0 0 = Pl.letter o.k := by simp [Pl.tokOf]
theorem tok_dec (o : Pl.Op3) {p : Nat} (h : p < (Pl.dec o.n).length) : (Pl.tokOf o).getD (p + 1) 0 = (Pl.dec o.n).getD p 0 := by
  unfold Pl.tokOf
  simp [List.getD_eq_getElem?_getD, List.getElem?_append_left h]
theorem tok_open (o : Pl.Op3) (hk : o.k ≤ 2) : (Pl.tokOf o).getD ((Pl.dec o.n).length + 1) 0 = 40 := by
  unfold Pl.tokOf
  simp [List.getD_eq_getElem?_getD, hk]
theorem tok_item (o : Pl.Op3) (hk : o.k ≤ 2) {q : Nat} (h : q < o.it.length) : (Pl.tokOf o).getD ((Pl.dec o.n).length + 2 + q) 0 = o.it.getD q 0 := by
  unfold Pl.tokOf
  rw [if_pos hk, show (Pl.dec o.n).length + 2 + q = ((Pl.dec o.n).length + (q + 1)) + 1 by omega]
  simp [List.getD_eq_getElem?_getD, List.getElem?_append_right, List.getElem?_append_left h]
theorem tok_close (o : Pl.Op3) (hk : o.k ≤ 2) : (Pl.tokOf o).getD ((Pl.dec o.n).length + 2 + o.it.length) 0 = 41 := by
  unfold Pl.tokOf
  rw [if_pos hk, show (Pl.dec o.n).length + 2 + o.it.length = ((Pl.dec o.n).length + (o.it.length + 1)) + 1 by omega]
  simp [List.getD_eq_getElem?_getD]
end Go.Proofs.Qxb6609503aFmt
