import Derived.Test.Qxb6606417aGreatDoorNum5
namespace Go.Proofs.Qxb6606417aGreatDoor
set_option linter.unusedVariables false
set_option linter.unusedSimpArgs false
open Ieee

theorem div_word {f : Format} {qm : Int} (ok : FmtOk f qm) {x y : Nat} (hx : x < f.infRung) (hy : y < f.infRung) (hy0 : 0 < y) (more : Nat) (hmore : more = f.fractionBits + 2 + (sigW f.fractionBits y).log2 - (sigW f.fractionBits x).log2) :
    f.div x y = some (f.nearest false (2 * (sigW f.fractionBits x * 2 ^ more / sigW f.fractionBits y) + (sigW f.fractionBits x * 2 ^ more % sigW f.fractionBits y != 0).toNat) (plW f.fractionBits f.leastPlace x - plW f.fractionBits f.leastPlace y - more - 1)) := by
  unfold Format.div
  rw [read_word ok hx, read_word ok hy]
  have hn : sigW f.fractionBits y ≠ 0 := by have := sig_pos (mb := f.fractionBits) hy0; omega
  simp only [Datum.quotient, if_neg hn, Option.map_some, shl_eq, ← hmore]
  rfl

/-- THE EXACT QUOTIENT: d / 10^t, rounded once, is the number that it is close to. -/
theorem exact_div {f : Format} {qm : Int} (ok : FmtOk f qm) {x y D t M : Nat} {q : Int} (hf : Fl f.fractionBits f.leastPlace qm M q) (hx0 : 0 < x) (hx1 : x < f.infRung) (hy0 : 0 < y) (hy1 : y < f.infRung) (hx : wv f x = bv D 0) (hy : wv f y = bv (10 ^ t) 0) (ht : t ≤ 100)
    (h1 : -200 ≤ plW f.fractionBits f.leastPlace x) (h1' : plW f.fractionBits f.leastPlace x ≤ 200) (h2 : -200 ≤ plW f.fractionBits f.leastPlace y) (h2' : plW f.fractionBits f.leastPlace y ≤ 200) (hc : Close M q D (-(t : Int))) : f.div x y = some (rungN f.fractionBits f.leastPlace M q) := by
  obtain ⟨more, hmore⟩ : ∃ more, more = f.fractionBits + 2 + (sigW f.fractionBits y).log2 - (sigW f.fractionBits x).log2 := ⟨_, rfl⟩
  rw [div_word ok hx1 hy1 hy0 more hmore]
  obtain ⟨fx, _⟩ := fl_of_word ok hx0 hx1
  obtain ⟨fy, _⟩ := fl_of_word ok hy0 hy1
  have okl := ok.l1
  have okq := ok.q1
  have okm1 := ok.mb1
  have okm2 := ok.mb2
  obtain ⟨r1, _⟩ := sig_rung ok hf
  unfold wv at hx hy
  have hm0 := fx.pos
  have hn0 := fy.pos
  have hml := fx.lt
  have hnl := fy.lt
  clear fx fy
  generalize sigW f.fractionBits x = m at *
  generalize sigW f.fractionBits y = n at *
  generalize plW f.fractionBits f.leastPlace x = i at *
  generalize plW f.fractionBits f.leastPlace y = j at *
  have lm2 : m.log2 ≤ f.fractionBits := by
    have h5 : 2 ^ m.log2 < 2 ^ (f.fractionBits + 1) := Nat.lt_of_le_of_lt (Nat.log2_self_le (by omega)) hml
    have := (Nat.pow_lt_pow_iff_right (a := 2) (by omega)).1 h5
    omega
  have ln2 : n.log2 ≤ f.fractionBits := by
    have h5 : 2 ^ n.log2 < 2 ^ (f.fractionBits + 1) := Nat.lt_of_le_of_lt (Nat.log2_self_le (by omega)) hnl
    have := (Nat.pow_lt_pow_iff_right (a := 2) (by omega)).1 h5
    omega
  have hmr : more ≤ 120 := by omega
  -- the quotient is long
  have hlong : 2 ^ (f.fractionBits + 1) * n ≤ m * 2 ^ more := by
    have e1 : 2 ^ m.log2 ≤ m := Nat.log2_self_le (by omega)
    have e2 : n < 2 ^ (n.log2 + 1) := Nat.lt_log2_self
    calc 2 ^ (f.fractionBits + 1) * n ≤ 2 ^ (f.fractionBits + 1) * 2 ^ (n.log2 + 1) := Nat.mul_le_mul_left _ (Nat.le_of_lt e2)
      _ = 2 ^ m.log2 * 2 ^ more := by rw [← Nat.pow_add, ← Nat.pow_add]; congr 1; omega
      _ ≤ m * 2 ^ more := Nat.mul_le_mul_right _ e1
  obtain ⟨dd, hdd⟩ : ∃ dd, m * 2 ^ more = dd := ⟨_, rfl⟩
  rw [hdd] at hlong ⊢
  have hFl : 2 ^ (f.fractionBits + 1) ≤ dd / n := (Nat.le_div_iff_mul_le hn0).2 hlong
  have hdm := Nat.div_add_mod dd n
  have hrl := Nat.mod_lt dd hn0
  -- in the quotient's terms
  have hAij : A i * A 0 = A j * A (i - j) := A_mul _ _ _ _ (by omega) (by omega) (by omega) (by omega) (by omega)
  have hg : A (i - j) = A (i - j - more) * 2 ^ more := A_split (by omega) (by omega)
  have hBt : B 0 = B (-(t : Int)) * 10 ^ t := by
    have := B_add (-(t : Int)) t (by omega)
    rw [show -(t : Int) + t = 0 from by omega] at this; exact this
  unfold bv at hx hy
  have hx' : m * A i = D * A 0 := Nat.eq_of_mul_eq_mul_right (B_pos 0) hx
  have hy' : n * A j = 10 ^ t * A 0 := Nat.eq_of_mul_eq_mul_right (B_pos 0) hy
  have hdvt : dv D (-(t : Int)) * 10 ^ t = D * A 0 * B 0 := by
    unfold dv
    rw [hBt]
    simp only [Nat.mul_assoc, Nat.mul_comm, Nat.mul_left_comm]
  -- D * A 0 * A 0 = dd * g * A j
  have key : D * A 0 * A 0 = dd * A (i - j - more) * A j := by
    rw [← hx', ← hdd]
    calc m * A i * A 0 = m * (A i * A 0) := by rw [Nat.mul_assoc]
      _ = m * (A j * (A (i - j - more) * 2 ^ more)) := by rw [hAij, hg]
      _ = m * 2 ^ more * A (i - j - more) * A j := by simp only [Nat.mul_assoc, Nat.mul_comm, Nat.mul_left_comm]
  have hten : 0 < 10 ^ t := Nat.pow_pos (by omega)
  have hAj := A_pos j
  have hB0 := B_pos 0
  have hA0 := A_pos 0
  have C1 : 13 * (dd * A (i - j - more)) < (13 * M + 1) * (A q * n) := by
    have h5 := Nat.mul_lt_mul_of_pos_right (Nat.mul_lt_mul_of_pos_right hc.up hten) hA0
    refine Nat.lt_of_mul_lt_mul_right (a := A j * B 0) ?_
    calc 13 * (dd * A (i - j - more)) * (A j * B 0) = 13 * (dd * A (i - j - more) * A j) * B 0 := by simp only [Nat.mul_assoc]
      _ = 13 * (dv D (-(t : Int)) * 10 ^ t) * A 0 := by rw [← key, hdvt]; simp only [Nat.mul_assoc, Nat.mul_comm, Nat.mul_left_comm]
      _ = 13 * dv D (-(t : Int)) * 10 ^ t * A 0 := by simp only [Nat.mul_assoc]
      _ < (13 * bv M q + A q * B 0) * 10 ^ t * A 0 := h5
      _ = (13 * M + 1) * (A q * (10 ^ t * A 0)) * B 0 := by
        unfold bv
        rw [show 13 * (M * A q * B 0) + A q * B 0 = (13 * M + 1) * (A q * B 0) from by rw [Nat.add_mul, Nat.one_mul]; simp only [Nat.mul_assoc]]
        simp only [Nat.mul_assoc, Nat.mul_comm, Nat.mul_left_comm]
      _ = (13 * M + 1) * (A q * n) * (A j * B 0) := by rw [← hy']; simp only [Nat.mul_assoc, Nat.mul_comm, Nat.mul_left_comm]
  have C2 : 13 * (M * (A q * n)) < 13 * (dd * A (i - j - more)) + A q * n := by
    have h5 := Nat.mul_lt_mul_of_pos_right (Nat.mul_lt_mul_of_pos_right hc.lo hten) hA0
    refine Nat.lt_of_mul_lt_mul_right (a := A j * B 0) ?_
    calc 13 * (M * (A q * n)) * (A j * B 0) = 13 * M * (A q * (n * A j)) * B 0 := by simp only [Nat.mul_assoc, Nat.mul_comm, Nat.mul_left_comm]
      _ = 13 * bv M q * 10 ^ t * A 0 := by rw [hy']; unfold bv; simp only [Nat.mul_assoc, Nat.mul_comm, Nat.mul_left_comm]
      _ < (13 * dv D (-(t : Int)) + A q * B 0) * 10 ^ t * A 0 := h5
      _ = 13 * (dv D (-(t : Int)) * 10 ^ t) * A 0 + A q * (10 ^ t * A 0) * B 0 := by rw [Nat.add_mul, Nat.add_mul]; simp only [Nat.mul_assoc, Nat.mul_comm, Nat.mul_left_comm]
      _ = 13 * (D * A 0 * A 0) * B 0 + A q * (n * A j) * B 0 := by rw [hdvt, hy']; simp only [Nat.mul_assoc, Nat.mul_comm, Nat.mul_left_comm]
      _ = (13 * (dd * A (i - j - more)) + A q * n) * (A j * B 0) := by rw [key, Nat.add_mul]; simp only [Nat.mul_assoc, Nat.mul_comm, Nat.mul_left_comm]
  -- the grid is finer than half a last place
  have hq3 := hf.ge
  have hq4 := hf.le
  have hfine : i - j - more < q := by
    refine Classical.byContradiction fun hn' => ?_
    have hle : A q ≤ A (i - j - more) := A_le (by omega) (by omega)
    have e1 : 13 * (dd * A q) < (13 * M + 1) * (A q * n) := Nat.lt_of_le_of_lt (Nat.mul_le_mul_left _ (Nat.mul_le_mul_left _ hle)) C1
    have e2 : 13 * dd < (13 * M + 1) * n := by
      refine Nat.lt_of_mul_lt_mul_right (a := A q) ?_
      calc 13 * dd * A q = 13 * (dd * A q) := by rw [Nat.mul_assoc]
        _ < (13 * M + 1) * (A q * n) := e1
        _ = (13 * M + 1) * n * A q := by simp only [Nat.mul_assoc, Nat.mul_comm, Nat.mul_left_comm]
    have e3 : (M + 1) * n ≤ 2 ^ (f.fractionBits + 1) * n := Nat.mul_le_mul_right _ hf.lt
    rw [Nat.add_mul, Nat.one_mul] at e3
    rw [Nat.add_mul, Nat.mul_assoc, Nat.one_mul] at e2
    omega
  obtain ⟨r, hr⟩ : ∃ r : Nat, i - j - more + ((r + 1 : Nat) : Int) = q := ⟨(q - (i - j - more)).toNat - 1, by omega⟩
  have hAq2 : A q = A (i - j - more) * 2 ^ (r + 1) := A_split (by omega) hr
  have hgp := A_pos (i - j - more)
  have hR2 : 2 ≤ 2 ^ (r + 1) := by
    have := Nat.pow_pos (n := r) (show 0 < 2 by omega)
    rw [Nat.pow_succ]; omega
  have D1 : 13 * dd < (13 * M + 1) * (2 ^ (r + 1) * n) := by
    refine Nat.lt_of_mul_lt_mul_right (a := A (i - j - more)) ?_
    calc 13 * dd * A (i - j - more) = 13 * (dd * A (i - j - more)) := by rw [Nat.mul_assoc]
      _ < (13 * M + 1) * (A q * n) := C1
      _ = (13 * M + 1) * (2 ^ (r + 1) * n) * A (i - j - more) := by rw [hAq2]; simp only [Nat.mul_assoc, Nat.mul_comm, Nat.mul_left_comm]
  have D2 : 13 * (M * (2 ^ (r + 1) * n)) < 13 * dd + 2 ^ (r + 1) * n := by
    refine Nat.lt_of_mul_lt_mul_right (a := A (i - j - more)) ?_
    calc 13 * (M * (2 ^ (r + 1) * n)) * A (i - j - more) = 13 * (M * (A q * n)) := by rw [hAq2]; simp only [Nat.mul_assoc, Nat.mul_comm, Nat.mul_left_comm]
      _ < 13 * (dd * A (i - j - more)) + A q * n := C2
      _ = (13 * dd + 2 ^ (r + 1) * n) * A (i - j - more) := by rw [hAq2, Nat.add_mul]; simp only [Nat.mul_assoc, Nat.mul_comm, Nat.mul_left_comm]
  obtain ⟨R, hRe⟩ : ∃ R, 2 ^ (r + 1) = R := ⟨_, rfl⟩
  rw [hRe] at D1 D2 hR2 hAq2
  obtain ⟨F, hF⟩ : ∃ F, dd / n = F := ⟨_, rfl⟩
  obtain ⟨ρ, hρ⟩ : ∃ ρ, dd % n = ρ := ⟨_, rfl⟩
  rw [hF, hρ] at hdm
  rw [hρ] at hrl
  rw [hF] at hFl
  rw [hF, hρ]
  -- 13 F < 13 M R + R ; 13 M R < 13 F + 13 + R, and + R alone where nothing is left over
  have F1 : 13 * F < 13 * (M * R) + R := by
    refine Nat.lt_of_mul_lt_mul_right (a := n) ?_
    have e1 : 13 * F * n = 13 * (n * F) := by simp only [Nat.mul_assoc, Nat.mul_comm, Nat.mul_left_comm]
    have e2 : (13 * (M * R) + R) * n = (13 * M + 1) * (R * n) := by rw [Nat.add_mul, Nat.add_mul, Nat.one_mul]; simp only [Nat.mul_assoc]
    rw [e1, e2]
    omega
  have F2 : 13 * (M * R) < 13 * F + 13 + R := by
    refine Nat.lt_of_mul_lt_mul_right (a := n) ?_
    have e1 : 13 * (M * R) * n = 13 * (M * (R * n)) := by simp only [Nat.mul_assoc]
    have e2 : (13 * F + 13 + R) * n = 13 * (n * F) + 13 * n + R * n := by rw [Nat.add_mul, Nat.add_mul]; simp only [Nat.mul_assoc, Nat.mul_comm, Nat.mul_left_comm]
    rw [e1, e2]
    omega
  have F3 : ρ = 0 → 13 * (M * R) < 13 * F + R := fun h0 => by
    refine Nat.lt_of_mul_lt_mul_right (a := n) ?_
    have e1 : 13 * (M * R) * n = 13 * (M * (R * n)) := by simp only [Nat.mul_assoc]
    have e2 : (13 * F + R) * n = 13 * (n * F) + R * n := by rw [Nat.add_mul]; simp only [Nat.mul_assoc, Nat.mul_comm, Nat.mul_left_comm]
    rw [e1, e2]
    omega
  have F4 : M = 2 ^ f.fractionBits → F < M * R → 4 ≤ R := fun hM hlt => by
    have h5 : 2 ^ (f.fractionBits + 1) < 2 ^ f.fractionBits * R := by rw [hM] at hlt; omega
    rw [Nat.pow_succ] at h5
    have h6 := Nat.lt_of_mul_lt_mul_left h5
    rw [← hRe, Nat.pow_succ] at h6 ⊢
    omega
  have hA2 : A (i - j - more) = A (i - j - more - 1) * 2 := A_split (n := 1) (by omega) (by omega)
  have hh := A_pos (i - j - more - 1)
  obtain ⟨s, hs⟩ : ∃ s, (ρ != 0).toNat = s := ⟨_, rfl⟩
  have hs1 : (ρ = 0 ∧ s = 0) ∨ (ρ ≠ 0 ∧ s = 1) := by
    by_cases h0 : ρ = 0
    · left; subst h0; exact ⟨rfl, hs.symm⟩
    · right
      refine ⟨h0, ?_⟩
      rw [← hs]
      simp [h0]
  rw [hs]
  have hval : ∀ k, bv k (i - j - more - 1) = k * (A (i - j - more - 1) * B 0) := fun k => by unfold bv; rw [Nat.mul_assoc]
  have hMv : bv M q = 2 * (M * R) * (A (i - j - more - 1) * B 0) := by
    unfold bv
    rw [hAq2, hA2]
    simp only [Nat.mul_assoc, Nat.mul_comm, Nat.mul_left_comm]
  have hav : A q * B 0 = 2 * R * (A (i - j - more - 1) * B 0) := by
    rw [hAq2, hA2]
    simp only [Nat.mul_assoc, Nat.mul_comm, Nat.mul_left_comm]
  have hZ : 0 < A (i - j - more - 1) * B 0 := Nat.mul_pos hh hB0
  have hMR : 0 < M * R := Nat.mul_pos hf.pos (by omega)
  have hFp : 0 < F := Nat.lt_of_lt_of_le (Nat.pow_pos (by omega)) hFl
  have hnear : Near f.fractionBits M q (bv (2 * F + s) (i - j - more - 1)) := by
    rw [hval]
    have T : ∀ a b c : Nat, a < b + c → a * (A (i - j - more - 1) * B 0) < b * (A (i - j - more - 1) * B 0) + c * (A (i - j - more - 1) * B 0) := fun a b c h => by
      rw [← Nat.add_mul]; exact Nat.mul_lt_mul_of_pos_right h hZ
    have S : ∀ a b c : Nat, a < b + c → a * (A (i - j - more - 1) * B 0) < b * (A (i - j - more - 1) * B 0) + c * (A (i - j - more - 1) * B 0) := T
    generalize A (i - j - more - 1) * B 0 = Z at *
    refine ⟨?_, ?_, fun hM => ?_⟩
    · rw [hMv, hav]
      have := T (2 * (2 * F + s)) (2 * (2 * (M * R))) (2 * R) (by rcases hs1 with ⟨_, rfl⟩ | ⟨_, rfl⟩ <;> omega)
      rw [Nat.mul_assoc 2 (2 * F + s), Nat.mul_assoc 2 (2 * (M * R))] at this
      exact this
    · rw [hMv, hav]
      have := T (2 * (2 * (M * R))) (2 * (2 * F + s)) (2 * R) (by
        rcases hs1 with ⟨h0, rfl⟩ | ⟨_, rfl⟩
        · have := F3 h0; omega
        · omega)
      rw [Nat.mul_assoc 2 (2 * F + s), Nat.mul_assoc 2 (2 * (M * R))] at this
      exact this
    · rw [hMv, hav]
      have h4 := F4 hM
      have := T (4 * (2 * (M * R))) (4 * (2 * F + s)) (2 * R) (by
        rcases hs1 with ⟨h0, rfl⟩ | ⟨_, rfl⟩
        · have := F3 h0; omega
        · by_cases hlt : F < M * R
          · have := h4 hlt; omega
          · omega)
      rw [Nat.mul_assoc 4 (2 * F + s), Nat.mul_assoc 4 (2 * (M * R))] at this
      exact this
  rw [nearest_eq f qm M q (2 * F + s) (i - j - more - 1) hf ok.l1 ok.q1 (by omega) ok.mb2 (by omega) (by omega) (by omega) hnear r1]
end Go.Proofs.Qxb6606417aGreatDoor
