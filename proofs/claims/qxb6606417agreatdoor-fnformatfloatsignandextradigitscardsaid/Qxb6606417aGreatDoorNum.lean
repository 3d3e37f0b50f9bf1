import GoSem.PinnedTables
import Derived.KernelRfl
namespace Go.Proofs.Qxb6606417aGreatDoor
set_option linter.unusedVariables false
set_option linter.unusedSimpArgs false

/-! Powers of two and of ten, scaled to whole numbers. -/
@[irreducible] def A (e : Int) : Nat := 2 ^ (e + 2000).toNat
@[irreducible] def B (p : Int) : Nat := 10 ^ (p + 800).toNat
@[irreducible] def U : Nat := A 0 * B 0
theorem A_pos (e : Int) : 0 < A e := by unfold A; exact Nat.pow_pos (by omega)
theorem B_pos (p : Int) : 0 < B p := by unfold B; exact Nat.pow_pos (by omega)
theorem U_eq : U = A 0 * B 0 := by unfold U; rfl
theorem U_pos : 0 < U := by rw [U_eq]; exact Nat.mul_pos (A_pos 0) (B_pos 0)
theorem A_add (e : Int) (k : Nat) (h : -2000 ≤ e) : A (e + k) = A e * 2 ^ k := by
  unfold A
  rw [← Nat.pow_add]
  congr 1
  omega
theorem B_add (p : Int) (k : Nat) (h : -800 ≤ p) : B (p + k) = B p * 10 ^ k := by
  unfold B
  rw [← Nat.pow_add]
  congr 1
  omega
theorem A_mul (a b c d : Int) (ha : -2000 ≤ a) (hb : -2000 ≤ b) (hc : -2000 ≤ c) (hd : -2000 ≤ d) (h : a + b = c + d) : A a * A b = A c * A d := by
  unfold A
  rw [← Nat.pow_add, ← Nat.pow_add]
  congr 1
  omega
theorem B_mul (a b c d : Int) (ha : -800 ≤ a) (hb : -800 ≤ b) (hc : -800 ≤ c) (hd : -800 ≤ d) (h : a + b = c + d) : B a * B b = B c * B d := by
  unfold B
  rw [← Nat.pow_add, ← Nat.pow_add]
  congr 1
  omega

def log10Pow2 (x : Int) : Int := x * 78913 / 262144
def log2Pow10 (x : Int) : Int := x * 108853 / 32768
def skewed (x : Int) : Int := (x * 631305 - 261663) / 2097152

/-- The table of the powers of ten: 'hi * 2^64 - lo'. -/
@[irreducible] def rowAt (i : Nat) : Nat × Nat := Go.Pinned.pow10Rows.getD i (0, 0)
def tabHi (p : Int) : Nat := (rowAt (p + 348).toNat).1
def tabLo (p : Int) : Nat := (rowAt (p + 348).toNat).2
def pm (p : Int) : Nat := tabHi p * 2 ^ 64 - tabLo p

/-- What is asked of the table at place i (the power i - 348). -/
def rowOk (i : Nat) (x : Nat × Nat) : Bool :=
  let p : Int := (i : Int) - 348
  let q := x.1 * 2 ^ 64 - x.2
  let lp := log2Pow10 p
  x.1 < 2 ^ 64 && x.2 < 2 ^ 64 && 1 ≤ x.1 && 2 ^ 127 ≤ q && q ≤ 2 ^ 128 - 2 ^ 114 && A 0 * B p ≤ q * A (lp - 127) * B 0 && (q - 1) * A (lp - 127) * B 0 < A 0 * B p
def rowsOk : Nat → List (Nat × Nat) → Bool
  | _, [] => true
  | i, x :: r => rowOk i x && rowsOk (i + 1) r
theorem rows_len : Go.Pinned.pow10Rows.length = 696 := by kernel_rfl
theorem rows_ok : rowsOk 0 Go.Pinned.pow10Rows = true := by kernel_rfl

attribute [local irreducible] Go.Pinned.pow10Rows
theorem rowsOk_at : ∀ (l : List (Nat × Nat)) (i j : Nat) (x : Nat × Nat), rowsOk i l = true → l[j]? = some x → rowOk (i + j) x = true
  | [], i, j, x, h, hx => by simp at hx
  | y :: r, i, 0, x, h, hx => by
    simp only [rowsOk, Bool.and_eq_true] at h
    simp at hx
    subst hx
    exact h.1
  | y :: r, i, j + 1, x, h, hx => by
    simp only [rowsOk, Bool.and_eq_true] at h
    have hx' : r[j]? = some x := by simpa using hx
    have := rowsOk_at r (i + 1) j x h.2 hx'
    rw [show i + (j + 1) = i + 1 + j from by omega]
    exact this
structure TabAt (p : Int) : Prop where
  hi : tabHi p < 2 ^ 64
  lo : tabLo p < 2 ^ 64
  h1 : 1 ≤ tabHi p
  lower : 2 ^ 127 ≤ pm p
  upper : pm p ≤ 2 ^ 128 - 2 ^ 114
  ge : A 0 * B p ≤ pm p * A (log2Pow10 p - 127) * B 0
  lt : (pm p - 1) * A (log2Pow10 p - 127) * B 0 < A 0 * B p
theorem rowAt_ok (i : Nat) (h : i < 696) : rowOk i (rowAt i) = true := by
  have hl : i < Go.Pinned.pow10Rows.length := by rw [rows_len]; exact h
  have hx := List.getElem?_eq_getElem hl
  have h2 := rowsOk_at _ 0 _ _ rows_ok hx
  unfold rowAt
  rw [List.getD_eq_getElem?_getD, hx, Option.getD_some]
  rw [Nat.zero_add] at h2
  exact h2
theorem tab_at (p : Int) (h1 : -348 ≤ p) (h2 : p ≤ 347) : TabAt p := by
  have h := rowAt_ok (p + 348).toNat (by omega)
  unfold rowOk at h
  have hp : (((p + 348).toNat : Int) - 348) = p := by omega
  simp only [hp, Bool.and_eq_true, decide_eq_true_eq] at h
  obtain ⟨⟨⟨⟨⟨⟨a1, a2⟩, a3⟩, a4⟩, a5⟩, a6⟩, a7⟩ := h
  exact ⟨a1, a2, a3, a4, a5, a6, a7⟩

/-- The whole logarithms, checked over the range that is met. -/
def logOk (i : Nat) : Bool :=
  let x : Int := (i : Int) - 1200
  let l := log10Pow2 x
  B l * A 0 ≤ A x * B 0 && A x * B 0 < B (l + 1) * A 0
def logsOk : Nat → Bool
  | 0 => true
  | n + 1 => logOk n && logsOk n
theorem logs_ok : logsOk 2300 = true := by kernel_rfl
theorem logsOk_at : ∀ n i, logsOk n = true → i < n → logOk i = true
  | 0, i, _, hi => absurd hi (Nat.not_lt_zero _)
  | n + 1, i, h, hi => by
    simp only [logsOk, Bool.and_eq_true] at h
    by_cases e : i = n
    · rw [e]; exact h.1
    · exact logsOk_at n i h.2 (by omega)
theorem log10_at (x : Int) (h1 : -1200 ≤ x) (h2 : x < 1100) : B (log10Pow2 x) * A 0 ≤ A x * B 0 ∧ A x * B 0 < B (log10Pow2 x + 1) * A 0 := by
  have h := logsOk_at 2300 (x + 1200).toNat logs_ok (by omega)
  unfold logOk at h
  have hp : (((x + 1200).toNat : Int) - 1200) = x := by omega
  simp only [hp, Bool.and_eq_true, decide_eq_true_eq] at h
  exact h

/-! Unrounded scaling. -/
def uscaleN (x hi lo s : Nat) : Nat :=
  let h := x * hi / 2 ^ 64
  let mid := x * hi % 2 ^ 64
  if h / 2 ^ s * 2 ^ s ≠ h then h / 2 ^ s ||| 1
  else
    let mid2 := x * lo / 2 ^ 64
    let h' := if mid < mid2 then h - 1 else h
    let d := if mid < mid2 then mid + 2 ^ 64 - mid2 else mid - mid2
    h' / 2 ^ s ||| (if 1 < d then 1 else 0)
def roundN (u : Nat) : Nat := (u + 1 + u / 4 % 2) / 4
def ceilN (u : Nat) : Nat := (u + 3) / 4
def floorN (u : Nat) : Nat := u / 4
def divN (u d : Nat) : Nat := u / d ||| (u % 2) ||| (if u % d ≠ 0 then 1 else 0)
theorem or_one (n : Nat) : n ≤ n ||| 1 ∧ n ||| 1 ≤ n + 1 := by
  have h1 : (n ||| 1) / 2 = n / 2 := by rw [Nat.or_div_two]; simp
  have h2 : (n ||| 1) % 2 = 1 := Nat.or_mod_two_eq_one.2 (.inr rfl)
  omega
theorem or_bit (n b : Nat) (hb : b ≤ 1) : n ≤ n ||| b ∧ n ||| b ≤ n + 1 := by
  have : b = 0 ∨ b = 1 := by omega
  rcases this with rfl | rfl
  · simp
  · exact or_one n
theorem pred_div {h T : Nat} (hT : 0 < T) (hd : h / T * T ≠ h) : (h - 1) / T = h / T := by
  have e := Nat.div_add_mod h T
  have hm : h % T ≠ 0 := fun e0 => hd (by rw [e0, Nat.add_zero, Nat.mul_comm] at e; exact e)
  have hl := Nat.mod_lt h hT
  have : h - 1 = T * (h / T) + (h % T - 1) := by omega
  rw [this, Nat.mul_add_div hT, Nat.div_eq_of_lt (show h % T - 1 < T by omega), Nat.add_zero]
theorem pred_div_dvd {h T : Nat} (hT : 0 < T) (hd : h / T * T = h) (hh : 0 < h) : (h - 1) / T + 1 = h / T := by
  have hq : 0 < h / T := Nat.pos_of_ne_zero (fun e => by rw [e] at hd; omega)
  have e1 : (h / T - 1) * T + T = h := by
    rw [Nat.sub_mul, Nat.one_mul, Nat.sub_add_cancel (Nat.le_mul_of_pos_left T hq)]; exact hd
  have : h - 1 = T * (h / T - 1) + (T - 1) := by rw [Nat.mul_comm T]; omega
  have e2 : (h - 1) / T = h / T - 1 := by
    rw [this, Nat.mul_add_div hT, Nat.div_eq_of_lt (show T - 1 < T by omega), Nat.add_zero]
  omega
theorem uscale_q (x hi lo s : Nat) (hx : x < 18446744073709551616) (hlo : lo < 18446744073709551616) (hhi : 1 ≤ hi) :
    x * (hi * 2 ^ 64 - lo) / 2 ^ (128 + s) ≤ uscaleN x hi lo s ∧ uscaleN x hi lo s ≤ x * (hi * 2 ^ 64 - lo) / 2 ^ (128 + s) + 1 := by
  have hT : 0 < 2 ^ s := Nat.pow_pos (by omega)
  have hR : x * lo < 340282366920938463463374607431768211456 := by
    rcases Nat.eq_zero_or_pos x with rfl | hp
    · rw [Nat.zero_mul]; omega
    · calc x * lo < x * 18446744073709551616 := Nat.mul_lt_mul_of_pos_left hlo hp
        _ ≤ 18446744073709551616 * 18446744073709551616 := Nat.mul_le_mul_right _ (by omega)
        _ = 340282366920938463463374607431768211456 := by decide
  have hPR : x * lo ≤ x * hi * 18446744073709551616 := by
    rw [Nat.mul_assoc]
    refine Nat.mul_le_mul_left x ?_
    omega
  rw [Nat.pow_add, ← Nat.div_div_eq_div_mul, Nat.mul_sub, ← Nat.mul_assoc]
  unfold uscaleN
  rw [show (2 : Nat) ^ 64 = 18446744073709551616 from rfl, show (2 : Nat) ^ 128 = 340282366920938463463374607431768211456 from rfl]
  generalize 2 ^ s = T at hT
  generalize x * hi = P at hPR
  generalize x * lo = R at hR hPR
  by_cases h1 : P / 18446744073709551616 / T * T ≠ P / 18446744073709551616
  · simp only [if_pos h1]
    have hF : (P * 18446744073709551616 - R) / 340282366920938463463374607431768211456 = P / 18446744073709551616 ∨ (P * 18446744073709551616 - R) / 340282366920938463463374607431768211456 = P / 18446744073709551616 - 1 := by omega
    rcases hF with e | e
    · rw [e]; exact or_one _
    · rw [e, pred_div hT h1]; exact or_one _
  · simp only [if_neg h1]
    have h1' : P / 18446744073709551616 / T * T = P / 18446744073709551616 := Classical.not_not.1 h1
    by_cases h2 : P % 18446744073709551616 < R / 18446744073709551616
    · simp only [if_pos h2]
      have hF : (P * 18446744073709551616 - R) / 340282366920938463463374607431768211456 = P / 18446744073709551616 - 1 := by omega
      rw [hF]
      exact or_bit _ _ (by split <;> omega)
    · simp only [if_neg h2]
      by_cases h3 : P % 18446744073709551616 = R / 18446744073709551616
      · have hd : ¬ 1 < P % 18446744073709551616 - R / 18446744073709551616 := by omega
        rw [if_neg hd, Nat.or_zero]
        have hF : (P * 18446744073709551616 - R) / 340282366920938463463374607431768211456 = P / 18446744073709551616 ∨ (0 < P / 18446744073709551616 ∧ (P * 18446744073709551616 - R) / 340282366920938463463374607431768211456 = P / 18446744073709551616 - 1) := by omega
        rcases hF with e | ⟨e0, e⟩
        · rw [e]; omega
        · rw [e]
          have := pred_div_dvd hT h1' e0
          omega
      · have hF : (P * 18446744073709551616 - R) / 340282366920938463463374607431768211456 = P / 18446744073709551616 := by omega
        rw [hF]
        exact or_bit _ _ (by split <;> omega)

/-- The table's entry against the true power, scaled. -/
theorem pm_scaled (e p : Int) (S : Nat) (hp1 : -348 ≤ p) (hp2 : p ≤ 347) (he : -2000 ≤ e) (hS : (S : Int) = 125 - e - log2Pow10 p) :
    (pm p - 1) * U < A e * B p * 4 * 2 ^ S ∧ A e * B p * 4 * 2 ^ S ≤ pm p * U := by
  have T := tab_at p hp1 hp2
  have hl : -2000 ≤ log2Pow10 p - 127 := by unfold log2Pow10; omega
  have hA : A (log2Pow10 p - 127) * A (e + ((2 + S : Nat) : Int)) = A 0 * A 0 := A_mul _ _ _ _ hl (by omega) (by omega) (by omega) (by omega)
  rw [A_add e (2 + S) he, Nat.pow_add] at hA
  have hK : 0 < A e * (2 ^ 2 * 2 ^ S) := Nat.mul_pos (A_pos e) (Nat.mul_pos (by omega) (Nat.pow_pos (by omega)))
  have e1 : A 0 * B p * (A e * (2 ^ 2 * 2 ^ S)) = A 0 * (A e * B p * 4 * 2 ^ S) := by
    rw [show (2 : Nat) ^ 2 = 4 from rfl]
    simp only [Nat.mul_assoc, Nat.mul_comm, Nat.mul_left_comm]
  have e2 : ∀ k, k * A (log2Pow10 p - 127) * B 0 * (A e * (2 ^ 2 * 2 ^ S)) = A 0 * (k * U) := fun k => by
    rw [U_eq]
    have : k * A (log2Pow10 p - 127) * B 0 * (A e * (2 ^ 2 * 2 ^ S)) = k * B 0 * (A (log2Pow10 p - 127) * (A e * (2 ^ 2 * 2 ^ S))) := by
      simp only [Nat.mul_assoc, Nat.mul_comm, Nat.mul_left_comm]
    rw [this, hA]
    simp only [Nat.mul_assoc, Nat.mul_comm, Nat.mul_left_comm]
  constructor
  · have h := Nat.mul_lt_mul_of_pos_right T.lt hK
    rw [e1, e2] at h
    exact Nat.lt_of_mul_lt_mul_left h
  · have h := Nat.mul_le_mul_right (A e * (2 ^ 2 * 2 ^ S)) T.ge
    rw [e1, e2] at h
    exact Nat.le_of_mul_le_mul_left h (A_pos 0)

/-- Unrounded scaling is within one of four times the true value. -/
theorem uscale_bounds (x : Nat) (e p : Int) (s : Nat) (hx0 : 0 < x) (hx : x < 18446744073709551616) (hp1 : -348 ≤ p) (hp2 : p ≤ 347) (he : -2000 ≤ e) (hs : (s : Int) = -(e + log2Pow10 p + 3)) :
    4 * (x * (A e * B p)) < (uscaleN x (tabHi p) (tabLo p) s + 1) * U ∧ 100 * (uscaleN x (tabHi p) (tabLo p) s * U) < 400 * (x * (A e * B p)) + 101 * U := by
  have T := tab_at p hp1 hp2
  obtain ⟨h1, h2⟩ := uscale_q x (tabHi p) (tabLo p) s hx (by have := T.lo; simpa using this) T.h1
  obtain ⟨h3, h4⟩ := pm_scaled e p (128 + s) hp1 hp2 he (by omega)
  have hpm : tabHi p * 2 ^ 64 - tabLo p = pm p := rfl
  rw [hpm] at h1 h2
  generalize uscaleN x (tabHi p) (tabLo p) s = u at h1 h2
  generalize A e * B p = V at h3 h4
  have hpm1 : 1 ≤ pm p := Nat.le_trans (by decide) T.lower
  generalize pm p = M at h1 h2 h3 h4 hpm1
  have hK : 0 < 2 ^ (128 + s) := Nat.pow_pos (by omega)
  have hK2 : 100 * x ≤ 2 ^ (128 + s) := by
    rw [Nat.pow_add]
    calc 100 * x ≤ 2 ^ 128 * 1 := by omega
      _ ≤ 2 ^ 128 * 2 ^ s := Nat.mul_le_mul_left _ (Nat.pow_pos (by omega))
  generalize 2 ^ (128 + s) = K at h1 h2 h3 h4 hK hK2
  have hU := U_pos
  generalize U = W at h3 h4 hU
  have q1 : x * M < (x * M / K + 1) * K := by
    have := Nat.lt_mul_div_succ (x * M) hK
    rw [Nat.mul_comm K] at this; exact this
  have q2 : x * M / K * K ≤ x * M := Nat.div_mul_le_self _ _
  constructor
  · -- 4xV K ≤ x M W < (Q+1) K W ≤ (u+1) K W
    have a1 : 4 * (x * V) * K ≤ x * M * W := by
      have := Nat.mul_le_mul_left x h4
      calc 4 * (x * V) * K = x * (V * 4 * K) := by simp only [Nat.mul_assoc, Nat.mul_comm, Nat.mul_left_comm]
        _ ≤ x * (M * W) := this
        _ = x * M * W := by rw [Nat.mul_assoc]
    have a2 : x * M * W < (x * M / K + 1) * K * W := Nat.mul_lt_mul_of_pos_right q1 hU
    have a3 : (x * M / K + 1) * K * W ≤ (u + 1) * W * K := by
      calc (x * M / K + 1) * K * W = (x * M / K + 1) * (K * W) := by rw [Nat.mul_assoc]
        _ ≤ (u + 1) * (K * W) := Nat.mul_le_mul_right _ (by omega)
        _ = (u + 1) * W * K := by simp only [Nat.mul_assoc, Nat.mul_comm, Nat.mul_left_comm]
    exact Nat.lt_of_mul_lt_mul_right (Nat.lt_of_le_of_lt a1 (Nat.lt_of_lt_of_le a2 a3))
  · -- u W K ≤ (Q + 1) K W ≤ (x M + K) W, x (M - 1) W < 4 x V K
    have b1 : u * W * K ≤ (x * M + K) * W := by
      calc u * W * K = u * (K * W) := by simp only [Nat.mul_assoc, Nat.mul_comm, Nat.mul_left_comm]
        _ ≤ (x * M / K + 1) * (K * W) := Nat.mul_le_mul_right _ h2
        _ = (x * M / K * K + K) * W := by rw [← Nat.mul_assoc, Nat.add_mul, Nat.one_mul]
        _ ≤ (x * M + K) * W := Nat.mul_le_mul_right _ (by omega)
    have b2 : x * (M - 1) * W < 4 * (x * V) * K := by
      calc x * (M - 1) * W = x * ((M - 1) * W) := by rw [Nat.mul_assoc]
        _ < x * (V * 4 * K) := Nat.mul_lt_mul_of_pos_left h3 hx0
        _ = 4 * (x * V) * K := by simp only [Nat.mul_assoc, Nat.mul_comm, Nat.mul_left_comm]
    have b3 : x * M * W = x * (M - 1) * W + x * W := by
      rw [← Nat.add_mul]
      congr 1
      calc x * M = x * (M - 1 + 1) := by rw [Nat.sub_add_cancel hpm1]
        _ = x * (M - 1) + x := by rw [Nat.mul_add, Nat.mul_one]
    have b4 : 100 * (x * W) ≤ K * W := by rw [← Nat.mul_assoc]; exact Nat.mul_le_mul_right _ hK2
    rw [Nat.add_mul, b3] at b1
    refine Nat.lt_of_mul_lt_mul_right (a := K) ?_
    have c1 : 100 * (u * W) * K = 100 * (u * W * K) := by rw [Nat.mul_assoc]
    have c2 : (400 * (x * V) + 101 * W) * K = 100 * (4 * (x * V) * K) + 101 * (K * W) := by
      rw [Nat.add_mul]
      simp only [Nat.mul_assoc, Nat.mul_comm, Nat.mul_left_comm]
    rw [c1, c2]
    omega

theorem round_bounds (u : Nat) : 4 * roundN u ≤ u + 2 ∧ u ≤ 4 * roundN u + 2 := by
  unfold roundN
  omega
theorem div_bounds (u : Nat) : u ≤ 10 * divN u 10 + 9 ∧ 10 * divN u 10 ≤ u + 10 := by
  unfold divN
  rw [Nat.or_assoc]
  have hb : (u % 2 ||| if u % 10 ≠ 0 then 1 else 0) ≤ 1 := by
    have h2 : u % 2 = 0 ∨ u % 2 = 1 := by omega
    rcases h2 with h | h <;> rw [h] <;> split <;> decide
  obtain ⟨h1, h2⟩ := or_bit (u / 10) _ hb
  omega

/-! Fixed width: the n-digit form of m * 2^e. -/
def scaleN (m : Nat) (e p : Int) : Nat := uscaleN m (tabHi p) (tabLo p) (-(e + log2Pow10 p + 3)).toNat
def fixedN (m : Nat) (e : Int) (n : Nat) : Nat × Int :=
  let p : Int := n - 1 - log10Pow2 (e + 63)
  let u := scaleN m e p
  if 4 * 10 ^ n - 2 ≤ u then (roundN (divN u 10), -(p - 1)) else (roundN u, -p)

/-- What is known of the n-digit form (d, k) of M * 2^q (scaled: d * 10^-(-k) against it). -/
structure FixOk (X : Nat) (n : Nat) (d : Nat) : Prop where
  lo : 4 * X < 4 * (d * U) + 3 * U
  up : 4000 * (d * U) < 4000 * X + 3101 * U
  big : (10 ^ (n - 1) - 1) * U ≤ X
  dig : d < 10 ^ n

theorem scale_range {m : Nat} {e p : Int} {n : Nat} (hn1 : 1 ≤ n) (hm1 : 9223372036854775808 ≤ m) (hp : p = n - 1 - log10Pow2 (e + 63)) (he1 : -1200 ≤ e + 63) (he2 : e + 63 < 1100) (hp1 : -348 ≤ p) (hp2 : p ≤ 347) :
    10 ^ (n - 1) * U ≤ m * (A e * B p) := by
  obtain ⟨h1, _⟩ := log10_at (e + 63) he1 he2
  have hlr : -400 ≤ log10Pow2 (e + 63) ∧ log10Pow2 (e + 63) ≤ 400 := by unfold log10Pow2; omega
  have hA : A (e + 63) = A e * 2 ^ 63 := A_add e 63 (by omega)
  have hB : B (log10Pow2 (e + 63)) * B p = B 0 * B ((n - 1 : Nat) : Int) := B_mul _ _ _ _ (by omega) (by omega) (by omega) (by omega) (by omega)
  have hB2 : B ((n - 1 : Nat) : Int) = B 0 * 10 ^ (n - 1) := by
    have := B_add 0 (n - 1) (by omega)
    rw [Int.zero_add] at this; exact this
  have h2 := Nat.mul_le_mul_right (B p) h1
  -- A(e+63) B0 Bp ≥ B L Bp A0 = B0 B0 10^(n-1) A0
  have e1 : B (log10Pow2 (e + 63)) * A 0 * B p = B 0 * (10 ^ (n - 1) * U) := by
    rw [U_eq]
    calc B (log10Pow2 (e + 63)) * A 0 * B p = (B (log10Pow2 (e + 63)) * B p) * A 0 := by simp only [Nat.mul_assoc, Nat.mul_comm, Nat.mul_left_comm]
      _ = B 0 * (B 0 * 10 ^ (n - 1)) * A 0 := by rw [hB, hB2]
      _ = B 0 * (10 ^ (n - 1) * (A 0 * B 0)) := by simp only [Nat.mul_assoc, Nat.mul_comm, Nat.mul_left_comm]
  have e2 : A (e + 63) * B 0 * B p = B 0 * (2 ^ 63 * (A e * B p)) := by
    rw [hA]
    simp only [Nat.mul_assoc, Nat.mul_comm, Nat.mul_left_comm]
  rw [e1, e2] at h2
  have h3 := Nat.le_of_mul_le_mul_left h2 (B_pos 0)
  exact Nat.le_trans h3 (Nat.mul_le_mul_right _ (by omega))

theorem scale_upper {m : Nat} {e p : Int} {n : Nat} (hn1 : 1 ≤ n) (hm2 : m < 18446744073709551616) (hp : p = n - 1 - log10Pow2 (e + 63)) (he1 : -1200 ≤ e + 63) (he2 : e + 63 < 1100) (hp1 : -348 ≤ p) (hp2 : p ≤ 347) :
    m * (A e * B p) < 2 * 10 ^ n * U := by
  obtain ⟨_, h1⟩ := log10_at (e + 63) he1 he2
  have hlr : -400 ≤ log10Pow2 (e + 63) ∧ log10Pow2 (e + 63) ≤ 400 := by unfold log10Pow2; omega
  have hA : A (e + 63) = A e * 2 ^ 63 := A_add e 63 (by omega)
  have hB : B (log10Pow2 (e + 63) + 1) * B p = B 0 * B (n : Int) := B_mul _ _ _ _ (by omega) (by omega) (by omega) (by omega) (by omega)
  have hB2 : B (n : Int) = B 0 * 10 ^ n := by
    have := B_add 0 n (by omega)
    rw [Int.zero_add] at this; exact this
  have h2 := Nat.mul_lt_mul_of_pos_right h1 (B_pos p)
  have e1 : B (log10Pow2 (e + 63) + 1) * A 0 * B p = B 0 * (10 ^ n * U) := by
    rw [U_eq]
    calc B (log10Pow2 (e + 63) + 1) * A 0 * B p = (B (log10Pow2 (e + 63) + 1) * B p) * A 0 := by simp only [Nat.mul_assoc, Nat.mul_comm, Nat.mul_left_comm]
      _ = B 0 * (B 0 * 10 ^ n) * A 0 := by rw [hB, hB2]
      _ = B 0 * (10 ^ n * (A 0 * B 0)) := by simp only [Nat.mul_assoc, Nat.mul_comm, Nat.mul_left_comm]
  have e2 : A (e + 63) * B 0 * B p = B 0 * (2 ^ 63 * (A e * B p)) := by
    rw [hA]
    simp only [Nat.mul_assoc, Nat.mul_comm, Nat.mul_left_comm]
  rw [e1, e2] at h2
  have h3 := Nat.lt_of_mul_lt_mul_left h2
  have hV : 0 < A e * B p := Nat.mul_pos (A_pos e) (B_pos p)
  have h4 : m * (A e * B p) ≤ 2 * (2 ^ 63 * (A e * B p)) := by
    calc m * (A e * B p) ≤ 2 * 2 ^ 63 * (A e * B p) := Nat.mul_le_mul_right _ (by omega)
      _ = 2 * (2 ^ 63 * (A e * B p)) := by rw [Nat.mul_assoc]
  rw [Nat.mul_assoc]
  omega

theorem fixed_ok (m : Nat) (e : Int) (n : Nat) (hn1 : 1 ≤ n) (hn2 : n ≤ 18) (hm1 : 9223372036854775808 ≤ m) (hm2 : m < 18446744073709551616) (he1 : -1137 ≤ e) (he2 : e ≤ 971) :
    -348 ≤ -(fixedN m e n).2 ∧ -(fixedN m e n).2 ≤ 347 ∧ FixOk (m * (A e * B (-(fixedN m e n).2))) n (fixedN m e n).1 := by
  have hl : -324 ≤ log10Pow2 (e + 63) ∧ log10Pow2 (e + 63) ≤ 311 := by unfold log10Pow2; omega
  obtain ⟨p, hp⟩ : ∃ p : Int, p = n - 1 - log10Pow2 (e + 63) := ⟨_, rfl⟩
  have hp1 : -347 ≤ p := by omega
  have hp2 : p ≤ 347 := by omega
  have hs : e + log2Pow10 p ≤ -3 := by
    have h5 : log10Pow2 (e + 63) = (e + 63) * 78913 / 262144 := rfl
    unfold log2Pow10
    omega
  have hr := scale_range hn1 hm1 hp (by omega) (by omega) (by omega) (by omega)
  have hu := scale_upper hn1 hm2 hp (by omega) (by omega) (by omega) (by omega)
  obtain ⟨b1, b2⟩ := uscale_bounds m e p (-(e + log2Pow10 p + 3)).toNat (by omega) hm2 (by omega) hp2 (by omega) (by omega)
  have hU := U_pos
  have hten : 10 ^ n = 10 * 10 ^ (n - 1) := by
    rw [← Nat.pow_succ']
    congr 1
    omega
  have hte : 1 ≤ 10 ^ (n - 1) := Nat.pow_pos (by omega)
  have hsU : U ≤ 10 ^ (n - 1) * U := Nat.le_mul_of_pos_left U hte
  have hfix : fixedN m e n = if 4 * 10 ^ n - 2 ≤ scaleN m e p then (roundN (divN (scaleN m e p) 10), -(p - 1)) else (roundN (scaleN m e p), -p) := by rw [hp]; rfl
  have hsc : scaleN m e p = uscaleN m (tabHi p) (tabLo p) (-(e + log2Pow10 p + 3)).toNat := rfl
  rw [← hsc] at b1 b2
  rw [hfix]
  generalize scaleN m e p = u at b1 b2
  by_cases hd : 4 * 10 ^ n - 2 ≤ u
  · rw [if_pos hd]
    have hpp : -(-(p - 1)) = p - 1 := by omega
    show -348 ≤ -(-(p - 1)) ∧ -(-(p - 1)) ≤ 347 ∧ FixOk (m * (A e * B (-(-(p - 1))))) n (roundN (divN u 10))
    rw [hpp]
    refine ⟨by omega, by omega, ?_⟩
    have hB : B p = B (p - 1) * 10 := by
      have := B_add (p - 1) 1 (by omega)
      rw [show p - 1 + ((1 : Nat) : Int) = p from by omega] at this
      exact this
    have hX : m * (A e * B p) = 10 * (m * (A e * B (p - 1))) := by
      rw [hB]
      simp only [Nat.mul_assoc, Nat.mul_comm, Nat.mul_left_comm]
    rw [hX] at b1 b2 hr hu
    generalize m * (A e * B (p - 1)) = X at b1 b2 hr hu
    obtain ⟨r1, r2⟩ := round_bounds (divN u 10)
    obtain ⟨v1, v2⟩ := div_bounds u
    generalize roundN (divN u 10) = d at r1 r2
    generalize divN u 10 = v at r1 r2 v1 v2
    -- in units of U
    have c1 : (u + 1) * U ≤ (10 * v + 10) * U := Nat.mul_le_mul_right _ (by omega)
    have c2 : 10 * v * U ≤ (u + 10) * U := Nat.mul_le_mul_right _ v2
    have c3 : v * U ≤ (4 * d + 2) * U := Nat.mul_le_mul_right _ r2
    have c4 : 4 * d * U ≤ (v + 2) * U := Nat.mul_le_mul_right _ r1
    have c5 : (4 * 10 ^ n - 2) * U ≤ u * U := Nat.mul_le_mul_right _ hd
    rw [Nat.add_mul] at c1
    rw [Nat.add_mul] at c1
    rw [Nat.add_mul] at c2
    rw [Nat.add_mul] at c3
    rw [Nat.add_mul] at c4
    rw [Nat.sub_mul, Nat.mul_assoc] at c5
    rw [Nat.mul_assoc] at c1 c2 c3 c4
    rw [Nat.mul_assoc] at hu
    rw [Nat.add_mul] at b1
    have hp18 : 10 ^ n * U = 10 * (10 ^ (n - 1) * U) := by rw [hten, Nat.mul_assoc]
    rw [hp18] at c5 hu
    refine ⟨by omega, by omega, ?_, ?_⟩
    · rw [Nat.sub_mul, Nat.one_mul]
      omega
    · have : d * U < 10 * (10 ^ (n - 1) * U) := by omega
      rw [← hp18] at this
      exact Nat.lt_of_mul_lt_mul_right this
  · rw [if_neg hd]
    have hpp : -(-p) = p := by omega
    show -348 ≤ -(-p) ∧ -(-p) ≤ 347 ∧ FixOk (m * (A e * B (-(-p)))) n (roundN u)
    rw [hpp]
    refine ⟨by omega, by omega, ?_⟩
    generalize m * (A e * B p) = X at b1 b2 hr hu
    obtain ⟨r1, r2⟩ := round_bounds u
    have hdg : roundN u < 10 ^ n := by unfold roundN; omega
    generalize roundN u = d at r1 r2 hdg
    have c3 : u * U ≤ (4 * d + 2) * U := Nat.mul_le_mul_right _ r2
    have c4 : 4 * d * U ≤ (u + 2) * U := Nat.mul_le_mul_right _ r1
    rw [Nat.add_mul, Nat.mul_assoc] at c3
    rw [Nat.add_mul, Nat.mul_assoc] at c4
    rw [Nat.add_mul] at b1
    refine ⟨by omega, by omega, ?_, hdg⟩
    rw [Nat.sub_mul, Nat.one_mul]
    omega
end Go.Proofs.Qxb6606417aGreatDoor
