import Derived.Test.Qxb6606417aGreatDoorWalkH
import Derived.Lib.Atoi
import Derived.Lib.IndexMore
namespace Go.Proofs.Qxb6606417aGreatDoor
set_option linter.unusedVariables false
set_option linter.unusedSimpArgs false

/-! Reading the text back. -/
def mstep (s : Nat × Int) (c : UInt8) : Nat × Int := if c.toNat = 46 then s else (s.1 * 10 + (c.toNat - 48), s.2 - 1)
theorem mfold_digits : ∀ (l : List UInt8) (s : Nat × Int), (∀ c ∈ l, c.toNat ≠ 46) → l.foldl mstep s = (valD s.1 l, s.2 - l.length)
  | [], s, _ => by simp [valD]
  | c :: l, s, h => by
    have hc := h c (List.mem_cons_self ..)
    rw [List.foldl_cons, mfold_digits l _ (fun d hd => h d (List.mem_cons_of_mem _ hd))]
    unfold mstep valD
    rw [if_neg hc, List.foldl_cons, List.length_cons]
    congr 1
    omega
theorem mfold_mant (c : UInt8) (r : List UInt8) (prec : Nat) (E : Int) (hc : c.toNat ≠ 46) (hr : ∀ d ∈ r, d.toNat ≠ 46) (hp : r.length ≤ prec) : (mantTxt c r prec).foldl mstep (0, E) = (valD 0 (c :: r) * 10 ^ (prec - r.length), E - (prec + 1)) := by
  unfold mantTxt
  by_cases h0 : prec = 0
  · have : r = [] := List.length_eq_zero_iff.1 (by omega)
    subst this
    subst h0
    rw [if_pos rfl]
    rw [mfold_digits [c] (0, E) (by simpa using hc)]
    simp
  · rw [if_neg h0, List.foldl_cons, List.foldl_cons, List.foldl_append]
    have e1 : mstep (0, E) c = (valD 0 [c], E - 1) := by unfold mstep; rw [if_neg hc]; rfl
    have e2 : ∀ s, mstep s 46 = s := fun s => rfl
    rw [e1, e2, mfold_digits r _ hr, mfold_digits _ _ (by intro d hd; rw [List.eq_of_mem_replicate hd]; decide)]
    rw [valD_zeros, show c :: r = [c] ++ r from rfl, valD_append, List.length_replicate]
    congr 1
    simp only
    omega
/-- The text of x * 10^k at a precision reads back as (x, k). -/
theorem read_back (x : Nat) (k : Int) (c : UInt8) (r : List UInt8) (prec : Nat) (hx : x % 10 ≠ 0) (hd : Lib.decDigits x = c :: r) (hp : r.length ≤ prec) :
    0 < ((mantTxt c r prec).foldl mstep (0, (Lib.nDigits x : Int) + k - 1)).1 ∧ trimN ((mantTxt c r prec).foldl mstep (0, (Lib.nDigits x : Int) + k - 1)).1 (((mantTxt c r prec).foldl mstep (0, (Lib.nDigits x : Int) + k - 1)).2 + 1) = (x, k) := by
  have hm := dec_mem x x (Nat.le_refl _)
  rw [hd] at hm
  have hv := val_dec x x (Nat.le_refl _)
  have hl := Lib.decDigits_length x
  rw [hd] at hv hl
  rw [mfold_mant c r prec _ (by have := hm c (List.mem_cons_self ..); omega) (fun d hdm => by have := hm d (List.mem_cons_of_mem _ hdm); omega) hp]
  simp only [hv]
  rw [List.length_cons] at hl
  have := trim_shift x k hx (prec - r.length)
  rw [show k - ((prec - r.length : Nat) : Int) = (Lib.nDigits x : Int) + k - 1 - (prec + 1) + 1 from by omega] at this
  exact ⟨Nat.mul_pos (by omega) (Nat.pow_pos (by omega)), this⟩
theorem mant_mem (c : UInt8) (r : List UInt8) (prec : Nat) (h : ∀ d ∈ c :: r, 48 ≤ d.toNat ∧ d.toNat ≤ 57) : ∀ d ∈ mantTxt c r prec, d.toNat = 46 ∨ 48 ≤ d.toNat ∧ d.toNat ≤ 57 := by
  intro d hd
  unfold mantTxt at hd
  rcases List.mem_cons.1 hd with rfl | hd
  · exact .inr (h _ (List.mem_cons_self ..))
  · split at hd
    · cases hd
    · rcases List.mem_cons.1 hd with rfl | hd
      · exact .inl rfl
      · rcases List.mem_append.1 hd with hd | hd
        · exact .inr (h _ (List.mem_cons_of_mem _ hd))
        · rw [List.eq_of_mem_replicate hd]; exact .inr (by decide)
theorem mant_len (c : UInt8) (r : List UInt8) (prec : Nat) (hp : r.length ≤ prec) : (mantTxt c r prec).length ≤ prec + 2 := by
  unfold mantTxt
  split <;> simp <;> omega
/-- The exponent. -/
def expOk (i : Nat) : Bool := Lib.atoi (expTxt ((i : Int) - 450)) == some ((i : Int) - 450) && (expTxt ((i : Int) - 450)).length ≤ 5
def expsOk : Nat → Bool
  | 0 => true
  | n + 1 => expOk n && expsOk n
theorem exps_ok : expsOk 900 = true := by kernel_rfl
theorem expsOk_at : ∀ n i, expsOk n = true → i < n → expOk i = true
  | 0, i, _, hi => absurd hi (Nat.not_lt_zero _)
  | n + 1, i, h, hi => by
    simp only [expsOk, Bool.and_eq_true] at h
    by_cases e : i = n
    · rw [e]; exact h.1
    · exact expsOk_at n i h.2 (by omega)
theorem exp_atoi (E : Int) (h1 : -450 ≤ E) (h2 : E < 450) : Lib.atoi (expTxt E) = some E ∧ (expTxt E).length ≤ 5 := by
  have h := expsOk_at 900 (E + 450).toNat exps_ok (by omega)
  unfold expOk at h
  rw [show (((E + 450).toNat : Nat) : Int) - 450 = E from by omega] at h
  simpa using h
theorem index_e : ∀ (m x : List UInt8), (∀ c ∈ m, c ≠ 101) → Lib.index (m ++ 101 :: x) [101] = m.length
  | [], x, _ => by
    rw [List.nil_append, Lib.index, if_pos (by simp [List.isPrefixOf])]; rfl
  | c :: m, x, h => by
    have hc := h c (List.mem_cons_self ..)
    have ih := index_e m x (fun d hd => h d (List.mem_cons_of_mem _ hd))
    rw [List.cons_append, Lib.index, if_neg (by simp [List.isPrefixOf, Ne.symm hc]), ih, if_neg (by simp)]
    simp
theorem cut_e (m x : List UInt8) (h : ∀ c ∈ m, c ≠ 101) : Lib.cut (m ++ 101 :: x) [101] = (m, x, true) := by
  unfold Lib.cut
  rw [index_e m x h, if_pos (by omega)]
  simp
end Go.Proofs.Qxb6606417aGreatDoor
