import Derived.Lib.MapLaws
import Derived.Lib.ValidLaws
namespace Go.Proofs.Qxb6612590aDoor.Pl
open Go.Lib
set_option linter.unusedVariables false

/-- What the writer's closure makes of a rune. -/
def crF (r : Int) : Int := if r = 13 ∨ r = 10 then 32 else r
/-- .. of a byte. -/
def crB (b : UInt8) : UInt8 := if b = 13 ∨ b = 10 then 32 else b
def txt (l : List UInt8) : List UInt8 := mapD crF l

theorem decodeL_N (l : List UInt8) : decodeL l = decodeN l.length (l.getD 0 0).toNat (l.getD 1 0).toNat (l.getD 2 0).toNat (l.getD 3 0).toNat := by
  have hg : ∀ k, (ByteArray.mk l.toArray).get! k = l.getD k 0 := fun k => by
    show (l.toArray)[k]! = _
    simp [List.getD]
    rfl
  unfold decodeL
  rw [decode_at, hg, hg, hg, hg]
  rfl

theorem getD_app (a b : List UInt8) (k : Nat) (h : k < a.length) : (a ++ b).getD k 0 = a.getD k 0 := by
  rw [List.getD, List.getD, List.getElem?_append_left h]

/-- A rune that is validly decoded is decoded so whatever follows. -/
theorem decodeL_app (a b : List UInt8) (hne : a ≠ []) (hv : ¬ ((decodeL a).1 = 65533 ∧ (decodeL a).2 = 1)) : decodeL (a ++ b) = decodeL a := by
  have hl : 0 < a.length := List.length_pos_iff.2 hne
  have hla : (a ++ b).length = a.length + b.length := List.length_append
  rw [decodeL_N a] at hv
  rw [decodeL_N (a ++ b), decodeL_N a, hla, getD_app a b 0 hl]
  generalize e0 : (a.getD 0 0).toNat = b0 at *
  rcases decodeN_shape a.length b0 (a.getD 1 0).toNat (a.getD 2 0).toNat (a.getD 3 0).toNat with ⟨h, e⟩ | ⟨h, hn, h1, h2, e⟩ | ⟨h, hn, h1, h2, h3, h4, e⟩ | ⟨h, hn, h1, h2, h3, h4, h5, e⟩ | e
  · rw [e]; unfold decodeN; rw [if_pos h]
  · rw [e, getD_app a b 1 hn]; unfold decodeN
    rw [if_neg (by omega), if_pos ⟨h, by omega, h1⟩, if_pos h2]
  · rw [e, getD_app a b 1 (by omega), getD_app a b 2 hn]; unfold decodeN
    rw [if_neg (by omega), if_neg (by omega), if_pos ⟨h, ⟨by omega, h1⟩, by omega, h2⟩, if_pos ⟨h3, by omega⟩]
  · rw [e, getD_app a b 1 (by omega), getD_app a b 2 (by omega), getD_app a b 3 hn]; unfold decodeN
    rw [if_neg (by omega), if_neg (by omega), if_neg (by omega), if_pos ⟨h, ⟨by omega, h1⟩, ⟨by omega, h2⟩, by omega, h3⟩, if_pos ⟨h4, by omega⟩]
  · rw [e] at hv; exact absurd ⟨rfl, rfl⟩ hv

theorem crB_high (x : UInt8) (h : 128 ≤ x.toNat) : crB x = x := by
  unfold crB
  rw [if_neg]
  rintro (rfl | rfl) <;> revert h <;> decide

theorem map_high : ∀ (l : List UInt8), (∀ x ∈ l, 128 ≤ x.toNat) → l.map crB = l
  | [], _ => rfl
  | x :: l, h => by rw [List.map_cons, crB_high x (h x (by simp)), map_high l (fun y hy => h y (by simp [hy]))]

/-- One step: the text of the first rune. -/
theorem step (a : List UInt8) (hne : a ≠ []) (hv : ¬ ((decodeL a).1 = 65533 ∧ (decodeL a).2 = 1)) :
    (if 0 ≤ crF (decodeL a).1 then encodeRune (crF (decodeL a).1) else []) = (a.take (decodeL a).2).map crB := by
  have hl : 0 < a.length := List.length_pos_iff.2 hne
  have henc := encode_decode a hne hv
  by_cases hlow : (a.getD 0 0).toNat < 128
  · have e : decodeL a = ((a.getD 0 0).toNat, 1) := by rw [decodeL_N]; unfold decodeN; rw [if_pos hlow]
    have ht : a.take 1 = [a.getD 0 0] := takeA a hl
    rw [e] at henc ⊢
    simp only at henc ⊢
    rw [ht] at henc ⊢
    generalize a.getD 0 0 = x at *
    by_cases hc : x = 13 ∨ x = 10
    · rcases hc with rfl | rfl <;> rfl
    · have h13 : ¬ x.toNat = 13 := fun h => hc (Or.inl (UInt8.toNat_inj.1 h))
      have h10 : ¬ x.toNat = 10 := fun h => hc (Or.inr (UInt8.toNat_inj.1 h))
      have hf : crF (x.toNat : Int) = x.toNat := by unfold crF; rw [if_neg (by omega)]
      rw [hf, if_pos (by omega), henc]
      simp [crB, hc]
  · have hb : ∀ x ∈ a.take (decodeL a).2, 128 ≤ x.toNat := by
      have hN := decodeL_N a
      rcases decodeN_shape a.length (a.getD 0 0).toNat (a.getD 1 0).toNat (a.getD 2 0).toNat (a.getD 3 0).toNat with ⟨h, e⟩ | ⟨h, hn, h1, h2, e⟩ | ⟨h, hn, h1, h2, h3, h4, e⟩ | ⟨h, hn, h1, h2, h3, h4, h5, e⟩ | e
      · exact absurd h hlow
      · rw [hN, e]; simp only; rw [takeB a hn]
        intro x hx; simp at hx; rcases hx with rfl | rfl <;> simp only [List.getD] at * <;> omega
      · rw [hN, e]; simp only; rw [takeC a hn]
        intro x hx; simp at hx; rcases hx with rfl | rfl | rfl <;> simp only [List.getD] at * <;> omega
      · rw [hN, e]; simp only; rw [takeD a hn]
        intro x hx; simp at hx; rcases hx with rfl | rfl | rfl | rfl <;> simp only [List.getD] at * <;> omega
      · rw [hN, e] at hv; exact absurd ⟨rfl, rfl⟩ hv
    have hr : ¬ ((decodeL a).1 = 13 ∨ (decodeL a).1 = 10) := by
      have hN := decodeL_N a
      rcases decodeN_shape a.length (a.getD 0 0).toNat (a.getD 1 0).toNat (a.getD 2 0).toNat (a.getD 3 0).toNat with ⟨h, e⟩ | ⟨h, hn, h1, h2, e⟩ | ⟨h, hn, h1, h2, h3, h4, e⟩ | ⟨h, hn, h1, h2, h3, h4, h5, e⟩ | e
      · exact absurd h hlow
      all_goals (rw [hN, e]; simp only; omega)
    have hf : crF ((decodeL a).1 : Int) = (decodeL a).1 := by unfold crF; rw [if_neg (by omega)]
    rw [hf, if_pos (by omega), henc, map_high _ hb]

theorem valid_split : ∀ (n : Nat) (a b : List UInt8), a.length ≤ n → validD a = true → txt (a ++ b) = a.map crB ++ txt b := by
  intro n
  induction n with
  | zero =>
    intro a b h _
    have : a = [] := List.length_eq_zero_iff.1 (by omega)
    subst this; rfl
  | succ n ih =>
    intro a b h hv
    by_cases hne : a = []
    · subst hne; rfl
    · rw [validD_step a hne] at hv
      by_cases he : (decodeL a).1 = 65533 ∧ (decodeL a).2 = 1
      · rw [if_pos he] at hv; cases hv
      · rw [if_neg he] at hv
        have hd := decodeL_app a b hne he
        have hw := decodeL_width a
        have hle := decodeL_le a hne
        have hne2 : a ++ b ≠ [] := by simp [hne]
        unfold txt at ih ⊢
        have hs := step a hne he
        rw [mapD_step crF (a ++ b) hne2, hd, hs, List.drop_append_of_le_length hle, ih (a.drop (decodeL a).2) b (by rw [List.length_drop]; omega) hv,
          ← List.append_assoc, ← List.map_append, List.take_append_drop]
theorem txt_app (a b : List UInt8) (h : validD a = true) : txt (a ++ b) = a.map crB ++ txt b := valid_split a.length a b (Nat.le_refl _) h
theorem txt_valid (a : List UInt8) (h : validD a = true) : txt a = a.map crB := by
  have := txt_app a [] h
  rw [List.append_nil] at this
  rw [this]
  have : txt [] = [] := rfl
  rw [this, List.append_nil]

theorem enc_no10 (r : Int) (h : r ≠ 10) : (10 : UInt8) ∉ encodeRune r := by
  intro hm
  unfold encodeRune at hm
  obtain ⟨z, hz, e⟩ := List.mem_map.1 hm
  have hzn : z.toNat % 256 = 10 := by
    have := congrArg UInt8.toNat e
    simpa using this
  unfold encodeRuneZ at hz
  split at hz
  · simp at hz; omega
  · split at hz
    · simp at hz; rcases hz with rfl | rfl <;> omega
    · split at hz
      · simp at hz; rcases hz with rfl | rfl | rfl <;> omega
      · split at hz
        · simp at hz; rcases hz with rfl | rfl | rfl | rfl <;> omega
        · simp at hz; rcases hz with rfl | rfl | rfl <;> omega
theorem enc_len (r : Int) : (encodeRune r).length ≤ 4 := by
  unfold encodeRune encodeRuneZ
  rw [List.length_map]
  repeat' split
  all_goals simp
theorem go_no10 : ∀ (n : Nat) (l : List UInt8), (10 : UInt8) ∉ mapGoD crF n l
  | 0, _ => by simp [mapGoD]
  | n + 1, l => by
    rw [mapGoD]
    split
    · simp
    · intro hm
      rcases List.mem_append.1 hm with h | h
      · split at h
        · exact enc_no10 _ (by unfold crF; split <;> omega) h
        · simp at h
      · exact go_no10 n _ h
theorem txt_no10 (l : List UInt8) : (10 : UInt8) ∉ txt l := go_no10 _ l
theorem go_len : ∀ (n : Nat) (l : List UInt8), (mapGoD crF n l).length ≤ 4 * n
  | 0, _ => by simp [mapGoD]
  | n + 1, l => by
    rw [mapGoD]
    split
    · simp
    · rw [List.length_append]
      have h1 := go_len n (l.drop (decodeL l).2)
      have h2 := enc_len (crF (decodeL l).1)
      split <;> simp <;> omega
theorem txt_len (l : List UInt8) : (txt l).length ≤ 4 * l.length := go_len _ l
end Go.Proofs.Qxb6612590aDoor.Pl
