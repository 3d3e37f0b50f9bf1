import Derived.Lib.SpaceUEq
import Derived.Lib.AtoiAllCases
import Derived.Lib.ItoaLen
import Derived.Lib.ItoaMem
import Derived.Lib.IndexMore
import Derived.Lib.Strings
namespace Go.Proofs.Qxb6606157aDoor.Pl
open Go.Lib

/-! ### Cutting at one byte -/
theorem index_one_hit (c : UInt8) (b : List UInt8) : ∀ a : List UInt8, c ∉ a → index (a ++ c :: b) [c] = a.length
  | [], _ => by simp [index, List.isPrefixOf]
  | x :: a, h => by
    have hx : ¬ c = x := fun e => h (by simp [e])
    have ih := index_one_hit c b a (fun m => h (List.mem_cons_of_mem _ m))
    rw [List.cons_append, index]
    have h1 : ([c].isPrefixOf (x :: (a ++ c :: b))) = false := by simp [List.isPrefixOf, hx]
    rw [h1, ih]
    have h2 : ((a.length : Int) == -1) = false := by simp
    simp [h2]
theorem index_one_miss (c : UInt8) : ∀ a : List UInt8, c ∉ a → index a [c] = -1
  | [], _ => by simp [index]
  | x :: a, h => by
    have hx : ¬ c = x := fun e => h (by simp [e])
    have ih := index_one_miss c a (fun m => h (List.mem_cons_of_mem _ m))
    rw [index]
    have h1 : ([c].isPrefixOf (x :: a)) = false := by simp [List.isPrefixOf, hx]
    rw [h1, ih]
    rfl
theorem cut_hit (c : UInt8) (a b : List UInt8) (h : c ∉ a) : cut (a ++ c :: b) [c] = (a, b, true) := by
  unfold cut
  rw [index_one_hit c b a h, if_pos (by omega)]
  simp
theorem cut_miss (c : UInt8) (a : List UInt8) (h : c ∉ a) : cut a [c] = (a, [], false) := by
  unfold cut
  rw [index_one_miss c a h]
  rfl
theorem indexByte_miss (c : UInt8) : ∀ a : List UInt8, c ∉ a → indexByte a c = -1
  | [], _ => rfl
  | x :: a, h => by
    have hx : ¬ x = c := fun e => h (by simp [e])
    have ih := indexByte_miss c a (fun m => h (List.mem_cons_of_mem _ m))
    rw [indexByte, if_neg (by simpa using hx), ih]
    rfl
theorem hasPrefix_app (p s : List UInt8) : hasPrefix (p ++ s) p = true := by
  unfold hasPrefix; simp
theorem trimPrefix_app (p s : List UInt8) : trimPrefix (p ++ s) p = s := by
  unfold trimPrefix; rw [hasPrefix_app, if_pos rfl]; simp

/-! ### The numeral read back -/
theorem parse_digits : ∀ (v : Nat), v < 18446744073709551616 → ∀ r, parseUint10 0 (decDigits v ++ r) = parseUint10 v r := by
  intro v
  induction v using Nat.strongRecOn with
  | _ v ih =>
    intro hv r
    by_cases h : v < 10
    · rw [decDigits.eq_1, dif_pos h, List.singleton_append, parseUint10]
      have e : (UInt8.ofNat (48 + v)).toNat = 48 + v := by simp; omega
      rw [e, if_pos ⟨by omega, by omega⟩, if_neg (by omega), if_neg (by omega)]
      congr 1; omega
    · rw [decDigits.eq_1, dif_neg h, List.append_assoc, ih (v / 10) (by omega) (by omega), List.singleton_append, parseUint10]
      have e : (UInt8.ofNat (48 + v % 10)).toNat = 48 + v % 10 := by simp; omega
      rw [e, if_pos ⟨by omega, by omega⟩, if_neg (by omega), if_neg (by omega)]
      congr 1; omega
theorem decDigits_ne (v : Nat) : decDigits v ≠ [] := by
  intro e
  have : (decDigits v).length = 0 := by rw [e]; rfl
  rw [decDigits_length] at this
  have := nDigits_pos v
  omega
theorem parseMag_digits (v : Nat) (hv : v < 18446744073709551616) : parseMag (decDigits v) = .ok v := by
  unfold parseMag
  rw [if_neg (decDigits_ne v)]
  have := parse_digits v hv []
  rw [List.append_nil] at this
  rw [this]; rfl
theorem digits_mem : ∀ (v : Nat), ∀ b ∈ decDigits v, 48 ≤ b.toNat ∧ b.toNat ≤ 57 := by
  intro v
  induction v using Nat.strongRecOn with
  | _ v ih =>
    intro b hb
    by_cases h : v < 10
    · rw [decDigits.eq_1, dif_pos h] at hb
      have e : (UInt8.ofNat (48 + v)).toNat = 48 + v := by simp; omega
      rw [List.mem_singleton.1 hb, e]; omega
    · rw [decDigits.eq_1, dif_neg h, List.mem_append] at hb
      rcases hb with hb | hb
      · exact ih (v / 10) (by omega) b hb
      · have e : (UInt8.ofNat (48 + v % 10)).toNat = 48 + v % 10 := by simp; omega
        rw [List.mem_singleton.1 hb, e]; omega
theorem atoi_itoa (n : Int) (h0 : -9223372036854775808 ≤ n) (h1 : n ≤ 9223372036854775807) : atoiAll (itoa n) = .ok n := by
  by_cases hn : n < 0
  · obtain ⟨u, rfl⟩ : ∃ u : Nat, n = -(u : Int) := ⟨n.natAbs, by omega⟩
    rw [itoa_neg u (by omega), atoiAll_minus, parseMag_digits u (by omega)]
    unfold signed
    simp
    omega
  · obtain ⟨u, rfl⟩ : ∃ u : Nat, n = u := ⟨n.toNat, by omega⟩
    rw [itoa_nonneg]
    obtain ⟨c, r, hd⟩ : ∃ c r, decDigits u = c :: r := by
      cases h : decDigits u with
      | nil => exact absurd h (decDigits_ne u)
      | cons c r => exact ⟨c, r, rfl⟩
    have hc := digits_mem u c (by rw [hd]; simp)
    rw [hd, atoiAll_plain c r (by omega) (by omega), ← hd, parseMag_digits u (by omega)]
    unfold signless
    simp
    omega
theorem itoa_mem (n : Int) : ∀ b ∈ itoa n, b.toNat = 45 ∨ (48 ≤ b.toNat ∧ b.toNat ≤ 57) := by
  intro b hb
  unfold itoa at hb
  split at hb
  · rcases List.mem_cons.1 hb with rfl | hb
    · exact Or.inl rfl
    · exact Or.inr (digits_mem _ b hb)
  · exact Or.inr (digits_mem _ b hb)
theorem itoa_no32 (n : Int) : (32 : UInt8) ∉ itoa n := fun h => by
  have := itoa_mem n _ h
  have e : (32 : UInt8).toNat = 32 := rfl
  omega
theorem itoa_no44 (n : Int) : (44 : UInt8) ∉ itoa n := fun h => by
  have := itoa_mem n _ h
  have e : (44 : UInt8).toNat = 44 := rfl
  omega

/-! ### Trimming -/
theorem stripL_zero (f : Nat) (l : List UInt8) (h : headSpace l = 0) : stripL f l = l := by cases f with
  | zero => rfl
  | succ f => rw [stripL, if_pos h]
theorem stripR_zero (f : Nat) (l : List UInt8) (h : tailSpace l = 0) : stripR f l = l := by cases f with
  | zero => rfl
  | succ f => rw [stripR, if_pos h]
theorem trim_id (l : List UInt8) (h1 : headSpace l = 0) (h2 : tailSpace l = 0) : trimSpaceD l = l := by
  rw [← trimSpaceU_eq, trimSpaceU, stripL_zero _ _ h1, stripR_zero _ _ h2]
theorem headSpace_32 (l : List UInt8) : headSpace (32 :: l) = 1 := by
  simp [headSpace, spaceSeqs, List.find?, List.isPrefixOf]
theorem headSpace_65 (l : List UInt8) : headSpace (65 :: l) = 0 := by
  simp [headSpace, spaceSeqs, List.find?, List.isPrefixOf]
/-- One blank ahead of a text that is trimmed. -/
theorem trim_blank (l : List UInt8) (h1 : headSpace l = 0) (h2 : tailSpace l = 0) : trimSpaceD (32 :: l) = l := by
  rw [← trimSpaceU_eq, trimSpaceU, List.length_cons, stripL, headSpace_32, if_neg (by decide), List.drop_one, List.tail_cons, stripL_zero _ _ h1, stripR_zero _ _ h2]
theorem tail_zero_iff (l : List UInt8) : tailSpace l = 0 ↔ ∀ q ∈ spaceSeqs, q.isSuffixOf l = false := by
  unfold tailSpace
  cases h : spaceSeqs.find? (·.isSuffixOf l) with
  | none =>
    simp only [Option.map_none, Option.getD_none, true_iff]
    intro q hq
    exact Bool.eq_false_iff.2 (List.find?_eq_none.1 h q hq)
  | some q =>
    have hq := List.mem_of_find?_eq_some h
    have hs : q.isSuffixOf l = true := by simpa using List.find?_some h
    have hl : ∀ q ∈ spaceSeqs, q.length ≠ 0 := by decide
    simp only [Option.map_some, Option.getD_some]
    constructor
    · intro e; exact absurd e (hl q hq)
    · intro e; rw [e q hq] at hs; cases hs
/-- Behind a blank a text that is not empty ends as it ends by itself. -/
theorem tail_app (x l : List UInt8) (hne : l ≠ []) (h : tailSpace l = 0) : tailSpace (x ++ 32 :: l) = 0 := by
  rw [tail_zero_iff] at h ⊢
  intro q hq
  cases hs : q.isSuffixOf (x ++ 32 :: l) with
  | false => rfl
  | true =>
    exfalso
    have hsuf : q <:+ x ++ 32 :: l := List.isSuffixOf_iff_suffix.1 hs
    by_cases hlen : q.length ≤ l.length
    · have : q <:+ l := by
        have hl : l <:+ x ++ 32 :: l := ⟨x ++ [32], by simp⟩
        exact List.suffix_of_suffix_length_le hsuf hl hlen
      have h2 := h q hq
      rw [List.isSuffixOf_iff_suffix.2 this] at h2
      cases h2
    · have hb : (32 :: l) <:+ q := by
        have hl : (32 :: l) <:+ x ++ 32 :: l := ⟨x, rfl⟩
        exact List.suffix_of_suffix_length_le hl hsuf (by simp; omega)
      have hdec : ∀ q ∈ spaceSeqs, ∀ k, q.drop k ≠ [] → (q.drop k).head? = some 32 → (q.drop k).length = 1 := by
        intro q hq k hk hk2
        have hk3 : k ≤ 3 := by
          have : q.length ≤ 3 := (show ∀ q ∈ spaceSeqs, q.length ≤ 3 by decide) q hq
          by_cases hh : k ≤ 3
          · exact hh
          · exact absurd (List.drop_of_length_le (by omega)) hk
        have key : ∀ q ∈ spaceSeqs, ∀ k ∈ [0, 1, 2, 3], (q.drop k).head? = some 32 → (q.drop k).length = 1 := by decide
        refine key q hq k ?_ hk2
        match k, hk3 with
        | 0, _ => simp
        | 1, _ => simp
        | 2, _ => simp
        | 3, _ => simp
      obtain ⟨t, ht⟩ := hb
      have hd : q.drop t.length = 32 :: l := by rw [← ht]; simp
      have := hdec q hq t.length (by rw [hd]; simp) (by rw [hd]; rfl)
      rw [hd] at this
      have : l.length = 0 := by simpa using this
      exact hne (List.length_eq_zero_iff.1 this)
/-- A text that ends in 'c'. -/
theorem tail_c (x : List UInt8) : tailSpace (x ++ [99]) = 0 := by
  rw [tail_zero_iff]
  intro q hq
  cases hs : q.isSuffixOf (x ++ [99]) with
  | false => rfl
  | true =>
    exfalso
    obtain ⟨t, ht⟩ := List.isSuffixOf_iff_suffix.1 hs
    have h1 : (t ++ q).getLast? = some 99 := by rw [ht]; simp
    have key : ∀ q ∈ spaceSeqs, q ≠ [] ∧ q.getLast? ≠ some 99 := by decide
    rw [List.getLast?_append] at h1
    obtain ⟨k1, k2⟩ := key q hq
    cases hq2 : q.getLast? with
    | none => exact k1 (List.getLast?_eq_none_iff.1 hq2)
    | some z =>
      rw [hq2] at h1 k2
      simp at h1
      exact k2 (by rw [h1])

/-! ### The line -/
def tag : List UInt8 := [84, 82, 65, 78, 83, 65, 67, 84, 73, 79, 78, 32]
def act : List UInt8 := [65, 67, 84, 73, 86, 69, 32]
def tl (st : List UInt8) : List UInt8 := if st = [] then [] else 32 :: st
def r4 (n : Int) (st : List UInt8) : List UInt8 := itoa n ++ 32 :: ([115, 101, 99] ++ tl st)
def r3 (n : Int) (st : List UInt8) : List UInt8 := act ++ r4 n st
def r1 (id : List UInt8) (n : Int) (st : List UInt8) : List UInt8 := id ++ 44 :: 32 :: r3 n st
def line (id : List UInt8) (n : Int) (st : List UInt8) : List UInt8 := tag ++ r1 id n st

theorem tail_r3 (n : Int) (st : List UInt8) (h : tailSpace st = 0) : tailSpace (r3 n st) = 0 := by
  unfold r3 r4 tl
  split
  · have : act ++ (itoa n ++ 32 :: ([115, 101, 99] ++ [])) = (act ++ itoa n ++ [32, 115, 101]) ++ [99] := by simp
    rw [this]; exact tail_c _
  · rename_i hne
    have : act ++ (itoa n ++ 32 :: ([115, 101, 99] ++ 32 :: st)) = (act ++ itoa n ++ [32, 115, 101, 99]) ++ 32 :: st := by simp
    rw [this]; exact tail_app _ st hne h
theorem trim_r3 (n : Int) (st : List UInt8) (h : tailSpace st = 0) : trimSpaceD (32 :: r3 n st) = r3 n st :=
  trim_blank _ (by unfold r3 act; exact headSpace_65 _) (tail_r3 n st h)
theorem trim_tl (st : List UInt8) (h1 : headSpace st = 0) (h2 : tailSpace st = 0) : trimSpaceD (tl st) = st := by
  unfold tl
  split
  · rename_i e; subst e; rfl
  · exact trim_blank st h1 h2
theorem tl_no44 (st : List UInt8) (h : (44 : UInt8) ∉ st) : (44 : UInt8) ∉ tl st := by
  unfold tl
  split
  · simp
  · intro m
    rcases List.mem_cons.1 m with e | m
    · cases e
    · exact h m
end Go.Proofs.Qxb6606157aDoor.Pl
