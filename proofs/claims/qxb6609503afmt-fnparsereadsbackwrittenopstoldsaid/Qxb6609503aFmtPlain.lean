import Derived.PlainAid
namespace Go.Proofs.Qxb6609503aFmt.Pl
set_option linter.unusedVariables false

/-- An operation: its kind, its transaction's number, its item. -/
structure Op3 where
  k : Nat
  n : Nat
  it : List UInt8
  deriving DecidableEq, Inhabited

def itemB (b : UInt8) : Bool := (decide (48 ≤ b.toNat ∧ b.toNat ≤ 57) || decide (65 ≤ b.toNat ∧ b.toNat ≤ 90) || decide (97 ≤ b.toNat ∧ b.toNat ≤ 122)) || (b.toNat == 95 || b.toNat == 46 || b.toNat == 58 || b.toNat == 45)
def endsB (b : UInt8) : Bool := b.toNat == 32 || b.toNat == 9 || b.toNat == 13 || b.toNat == 10 || b.toNat == 35
def letter (k : Nat) : UInt8 := if k = 1 then 82 else if k = 2 then 87 else if k = 3 then 67 else 65
def dec (n : Nat) : List UInt8 := if h : n < 10 then [UInt8.ofNat (48 + n)] else dec (n / 10) ++ [UInt8.ofNat (48 + n % 10)]
termination_by n
def tokOf (o : Op3) : List UInt8 := letter o.k :: (dec o.n ++ if o.k ≤ 2 then 40 :: (o.it ++ [41]) else [])
def sep (i : Nat) : List UInt8 := if i % 4 = 0 then [32] else if i % 4 = 1 then [10] else if i % 4 = 2 then [9] else [13, 10]
def textFrom : Nat → List Op3 → List UInt8
  | _, [] => []
  | i, o :: r => tokOf o ++ (sep i ++ textFrom (i + 1) r)

structure OpOk (o : Op3) : Prop where
  k1 : 1 ≤ o.k
  k4 : o.k ≤ 4
  n0 : 0 < o.n
  n64 : o.n < 18446744073709551616
  it : o.k ≤ 2 → o.it ≠ [] ∧ ∀ b ∈ o.it, itemB b = true

def endedOf (l : List Op3) : List Nat := (l.filter fun o => decide (3 ≤ o.k)).map (·.n)
/-- Every operation is well formed and none stands behind its transaction's end. -/
def Good (O : List Op3) (m : Nat) : Prop := ∀ i, i < m → ∀ o, O[i]? = some o → OpOk o ∧ o.n ∉ endedOf (O.take i)

/-- The parser's state. -/
structure PS where
  ops : List (Nat × Nat × Int)
  nums : List Nat
  ends : List Nat
  items : List (List UInt8)

def PS.init : PS := ⟨[], [], [], []⟩
def numsOf (ps : PS) (n : Nat) : List Nat := if n ∈ ps.nums then ps.nums else ps.nums ++ [n]
def endsOf (ps : PS) (n : Nat) : List Nat := if n ∈ ps.nums then ps.ends else ps.ends ++ [0]
def itemsOf (ps : PS) (it : List UInt8) : List (List UInt8) := if it ∈ ps.items then ps.items else ps.items ++ [it]
def addP (ps : PS) (o : Op3) : PS :=
  if o.k ≤ 2 then { ops := ps.ops ++ [(o.k, ps.nums.idxOf o.n, (ps.items.idxOf o.it : Int))], nums := numsOf ps o.n, ends := endsOf ps o.n, items := itemsOf ps o.it }
  else { ops := ps.ops ++ [(o.k, ps.nums.idxOf o.n, -1)], nums := numsOf ps o.n, ends := (endsOf ps o.n).set (ps.nums.idxOf o.n) o.k, items := ps.items }
def stOf (l : List Op3) : PS := l.foldl addP PS.init
theorem stOf_snoc (l : List Op3) (o : Op3) : stOf (l ++ [o]) = addP (stOf l) o := by simp [stOf]

/-- The end of transaction n in the state. -/
def endAt (ps : PS) (n : Nat) : Nat := ps.ends.getD (ps.nums.idxOf n) 0
def AddOk (tok : List UInt8) (ps ps' : PS) : Prop := ∃ o, OpOk o ∧ tok = tokOf o ∧ endAt ps o.n = 0 ∧ ps' = addP ps o
/-- From the bytes l, the token tok half read and the state ps, the parser comes to fin. -/
def PF : List UInt8 → List UInt8 → PS → PS → Prop
  | [], tok, ps, fin => (tok = [] ∧ ps = fin) ∨ (tok ≠ [] ∧ AddOk tok ps fin)
  | b :: r, tok, ps, fin => b ≠ 35 ∧ if endsB b = true then (tok = [] ∧ PF r [] ps fin) ∨ (tok ≠ [] ∧ ∃ ps', AddOk tok ps ps' ∧ PF r [] ps' fin) else PF r (tok ++ [b]) ps fin

theorem PF_tok : ∀ (t r tok : List UInt8) (ps fin : PS), (∀ b ∈ t, endsB b = false ∧ b ≠ 35) → PF r (tok ++ t) ps fin → PF (t ++ r) tok ps fin
  | [], r, tok, ps, fin, _, h => by simpa using h
  | b :: t, r, tok, ps, fin, hb, h => by
    have h1 := hb b (by simp)
    refine ⟨h1.2, ?_⟩
    rw [if_neg (by rw [h1.1]; decide)]
    exact PF_tok t r (tok ++ [b]) ps fin (fun x hx => hb x (by simp [hx])) (by simpa using h)
theorem PF_skip {b : UInt8} {r : List UInt8} {ps fin : PS} (h1 : endsB b = true) (h2 : b ≠ 35) (h : PF r [] ps fin) : PF (b :: r) [] ps fin := by
  refine ⟨h2, ?_⟩
  rw [if_pos h1]
  exact .inl ⟨rfl, h⟩
theorem PF_add {b : UInt8} {r tok : List UInt8} {ps ps' fin : PS} (h1 : endsB b = true) (h2 : b ≠ 35) (hne : tok ≠ []) (ha : AddOk tok ps ps') (h : PF r [] ps' fin) : PF (b :: r) tok ps fin := by
  refine ⟨h2, ?_⟩
  rw [if_pos h1]
  exact .inr ⟨hne, ps', ha, h⟩

/-- A byte that stands in a token: it ends none. -/
theorem digit_ok (n : Nat) (h : n < 10) : endsB (UInt8.ofNat (48 + n)) = false ∧ UInt8.ofNat (48 + n) ≠ 35 := by
  have : n = 0 ∨ n = 1 ∨ n = 2 ∨ n = 3 ∨ n = 4 ∨ n = 5 ∨ n = 6 ∨ n = 7 ∨ n = 8 ∨ n = 9 := by omega
  rcases this with rfl | rfl | rfl | rfl | rfl | rfl | rfl | rfl | rfl | rfl <;> decide
theorem dec_ok : ∀ (m n : Nat), n ≤ m → ∀ b ∈ dec n, endsB b = false ∧ b ≠ 35
  | 0, n, hm, b, hb => by
    obtain rfl : n = 0 := by omega
    rw [dec, dif_pos (by omega)] at hb
    rw [List.mem_singleton.1 hb]
    exact digit_ok 0 (by omega)
  | m + 1, n, hm, b, hb => by
    rw [dec] at hb
    by_cases h : n < 10
    · rw [dif_pos h] at hb
      rw [List.mem_singleton.1 hb]
      exact digit_ok n h
    · rw [dif_neg h] at hb
      rcases List.mem_append.1 hb with hb | hb
      · exact dec_ok m (n / 10) (by omega) b hb
      · rw [List.mem_singleton.1 hb]
        exact digit_ok (n % 10) (by omega)
theorem itemB_ok (b : UInt8) (h : itemB b = true) : endsB b = false ∧ b ≠ 35 := by
  have h1 : b ≠ 35 := by rintro rfl; exact absurd h (by decide)
  have h2 : b ≠ 32 := by rintro rfl; exact absurd h (by decide)
  have h3 : b ≠ 9 := by rintro rfl; exact absurd h (by decide)
  have h4 : b ≠ 13 := by rintro rfl; exact absurd h (by decide)
  have h5 : b ≠ 10 := by rintro rfl; exact absurd h (by decide)
  refine ⟨?_, h1⟩
  unfold endsB
  have f : ∀ c : UInt8, b ≠ c → (b.toNat == c.toNat) = false := fun c hc => beq_eq_false_iff_ne.2 (fun e => hc (UInt8.toNat_inj.1 e))
  have e1 := f 35 h1
  have e2 := f 32 h2
  have e3 := f 9 h3
  have e4 := f 13 h4
  have e5 := f 10 h5
  simp only [show (35 : UInt8).toNat = 35 from rfl, show (32 : UInt8).toNat = 32 from rfl, show (9 : UInt8).toNat = 9 from rfl, show (13 : UInt8).toNat = 13 from rfl, show (10 : UInt8).toNat = 10 from rfl] at e1 e2 e3 e4 e5
  simp [e1, e2, e3, e4, e5]
theorem letter_ok (k : Nat) : endsB (letter k) = false ∧ letter k ≠ 35 := by
  unfold letter
  split
  · decide
  split
  · decide
  split <;> decide
theorem tok_ok (o : Op3) (h : OpOk o) : ∀ b ∈ tokOf o, endsB b = false ∧ b ≠ 35 := by
  intro b hb
  unfold tokOf at hb
  rcases List.mem_cons.1 hb with rfl | hb
  · exact letter_ok _
  rcases List.mem_append.1 hb with hb | hb
  · exact dec_ok o.n o.n (Nat.le_refl _) b hb
  · by_cases hk : o.k ≤ 2
    · rw [if_pos hk] at hb
      rcases List.mem_cons.1 hb with rfl | hb
      · decide
      rcases List.mem_append.1 hb with hb | hb
      · exact itemB_ok b ((h.it hk).2 b hb)
      · rw [List.mem_singleton.1 hb]; decide
    · rw [if_neg hk] at hb; cases hb
theorem tok_ne (o : Op3) : tokOf o ≠ [] := by simp [tokOf]

/-- The end that the operations l give transaction n. -/
def endFn (l : List Op3) (n : Nat) : Nat := l.foldl (fun e o => if o.n = n ∧ 3 ≤ o.k then o.k else e) 0
theorem endFn_snoc (l : List Op3) (o : Op3) (n : Nat) : endFn (l ++ [o]) n = if o.n = n ∧ 3 ≤ o.k then o.k else endFn l n := by simp [endFn]
theorem endFn_zero : ∀ (l : List Op3) (n e : Nat), n ∉ endedOf l → l.foldl (fun e o => if o.n = n ∧ 3 ≤ o.k then o.k else e) e = e
  | [], n, e, _ => rfl
  | o :: l, n, e, h => by
    have h1 : ¬ (o.n = n ∧ 3 ≤ o.k) := by
      rintro ⟨h1, h2⟩
      apply h
      simp only [endedOf, List.mem_map, List.mem_filter, decide_eq_true_eq]
      exact ⟨o, ⟨by simp, h2⟩, h1⟩
    have h2 : n ∉ endedOf l := by
      intro h2
      apply h
      simp only [endedOf, List.mem_map, List.mem_filter, decide_eq_true_eq] at h2 ⊢
      obtain ⟨x, ⟨hx, hk⟩, hn⟩ := h2
      exact ⟨x, ⟨by simp [hx], hk⟩, hn⟩
    rw [List.foldl_cons, if_neg h1]
    exact endFn_zero l n e h2

theorem idxOf_inj {l : List Nat} {m n : Nat} (hm : m ∈ l) (h : l.idxOf m = l.idxOf n) : m = n := by
  have h1 : l.idxOf m < l.length := List.idxOf_lt_length_iff.2 hm
  have h2 : l.idxOf n < l.length := h ▸ h1
  have e1 : l[l.idxOf m] = m := List.getElem_idxOf h1
  have e2 : l[l.idxOf n] = n := List.getElem_idxOf h2
  rw [← e1, ← e2]
  simp only [h]
theorem mem_numsOf (ps : PS) (n m : Nat) : m ∈ numsOf ps n ↔ m ∈ ps.nums ∨ m = n := by
  unfold numsOf
  split
  · constructor
    · exact .inl
    · rintro (h | rfl) <;> assumption
  · simp
theorem idx_numsOf (ps : PS) (n : Nat) : (numsOf ps n).idxOf n = ps.nums.idxOf n := by
  unfold numsOf
  split
  · rfl
  · rename_i h
    rw [List.idxOf_append, if_neg h, List.idxOf_eq_length h]; simp
theorem idx_lt (ps : PS) (n : Nat) : ps.nums.idxOf n < (numsOf ps n).length := by
  rw [← idx_numsOf]
  exact List.idxOf_lt_length_iff.2 ((mem_numsOf ps n n).2 (.inr rfl))
theorem len_endsOf {ps : PS} (h : ps.ends.length = ps.nums.length) (n : Nat) : (endsOf ps n).length = (numsOf ps n).length := by
  unfold endsOf numsOf
  split <;> simp [h]
theorem endAt_notin {ps : PS} {n : Nat} (h : ps.ends.length = ps.nums.length) (hn : n ∉ ps.nums) : endAt ps n = 0 := by
  unfold endAt
  rw [List.idxOf_eq_length hn, List.getD_eq_getElem?_getD, List.getElem?_eq_none (by omega)]
  rfl
theorem ends_step {ps : PS} (h : ps.ends.length = ps.nums.length) (n m : Nat) : (endsOf ps n).getD ((numsOf ps n).idxOf m) 0 = endAt ps m := by
  by_cases hn : n ∈ ps.nums
  · simp only [endsOf, numsOf, if_pos hn]; rfl
  · simp only [endsOf, numsOf, if_neg hn]
    by_cases hm : m ∈ ps.nums
    · have h1 := List.idxOf_lt_length_iff.2 hm
      rw [List.idxOf_append, if_pos hm]
      unfold endAt
      rw [List.getD_eq_getElem?_getD, List.getD_eq_getElem?_getD, List.getElem?_append_left (by omega)]
    · rw [endAt_notin h hm, List.idxOf_append, if_neg hm]
      by_cases e : m = n
      · subst e; simp [← h]
      · have e2 : (n == m) = false := beq_eq_false_iff_ne.2 (Ne.symm e)
        rw [List.idxOf_cons, e2, List.getD_eq_getElem?_getD, List.getElem?_eq_none (by simp; omega)]; rfl

/-- The invariant of the state after the operations l. -/
structure Inv (l : List Op3) (ps : PS) : Prop where
  nd : ps.nums.Nodup
  ndi : ps.items.Nodup
  le : ps.ends.length = ps.nums.length
  lo : ps.ops.length = l.length
  en : ∀ n, endAt ps n = endFn l n

theorem nodup_snoc {α : Type} [DecidableEq α] {l : List α} {x : α} (h : l.Nodup) (hx : x ∉ l) : (l ++ [x]).Nodup := by
  rw [List.nodup_append]
  exact ⟨h, by simp, fun a ha b hb => by rw [List.mem_singleton.1 hb]; rintro rfl; exact hx ha⟩
theorem Inv.init : Inv [] PS.init := ⟨by simp [PS.init], by simp [PS.init], rfl, rfl, fun n => rfl⟩
theorem Inv.step {l : List Op3} {ps : PS} (h : Inv l ps) (o : Op3) : Inv (l ++ [o]) (addP ps o) := by
  have hnd : (numsOf ps o.n).Nodup := by
    unfold numsOf; split
    · exact h.nd
    · exact nodup_snoc h.nd (by assumption)
  have hndi : (itemsOf ps o.it).Nodup := by
    unfold itemsOf; split
    · exact h.ndi
    · exact nodup_snoc h.ndi (by assumption)
  by_cases hk : o.k ≤ 2
  · have e : addP ps o = { ops := ps.ops ++ [(o.k, ps.nums.idxOf o.n, (ps.items.idxOf o.it : Int))], nums := numsOf ps o.n, ends := endsOf ps o.n, items := itemsOf ps o.it } := by rw [addP, if_pos hk]
    rw [e]
    refine ⟨hnd, hndi, len_endsOf h.le _, by simp [h.lo], fun m => ?_⟩
    rw [endFn_snoc, if_neg (by omega), ← h.en]
    exact ends_step h.le o.n m
  · have e : addP ps o = { ops := ps.ops ++ [(o.k, ps.nums.idxOf o.n, -1)], nums := numsOf ps o.n, ends := (endsOf ps o.n).set (ps.nums.idxOf o.n) o.k, items := ps.items } := by rw [addP, if_neg hk]
    rw [e]
    refine ⟨hnd, h.ndi, by rw [List.length_set]; exact len_endsOf h.le _, by simp [h.lo], fun m => ?_⟩
    rw [endFn_snoc]
    show ((endsOf ps o.n).set (ps.nums.idxOf o.n) o.k).getD ((numsOf ps o.n).idxOf m) 0 = _
    have hlt : ps.nums.idxOf o.n < (endsOf ps o.n).length := by rw [len_endsOf h.le]; exact idx_lt ps o.n
    by_cases hm : o.n = m
    · rw [if_pos ⟨hm, by omega⟩, ← hm, idx_numsOf]
      simp [List.getD_eq_getElem?_getD, hlt]
    · rw [if_neg (by omega), ← h.en, ← ends_step h.le o.n m]
      have hne : ps.nums.idxOf o.n ≠ (numsOf ps o.n).idxOf m := by
        rw [← idx_numsOf]
        intro e
        exact hm (idxOf_inj ((mem_numsOf ps o.n o.n).2 (.inr rfl)) e)
      rw [List.getD_eq_getElem?_getD, List.getD_eq_getElem?_getD, List.getElem?_set_ne hne]
theorem inv_stOf (l : List Op3) : Inv l (stOf l) := by
  have : ∀ (r l : List Op3) (ps : PS), Inv l ps → Inv (l ++ r) (r.foldl addP ps) := by
    intro r
    induction r with
    | nil => intro l ps h; simpa using h
    | cons o r ih => intro l ps h; simpa using ih (l ++ [o]) (addP ps o) (h.step o)
  have h := this l [] PS.init Inv.init
  rwa [List.nil_append] at h

theorem sep_cases (i : Nat) : (∃ b, sep i = [b] ∧ endsB b = true ∧ b ≠ 35) ∨ sep i = [13, 10] := by
  unfold sep
  split
  · exact .inl ⟨_, rfl, by decide, by decide⟩
  split
  · exact .inl ⟨_, rfl, by decide, by decide⟩
  split
  · exact .inl ⟨_, rfl, by decide, by decide⟩
  · exact .inr rfl
theorem PF_text : ∀ (r l : List Op3), Good (l ++ r) (l ++ r).length → PF (textFrom l.length r) [] (stOf l) (stOf (l ++ r))
  | [], l, _ => by rw [List.append_nil]; exact .inl ⟨rfl, rfl⟩
  | o :: r, l, hg => by
    have h0 := hg l.length (by simp) o (by simp)
    have hok := h0.1
    have hend : endAt (stOf l) o.n = 0 := by
      rw [(inv_stOf l).en]
      exact endFn_zero l o.n 0 (by simpa using h0.2)
    have hadd : AddOk (tokOf o) (stOf l) (stOf (l ++ [o])) := ⟨o, hok, rfl, hend, stOf_snoc l o⟩
    have ih := PF_text r (l ++ [o]) (by simpa using hg)
    have e : (l ++ [o]).length = l.length + 1 := by simp
    rw [e, List.append_assoc, List.singleton_append] at ih
    rw [textFrom]
    refine PF_tok _ _ _ _ _ (tok_ok o hok) ?_
    rw [List.nil_append]
    rcases sep_cases l.length with ⟨b, hb, h1, h2⟩ | hb
    · rw [hb]
      exact PF_add h1 h2 (tok_ne o) hadd ih
    · rw [hb]
      exact PF_add (by decide) (by decide) (tok_ne o) hadd (PF_skip (by decide) (by decide) ih)

theorem ext_fold : ∀ (r : List Op3) (ps : PS), (∃ e, (r.foldl addP ps).ops = ps.ops ++ e) ∧ (∃ e, (r.foldl addP ps).nums = ps.nums ++ e) ∧ (∃ e, (r.foldl addP ps).items = ps.items ++ e)
  | [], ps => ⟨⟨[], by simp⟩, ⟨[], by simp⟩, ⟨[], by simp⟩⟩
  | o :: r, ps => by
    obtain ⟨⟨e1, h1⟩, ⟨e2, h2⟩, ⟨e3, h3⟩⟩ := ext_fold r (addP ps o)
    have g1 : ∃ e, (addP ps o).ops = ps.ops ++ e := by unfold addP; split <;> exact ⟨_, rfl⟩
    have g2 : ∃ e, (addP ps o).nums = ps.nums ++ e := by
      have : (addP ps o).nums = numsOf ps o.n := by unfold addP; split <;> rfl
      rw [this]; unfold numsOf; split
      · exact ⟨[], by simp⟩
      · exact ⟨_, rfl⟩
    have g3 : ∃ e, (addP ps o).items = ps.items ++ e := by
      unfold addP; split
      · show ∃ e, itemsOf ps o.it = _
        unfold itemsOf; split
        · exact ⟨[], by simp⟩
        · exact ⟨_, rfl⟩
      · exact ⟨[], by simp⟩
    obtain ⟨a1, b1⟩ := g1
    obtain ⟨a2, b2⟩ := g2
    obtain ⟨a3, b3⟩ := g3
    rw [List.foldl_cons]
    exact ⟨⟨a1 ++ e1, by rw [h1, b1, List.append_assoc]⟩, ⟨a2 ++ e2, by rw [h2, b2, List.append_assoc]⟩, ⟨a3 ++ e3, by rw [h3, b3, List.append_assoc]⟩⟩
theorem stOf_app (l r : List Op3) : stOf (l ++ r) = r.foldl addP (stOf l) := by simp [stOf]

theorem split_at {O : List Op3} {i : Nat} {o : Op3} (h : O[i]? = some o) : O = (O.take i ++ [o]) ++ O.drop (i + 1) := by
  obtain ⟨hi, rfl⟩ := List.getElem?_eq_some_iff.1 h
  rw [← List.take_succ_eq_append_getElem hi, List.take_append_drop]
theorem take_snoc {O : List Op3} {i : Nat} {o : Op3} (h : O[i]? = some o) : O.take (i + 1) = O.take i ++ [o] := by
  obtain ⟨hi, rfl⟩ := List.getElem?_eq_some_iff.1 h
  rw [List.take_succ_eq_append_getElem hi]
def itemIx (ps : PS) (o : Op3) : Int := if o.k ≤ 2 then (ps.items.idxOf o.it : Int) else -1
theorem addP_ops (ps : PS) (o : Op3) : (addP ps o).ops = ps.ops ++ [(o.k, ps.nums.idxOf o.n, itemIx ps o)] := by
  unfold addP itemIx; split <;> rfl
theorem addP_nums (ps : PS) (o : Op3) : (addP ps o).nums = numsOf ps o.n := by unfold addP; split <;> rfl
/-- The operation at place i of what was parsed. -/
theorem ops_at {O : List Op3} {i : Nat} {o : Op3} (h : O[i]? = some o) : (stOf O).ops[i]? = some (o.k, (stOf (O.take i)).nums.idxOf o.n, itemIx (stOf (O.take i)) o) := by
  have hi := (List.getElem?_eq_some_iff.1 h).1
  have e := split_at h
  obtain ⟨⟨e1, h1⟩, -, -⟩ := ext_fold (O.drop (i + 1)) (stOf (O.take i ++ [o]))
  rw [← stOf_app, ← e, stOf_snoc, addP_ops] at h1
  have hl : (stOf (O.take i)).ops.length = i := by rw [(inv_stOf _).lo, List.length_take]; omega
  rw [h1, List.getElem?_append_left (by simp [hl]), List.getElem?_append_right (by omega), hl]
  simp
/-- Its transaction's number. -/
theorem nums_at {O : List Op3} {i : Nat} {o : Op3} (h : O[i]? = some o) : (stOf O).nums[(stOf (O.take i)).nums.idxOf o.n]? = some o.n ∧ (stOf O).nums.idxOf o.n = (stOf (O.take i)).nums.idxOf o.n := by
  have e := split_at h
  obtain ⟨-, ⟨e2, h2⟩, -⟩ := ext_fold (O.drop (i + 1)) (stOf (O.take i ++ [o]))
  rw [← stOf_app, ← e, stOf_snoc, addP_nums] at h2
  have hlt := idx_lt (stOf (O.take i)) o.n
  have hmem : o.n ∈ numsOf (stOf (O.take i)) o.n := (mem_numsOf _ _ _).2 (.inr rfl)
  constructor
  · rw [h2, List.getElem?_append_left hlt, ← idx_numsOf, List.getElem?_eq_getElem (List.idxOf_lt_length_iff.2 hmem), List.getElem_idxOf]
  · rw [h2, List.idxOf_append, if_pos hmem, idx_numsOf]
theorem items_at {O : List Op3} {i : Nat} {o : Op3} (h : O[i]? = some o) (hk : o.k ≤ 2) : (stOf O).items[(stOf (O.take i)).items.idxOf o.it]? = some o.it := by
  have e := split_at h
  obtain ⟨-, -, ⟨e3, h3⟩⟩ := ext_fold (O.drop (i + 1)) (stOf (O.take i ++ [o]))
  have hi : (addP (stOf (O.take i)) o).items = itemsOf (stOf (O.take i)) o.it := by rw [addP, if_pos hk]
  rw [← stOf_app, ← e, stOf_snoc, hi] at h3
  generalize stOf (O.take i) = ps at h3
  rw [h3]
  unfold itemsOf
  split
  · rename_i hm
    have hlt := List.idxOf_lt_length_iff.2 hm
    rw [List.getElem?_append_left hlt, List.getElem?_eq_getElem hlt, List.getElem_idxOf]
  · rename_i hm
    rw [List.idxOf_eq_length hm, List.getElem?_append_left (by simp)]
    simp
theorem ends_at {O : List Op3} (n : Nat) : (stOf O).ends.getD ((stOf O).nums.idxOf n) 0 = endFn O n := (inv_stOf O).en n
end Go.Proofs.Qxb6609503aFmt.Pl
