import Derived.Test.Qxb6606417aGreatDoorNum11
import Derived.Lib.BitFns
namespace Go.Proofs.Qxb6606417aGreatDoor
set_option linter.unusedVariables false
set_option linter.unusedSimpArgs false
open Ieee

/-! Packing. -/
def packW (mb N : Nat) (lm qm : Int) (inf m : Nat) (e : Int) : Nat × Bool :=
  if m &&& 2 ^ mb = 0 then (m, false) else if qm < e then (inf, true) else ((m &&& (2 ^ N - 1 - 2 ^ mb)) ||| (e + 1 - lm).toNat * 2 ^ mb, false)
theorem and_pow_low {m mb : Nat} (h : m < 2 ^ mb) : m &&& 2 ^ mb = 0 := by
  refine Nat.eq_of_testBit_eq fun i => ?_
  rw [Nat.testBit_and, Nat.zero_testBit]
  by_cases hi : i = mb
  · subst hi; rw [Nat.testBit_lt_two_pow h]; rfl
  · rw [Nat.testBit_two_pow_of_ne (by omega)]; simp
theorem and_pow_high {m mb : Nat} (h1 : 2 ^ mb ≤ m) (h2 : m < 2 ^ (mb + 1)) : m &&& 2 ^ mb ≠ 0 := by
  intro h0
  have : m.testBit mb = true := by
    rw [Nat.testBit_eq_decide_div_mod_eq]
    rw [Nat.pow_succ] at h2
    have : m / 2 ^ mb = 1 := by
      rw [Nat.div_eq_iff (Nat.pow_pos (by omega))]; omega
    rw [this]; rfl
  have h3 : (m &&& 2 ^ mb).testBit mb = true := by rw [Nat.testBit_and, this, Nat.testBit_two_pow_self]; rfl
  rw [h0] at h3
  simp at h3
theorem clear_bit {m mb N : Nat} (h1 : 2 ^ mb ≤ m) (h2 : m < 2 ^ (mb + 1)) (hN : mb < N) : m &&& (2 ^ N - 1 - 2 ^ mb) = m - 2 ^ mb := by
  refine Nat.eq_of_testBit_eq fun i => ?_
  have e : 2 ^ N - 1 - 2 ^ mb = 2 ^ N - (2 ^ mb + 1) := by omega
  have hlt : 2 ^ mb < 2 ^ N := Nat.pow_lt_pow_right (by omega) hN
  rw [Nat.testBit_and, e, Nat.testBit_two_pow_sub_succ hlt]
  have hm : m = 2 ^ mb + (m - 2 ^ mb) := by omega
  have hr : m - 2 ^ mb < 2 ^ mb := by rw [Nat.pow_succ] at h2; omega
  generalize m - 2 ^ mb = r at *
  subst hm
  by_cases hi : i = mb
  · subst hi
    rw [Nat.testBit_lt_two_pow hr]
    simp [Nat.testBit_two_pow_self]
  · rw [Nat.testBit_two_pow_of_ne (by omega)]
    rcases Nat.lt_or_ge i mb with h | h
    · rw [Nat.testBit_two_pow_add_gt h]
      simp; omega
    · have a1 : (2 ^ mb + r).testBit i = false := Nat.testBit_lt_two_pow (Nat.lt_of_lt_of_le (show 2 ^ mb + r < 2 ^ (mb + 1) by rw [Nat.pow_succ]; omega) (Nat.pow_le_pow_right (by omega) (by omega)))
      have a2 : r.testBit i = false := Nat.testBit_lt_two_pow (Nat.lt_of_lt_of_le hr (Nat.pow_le_pow_right (by omega) h))
      rw [a1, a2]; simp
theorem pack_close {mb N M : Nat} {lm qm q : Int} (inf : Nat) (hf : Fl mb lm qm M q) (hN : mb < N) : packW mb N lm qm inf M q = (rungN mb lm M q, false) := by
  have hge := hf.ge
  have hle := hf.le
  have hlt := hf.lt
  unfold packW rungN
  by_cases h : M < 2 ^ mb
  · rw [if_pos (and_pow_low h), hf.sub h]; simp
  · rw [if_neg (and_pow_high (by omega) hlt), if_neg (by omega), clear_bit (by omega) hlt hN, Nat.or_comm, Nat.mul_comm, ← Nat.two_pow_add_eq_or_of_lt (by rw [Nat.pow_succ] at hlt; omega)]
    have e : (q + 1 - lm).toNat = (q - lm).toNat + 1 := by omega
    rw [e, Nat.mul_add, Nat.mul_one, Nat.mul_comm]
    congr 1
    omega

/-! Parsing by a scaled power of ten. -/
def parseW (mb N : Nat) (lm qm : Int) (inf d : Nat) (p : Int) : Nat × Bool :=
  if 64 ≤ parseS mb lm (Lib.bitLen d) p then (0, false)
  else packW mb N lm qm inf (parseN mb lm d (Lib.bitLen d) p).1 (parseN mb lm d (Lib.bitLen d) p).2
theorem bitLen_aux : ∀ (f x : Nat), x < 2 ^ f → 0 < x → 1 ≤ Lib.bitLenAux f x ∧ Lib.bitLenAux f x ≤ f ∧ 2 ^ (Lib.bitLenAux f x - 1) ≤ x ∧ x < 2 ^ Lib.bitLenAux f x
  | 0, x, h, h0 => by simp at h; omega
  | f + 1, x, h, h0 => by
    unfold Lib.bitLenAux
    rw [if_neg (by omega)]
    by_cases h2 : x / 2 = 0
    · have e : Lib.bitLenAux f (x / 2) = 0 := by
        rw [h2]; cases f <;> simp [Lib.bitLenAux]
      rw [e]
      simp
      omega
    · obtain ⟨a, b, c, d⟩ := bitLen_aux f (x / 2) (by rw [Nat.pow_succ] at h; omega) (by omega)
      generalize Lib.bitLenAux f (x / 2) = k at *
      refine ⟨by omega, by omega, ?_, ?_⟩
      · rw [show 1 + k - 1 = k - 1 + 1 from by omega, Nat.pow_succ]; omega
      · rw [show 1 + k = k + 1 from by omega, Nat.pow_succ]; omega
theorem bitLen_spec (x : Nat) (h : x < 18446744073709551616) (h0 : 0 < x) : 1 ≤ Lib.bitLen x ∧ Lib.bitLen x ≤ 64 ∧ 2 ^ (Lib.bitLen x - 1) ≤ x ∧ x < 2 ^ Lib.bitLen x := by
  have h64 : (2 : Nat) ^ 64 = 18446744073709551616 := by decide
  exact bitLen_aux 64 x (by rw [h64]; exact h) h0
theorem parseW_close {mb N : Nat} {lm qm : Int} (inf : Nat) {M d : Nat} {q p : Int} (hf : Fl mb lm qm M q) (hN : mb < N) (hmb : 23 ≤ mb) (hmb2 : mb ≤ 52) (hlm : -1074 ≤ lm) (hlm2 : lm ≤ 0) (hqm : qm ≤ 971) (hc : Close M q d p)
    (hd0 : 0 < d) (hd : d < 18446744073709551616) (hp1 : -348 ≤ p) (hp2 : p ≤ 347) : parseW mb N lm qm inf d p = (rungN mb lm M q, false) := by
  obtain ⟨b1, b2, b3, b4⟩ := bitLen_spec d hd hd0
  unfold parseW
  obtain ⟨_, s1, s2⟩ := parse_scale mb lm qm M d _ q p hf hmb hmb2 hlm hlm2 hqm hc b1 b2 b3 b4 hp1 hp2
  rw [if_neg (by omega), parse_close mb lm qm M d _ q p hf hmb hmb2 hlm hlm2 hqm hc b1 b2 b3 b4 hp1 hp2]
  exact pack_close inf hf hN

/-! The exact road. -/
def gtW (f : Format) (x y : Nat) : Bool := f.order x y == some .gt
def exactW (f : Format) (a t C : Nat) (tab : Nat → Nat) (d : Nat) (p : Int) : Option Nat :=
  if d / 2 ^ f.fractionBits ≠ 0 then none
  else if p = 0 then some (f.nearest false d 0)
  else if 0 < p ∧ p ≤ a + t then
    if (t : Int) < p then
      if gtW f ((f.mul (f.nearest false d 0) (tab (p - t).toNat)).getD 0) C then none
      else f.mul ((f.mul (f.nearest false d 0) (tab (p - t).toNat)).getD 0) (tab t)
    else if gtW f (f.nearest false d 0) C then none else f.mul (f.nearest false d 0) (tab p.toNat)
  else if p < 0 ∧ -(t : Int) ≤ p then f.div (f.nearest false d 0) (tab (-p).toNat)
  else none
structure TabOk (f : Format) (tab : Nat → Nat) (t : Nat) : Prop where
  pos : 0 < tab t
  lt : tab t < f.infRung
  val : wv f (tab t) = bv (10 ^ t) 0
  p1 : -60 ≤ plW f.fractionBits f.leastPlace (tab t)
  p2 : plW f.fractionBits f.leastPlace (tab t) ≤ 30
theorem log2_eq {n L : Nat} (h1 : 2 ^ L ≤ n) (h2 : n < 2 ^ (L + 1)) : n.log2 = L := by
  have hn : n ≠ 0 := by have := Nat.pow_pos (n := L) (show 0 < 2 by omega); omega
  have a := (Nat.le_log2 hn).2 h1
  have b := (Nat.log2_lt hn).2 h2
  omega
/-- The place of a nearest word. -/
theorem near_place (f : Format) (mag : Nat) (place : Int) (h0 : 0 < mag) (hn : f.leastPlace ≤ place + mag.log2 - f.fractionBits) (hi : f.nearest false mag place < f.infRung) :
    0 < f.nearest false mag place ∧ 2 ^ f.fractionBits ≤ f.nearest false mag place ∧ place + mag.log2 - f.fractionBits ≤ plW f.fractionBits f.leastPlace (f.nearest false mag place) ∧ plW f.fractionBits f.leastPlace (f.nearest false mag place) ≤ place + mag.log2 - f.fractionBits + 1 := by
  obtain ⟨K, k1, k2, k3⟩ := nearest_range f mag place h0 hn
  rw [k3] at hi ⊢
  have hp : 0 < 2 ^ f.fractionBits := Nat.pow_pos (by omega)
  rw [Nat.pow_succ] at k2
  rw [Nat.min_eq_left (by omega)] at hi ⊢
  obtain ⟨j, hj⟩ : ∃ j : Nat, (place + mag.log2 - f.fractionBits - f.leastPlace).toNat = j := ⟨_, rfl⟩
  rw [hj]
  refine ⟨by omega, by omega, ?_⟩
  unfold plW
  rw [if_neg (by omega), Nat.add_comm, Nat.add_mul_div_right _ _ hp]
  have g1 : 1 ≤ K / 2 ^ f.fractionBits := by rw [Nat.le_div_iff_mul_le hp]; omega
  have g2 : K / 2 ^ f.fractionBits ≤ 2 := by
    have : K / 2 ^ f.fractionBits < 3 := by rw [Nat.div_lt_iff_lt_mul hp]; omega
    omega
  omega
theorem near_small {f : Format} {qm : Int} (ok : FmtOk f qm) {d : Nat} (h0 : 0 < d) (h1 : d < 2 ^ (f.fractionBits + 1)) :
    -(f.fractionBits : Int) ≤ plW f.fractionBits f.leastPlace (f.nearest false d 0) ∧ plW f.fractionBits f.leastPlace (f.nearest false d 0) ≤ 1 := by
  have hl : d.log2 ≤ f.fractionBits := by
    have := (Nat.log2_lt (n := d) (by omega)).2 h1
    omega
  have := ok.l2
  have := ok.mb2
  obtain ⟨a, b, _⟩ := int_word ok h0 h1
  obtain ⟨_, _, c, e⟩ := near_place f d 0 h0 (by omega) a
  omega
theorem Close.shift {M d : Nat} {q p : Int} (h : Close M q d p) (j : Nat) (hp : -800 ≤ p - j) : Close M q (d * 10 ^ j) (p - j) := by
  have hB : B p = B (p - j) * 10 ^ j := by
    have := B_add (p - j) j hp
    rw [show p - (j : Int) + j = p from by omega] at this
    exact this
  have e : dv (d * 10 ^ j) (p - j) = dv d p := by
    unfold dv
    rw [hB]
    simp only [Nat.mul_assoc, Nat.mul_comm, Nat.mul_left_comm]
  exact ⟨by rw [e]; exact h.up, by rw [e]; exact h.lo⟩
theorem gt_of_place {f : Format} {qm : Int} (ok : FmtOk f qm) {x C : Nat} (hx : x < f.infRung) (hC : C < f.infRung) (hC0 : 0 < C) (h2 : 2 ^ f.fractionBits ≤ x) (hpl : plW f.fractionBits f.leastPlace C < plW f.fractionBits f.leastPlace x) : gtW f x C = true := by
  unfold gtW Format.order
  rw [read_word ok hx, read_word ok hC]
  obtain ⟨fc, _⟩ := fl_of_word ok hC0 hC
  have hs : 2 ^ f.fractionBits ≤ sigW f.fractionBits x := by unfold sigW; rw [if_neg (by omega)]; omega
  have hc := fc.lt
  generalize sigW f.fractionBits x = a at *
  generalize sigW f.fractionBits C = b at *
  generalize plW f.fractionBits f.leastPlace x = i at *
  generalize plW f.fractionBits f.leastPlace C = j at *
  simp only [Datum.order, signed, shl_eq]
  rw [show min i j = j from by omega, show (j - j).toNat = 0 from by omega]
  have : b < a * 2 ^ (i - j).toNat := by
    rw [show (i - j).toNat = (i - j - 1).toNat + 1 from by omega, Nat.pow_succ]
    have hp := Nat.pow_pos (n := (i - j - 1).toNat) (show 0 < 2 by omega)
    have : a * 2 ≤ a * (2 ^ (i - j - 1).toNat * 2) := Nat.mul_le_mul_left _ (by omega)
    rw [Nat.pow_succ] at hc
    omega
  generalize a * 2 ^ (i - j).toNat = n at this
  have h3 : compare (n : Int) ((b * 2 ^ 0 : Nat) : Int) = .gt := by rw [Int.compare_eq_gt]; simp; omega
  simpa using h3
/-- What is known of d as a word, and of d * 10^j. -/
theorem step_word {f : Format} {qm : Int} (ok : FmtOk f qm) {d : Nat} (h0 : 0 < d) (h1 : d < 2 ^ f.fractionBits) : 0 < f.nearest false d 0 ∧ f.nearest false d 0 < f.infRung ∧ wv f (f.nearest false d 0) = bv d 0 ∧ -(f.fractionBits : Int) ≤ plW f.fractionBits f.leastPlace (f.nearest false d 0) ∧ plW f.fractionBits f.leastPlace (f.nearest false d 0) ≤ 1 := by
  have h2 : d < 2 ^ (f.fractionBits + 1) := by rw [Nat.pow_succ]; omega
  obtain ⟨a, b, c⟩ := int_word ok h0 h2
  obtain ⟨e, g⟩ := near_small ok h0 h2
  exact ⟨b, a, c, e, g⟩
theorem step_mul {f : Format} {qm : Int} (ok : FmtOk f qm) {d j : Nat} {tab : Nat → Nat} (h0 : 0 < d) (h1 : d < 2 ^ f.fractionBits) (T : TabOk f tab j) (hq : f.fractionBits + 33 ≤ qm) (hlm : f.leastPlace + f.fractionBits ≤ -112) : ∃ z, f.mul (f.nearest false d 0) (tab j) = some z ∧ 0 < z ∧ z < f.infRung := by
  obtain ⟨a, b, c, e, g⟩ := step_word ok h0 h1
  have := ok.mb2
  have t1 := T.p1
  have t2 := T.p2
  exact mul_moderate ok a b T.pos T.lt (by omega) t1 (by omega) (by omega)
theorem bv_log {mag D : Nat} {place : Int} (h : bv mag place = bv D 0) (hm : 0 < mag) (hD : 0 < D) (hp1 : -1000 ≤ place) : (mag.log2 : Int) + place = D.log2 := by
  unfold bv at h
  have h' := Nat.eq_of_mul_eq_mul_right (B_pos 0) h
  have m1 := Nat.log2_self_le (n := mag) (by omega)
  have m2 := Nat.lt_log2_self (n := mag)
  have d1 := Nat.log2_self_le (n := D) (by omega)
  have d2 := Nat.lt_log2_self (n := D)
  generalize mag.log2 = a at *
  generalize D.log2 = b at *
  have e1 : A (place + a) = A place * 2 ^ a := A_add place a (by omega)
  have e2 : A (place + (a + 1 : Nat)) = A place * 2 ^ (a + 1) := A_add place (a + 1) (by omega)
  have e3 : A (0 + (b : Int)) = A 0 * 2 ^ b := A_add 0 b (by omega)
  have e4 : A (0 + ((b + 1 : Nat) : Int)) = A 0 * 2 ^ (b + 1) := A_add 0 (b + 1) (by omega)
  have hA0 := A_pos 0
  have hAp := A_pos place
  have l1 : A (place + a) < A (0 + ((b + 1 : Nat) : Int)) := by
    rw [e1, e4]
    calc A place * 2 ^ a ≤ A place * mag := Nat.mul_le_mul_left _ m1
      _ = A 0 * D := by rw [Nat.mul_comm, h', Nat.mul_comm]
      _ < A 0 * 2 ^ (b + 1) := Nat.mul_lt_mul_of_pos_left d2 hA0
  have l2 : A (0 + (b : Int)) < A (place + (a + 1 : Nat)) := by
    rw [e2, e3]
    calc A 0 * 2 ^ b ≤ A 0 * D := Nat.mul_le_mul_left _ d1
      _ = A place * mag := by rw [Nat.mul_comm, ← h', Nat.mul_comm]
      _ < A place * 2 ^ (a + 1) := Nat.mul_lt_mul_of_pos_left m2 hAp
  have g1 := A_lt (by omega) (by omega) l1
  have g2 := A_lt (by omega) (by omega) l2
  omega
theorem exact_close {f : Format} {qm : Int} (ok : FmtOk f qm) (a t C : Nat) (tab : Nat → Nat) (hat : a ≤ t) (ht : t ≤ 22) (hC0 : 0 < C) (hC1 : C < f.infRung) (hC2 : plW f.fractionBits f.leastPlace C ≤ 0) (T : ∀ i, i ≤ t → TabOk f tab i) (hq : f.fractionBits + 33 ≤ qm) (hlm : f.leastPlace + f.fractionBits ≤ -112)
    {M d : Nat} {q p : Int} (hf : Fl f.fractionBits f.leastPlace qm M q) (hc : Close M q d p) (hd : 0 < d) :
    exactW f a t C tab d p = none ∨ exactW f a t C tab d p = some (rungN f.fractionBits f.leastPlace M q) := by
  have hm2 := ok.mb2
  have hm1 := ok.mb1
  unfold exactW
  by_cases h1 : d / 2 ^ f.fractionBits ≠ 0
  · rw [if_pos h1]; exact .inl rfl
  rw [if_neg h1]
  have hd1 : d < 2 ^ f.fractionBits := by
    have := Nat.pow_pos (n := f.fractionBits) (show 0 < 2 by omega)
    rcases Nat.lt_or_ge d (2 ^ f.fractionBits) with h | h
    · exact h
    · exact absurd (Nat.div_pos h this) (by omega)
  obtain ⟨x0, x1, x2, x3, x4⟩ := step_word ok hd hd1
  obtain ⟨r1, _⟩ := sig_rung ok hf
  by_cases h2 : p = 0
  · rw [if_pos h2]
    right
    subst h2
    rw [nearest_eq f qm M q d 0 hf ok.l1 ok.q1 (by omega) ok.mb2 (by omega) (by omega) hd (hc.near (by unfold bv dv; rfl)) r1]
  rw [if_neg h2]
  by_cases h3 : 0 < p ∧ p ≤ a + t
  · rw [if_pos h3]
    by_cases h4 : (t : Int) < p
    · rw [if_pos h4]
      obtain ⟨j, hj⟩ : ∃ j : Nat, (p - t).toNat = j := ⟨_, rfl⟩
      have hjt : j ≤ t := by omega
      rw [hj]
      obtain ⟨z, hz, z0, z1⟩ := step_mul ok hd hd1 (T j hjt) hq hlm
      rw [hz, Option.getD_some]
      by_cases h5 : gtW f z C = true
      · rw [if_pos h5]; exact .inl rfl
      rw [if_neg h5]
      right
      have Tj := T j hjt
      have Tt := T t (Nat.le_refl _)
      have tj1 := Tj.p1
      have tj2 := Tj.p2
      have tt1 := Tt.p1
      -- the product is exact
      have hval : bv (sigW f.fractionBits (f.nearest false d 0) * sigW f.fractionBits (tab j)) (plW f.fractionBits f.leastPlace (f.nearest false d 0) + plW f.fractionBits f.leastPlace (tab j)) = bv (d * 10 ^ j) 0 := by
        rw [mul_value x2 Tj.val (by omega) (by omega)]
        unfold dv bv
        have := B_add 0 j (by omega)
        rw [Int.zero_add] at this
        rw [this]
        simp only [Nat.mul_assoc, Nat.mul_comm, Nat.mul_left_comm]
      have hmp : 0 < sigW f.fractionBits (f.nearest false d 0) * sigW f.fractionBits (tab j) := Nat.mul_pos (sig_pos x0) (sig_pos Tj.pos)
      have hDp : 0 < d * 10 ^ j := Nat.mul_pos hd (Nat.pow_pos (by omega))
      have hlog := bv_log hval hmp hDp (by omega)
      rw [mul_word ok x1 Tj.lt] at hz
      have hz' := Option.some.inj hz
      have hpl := near_place f _ (plW f.fractionBits f.leastPlace (f.nearest false d 0) + plW f.fractionBits f.leastPlace (tab j)) hmp (by omega) (by rw [hz']; exact z1)
      have hDlt : d * 10 ^ j < 2 ^ (f.fractionBits + 1) := by
        rcases Nat.lt_or_ge (d * 10 ^ j) (2 ^ (f.fractionBits + 1)) with h | h
        · exact h
        · exfalso
          apply h5
          have := (Nat.le_log2 (n := d * 10 ^ j) (by omega)).2 h
          rw [hz'] at hpl
          exact gt_of_place ok z1 hC1 hC0 hpl.2.1 (by omega)
      have hzw : z = f.nearest false (d * 10 ^ j) 0 := by
        obtain ⟨L, hL⟩ : ∃ L, (d * 10 ^ j).log2 = L := ⟨_, rfl⟩
        obtain ⟨i1, i2, i3⟩ := int_word ok hDp hDlt
        obtain ⟨fw, fr⟩ := fl_of_word ok i2 i1
        obtain ⟨g1, _⟩ := sig_rung ok fw
        have hpos : 0 < A (plW f.fractionBits f.leastPlace (f.nearest false (d * 10 ^ j) 0)) * B 0 := Nat.mul_pos (A_pos _) (B_pos 0)
        have := nearest_eq f qm _ _ _ (plW f.fractionBits f.leastPlace (f.nearest false d 0) + plW f.fractionBits f.leastPlace (tab j)) fw ok.l1 ok.q1 (by omega) ok.mb2 (by omega) (by omega) hmp ⟨by rw [hval, ← i3]; unfold wv; omega, by rw [hval, ← i3]; unfold wv; omega, fun _ => by rw [hval, ← i3]; unfold wv; omega⟩ g1
        rw [← hz', this, fr]
      obtain ⟨i1, i2, i3⟩ := int_word ok hDp hDlt
      obtain ⟨i4, i5⟩ := near_small ok hDp hDlt
      rw [← hzw] at i1 i2 i3 i4 i5
      have hcs : Close M q (d * 10 ^ j) (t : Nat) := by
        have := hc.shift j (by omega)
        rw [show p - (j : Int) = (t : Nat) from by omega] at this
        exact this
      exact exact_mul ok hf i2 i1 Tt.pos Tt.lt i3 Tt.val (by omega) (by omega) hcs
    · rw [if_neg h4]
      by_cases h5 : gtW f (f.nearest false d 0) C = true
      · rw [if_pos h5]; exact .inl rfl
      rw [if_neg h5]
      right
      have Tt := T p.toNat (by omega)
      have tt1 := Tt.p1
      exact exact_mul ok hf x0 x1 Tt.pos Tt.lt x2 Tt.val (by omega) (by omega) (by rw [show ((p.toNat : Nat) : Int) = p from by omega]; exact hc)
  rw [if_neg h3]
  by_cases h6 : p < 0 ∧ -(t : Int) ≤ p
  · rw [if_pos h6]
    right
    have Tt := T (-p).toNat (by omega)
    have tt1 := Tt.p1
    have tt2 := Tt.p2
    exact exact_div ok hf x0 x1 Tt.pos Tt.lt x2 Tt.val (by omega) (by omega) (by omega) (by omega) (by omega) (by rw [show (-(((-p).toNat : Nat) : Int)) = p from by omega]; exact hc)
  · rw [if_neg h6]; exact .inl rfl
end Go.Proofs.Qxb6606417aGreatDoor
