import Derived.Test.Qxb6606417aGreatDoorWalkX
import Derived.Test.Qxb6606417aGreatDoorWalkU
import Derived.Test.Qxb6606417aGreatDoorWalkV
import Derived.Test.Qxb6606417aGreatDoorWalkW
namespace Go.Proofs.Qxb6606417aGreatDoor
open Go.RowKit Go.PlainAid
set_option linter.unusedVariables false
set_option linter.unusedSimpArgs false
set_option maxRecDepth 100000

/-- A decimal that is written for ParseFloat. -/
structure DP (x : Nat) (k : Int) : Prop where
  pos : 0 < x
  lt : x < 1000000000000000000
  k1 : -400 ≤ k
  k2 : k ≤ 400
def dstr (x : Nat) (k : Int) : List UInt8 := Lib.decDigits x ++ 101 :: Lib.itoa k
theorem valD_ge : ∀ (l : List UInt8) (a : Nat), a ≤ valD a l
  | [], a => Nat.le_refl _
  | c :: l, a => by
    have := valD_ge l (a * 10 + (c.toNat - 48))
    show a ≤ valD (a * 10 + (c.toNat - 48)) l
    omega
theorem valD_take_le (l : List UInt8) (i : Nat) : valD 0 (l.take i) ≤ valD 0 l := by
  have h : valD 0 l = valD (valD 0 (l.take i)) (l.drop i) := by rw [← valD_append, List.take_append_drop]
  rw [h]
  exact valD_ge _ _
theorem valD_take_succ (l : List UInt8) (i : Nat) (h : i < l.length) : valD 0 (l.take (i + 1)) = valD 0 (l.take i) * 10 + (l[i].toNat - 48) := by
  rw [List.take_succ_eq_append_getElem h, valD_append]
  rfl
theorem str_idx (L : List UInt8) (i : Nat) (h : i < (ByteArray.mk L.toArray).size) : (ByteArray.mk L.toArray)[i].toNat = (L.getD i 0).toNat := by
  have hl : i < L.length := by simpa [ByteArray.size] using h
  show (L.toArray[i]'(by simpa using hl)).toNat = _
  simp [hl]
theorem getD_left (a b : List UInt8) (i : Nat) (h : i < a.length) : ((a ++ b).getD i 0) = a[i] := by
  rw [List.getD_eq_getElem?_getD, List.getElem?_append_left h, List.getElem?_eq_getElem h]; rfl
theorem getD_right (a b : List UInt8) (i : Nat) (h : i < b.length) : ((a ++ b).getD (a.length + i) 0) = b[i] := by
  rw [List.getD_eq_getElem?_getD, List.getElem?_append_right (by omega), Nat.add_sub_cancel_left, List.getElem?_eq_getElem h]; rfl
theorem dstr_len (x : Nat) (k : Int) : (ByteArray.mk (dstr x k).toArray).size = (dstr x k).length := by simp [ByteArray.size]
theorem readFloat_walk (x : Nat) (k : Int) (w : World) (D : DP x k) : Calls Tryz.prog 144 #[.string ⟨(dstr x k).toArray⟩] w fun e w' => e = .returned (.tuple #[.int .u64 x, .int .i64 k, .bool false, .bool false, .bool false, .int .i64 ((dstr x k).length : Nat), .bool true]) ∧ w' = w := by
  have h1 := Lib.decDigits_length x
  have hn := nDigits_lt (d := x) (n := 18) (by have := D.lt; omega) (by omega)
  have hn0 := Lib.nDigits_pos x
  have hm := dec_mem x x (Nat.le_refl _)
  have hv := val_dec x x (Nat.le_refl _)
  have hlt := D.lt
  have hpos := D.pos
  have hk1 := D.k1
  have hk2 := D.k2
  obtain ⟨c, r, hcr, hc1, hc2⟩ := dec_first x x (Nat.le_refl _) D.pos
  have hB1 : ∀ i, i < Lib.nDigits x → 48 ≤ ((dstr x k).getD i 0).toNat ∧ ((dstr x k).getD i 0).toNat ≤ 57 := fun i hi => by
    unfold dstr
    rw [getD_left _ _ i (by omega)]
    exact hm _ (List.getElem_mem _)
  have hB0 : ((dstr x k).getD 0 0).toNat ≠ 48 := by
    unfold dstr
    rw [hcr]
    show c.toNat ≠ 48
    omega
  have hBe : ((dstr x k).getD (Lib.nDigits x) 0).toNat = 101 := by
    unfold dstr
    have := getD_right (Lib.decDigits x) (101 :: Lib.itoa k) 0 (by simp)
    rw [Nat.add_zero, h1] at this
    rw [this]
    rfl
  have hPs : ∀ i, i < Lib.nDigits x → valD 0 ((Lib.decDigits x).take (i + 1)) = valD 0 ((Lib.decDigits x).take i) * 10 + (((dstr x k).getD i 0).toNat - 48) := fun i hi => by
    rw [valD_take_succ _ i (by omega)]
    unfold dstr
    rw [getD_left _ _ i (by omega)]
  have hPl : ∀ i, i ≤ Lib.nDigits x → valD 0 ((Lib.decDigits x).take i) < 1000000000000000000 := fun i hi => by
    have := valD_take_le (Lib.decDigits x) i
    omega
  have hPn : valD 0 ((Lib.decDigits x).take (Lib.nDigits x)) = x := by rw [← h1, List.take_length]; exact hv
  by_cases hk : 0 ≤ k
  · obtain ⟨u, rfl⟩ : ∃ u : Nat, k = u := ⟨k.toNat, by omega⟩
    have hit : Lib.itoa (u : Int) = Lib.decDigits u := Lib.itoa_nonneg u
    have h2 := Lib.decDigits_length u
    have hm2 := dec_mem u u (Nat.le_refl _)
    have hv2 := val_dec u u (Nat.le_refl _)
    have hn2 := nDigits_lt (d := u) (n := 3) (by omega) (by omega)
    have hn3 := Lib.nDigits_pos u
    have hds : dstr x (u : Int) = (Lib.decDigits x ++ [101]) ++ Lib.decDigits u := by unfold dstr; rw [hit]; simp
    have hlen : (dstr x (u : Int)).length = Lib.nDigits x + 1 + Lib.nDigits u := by rw [hds]; simp; omega
    have hat : ∀ j (hj : j < Lib.nDigits u), (dstr x (u : Int)).getD (Lib.nDigits x + 1 + j) 0 = (Lib.decDigits u)[j]'(by omega) := fun j hj => by
      rw [hds]
      have := getD_right (Lib.decDigits x ++ [101]) (Lib.decDigits u) j (by omega)
      rw [List.length_append, h1] at this
      exact this
    have := readFloat_pos ⟨(dstr x (u : Int)).toArray⟩ (fun i => ((dstr x (u : Int)).getD i 0).toNat) w (Lib.nDigits x) (Lib.nDigits u) _ (fun i => valD 0 ((Lib.decDigits x).take i)) (fun j => valD 0 ((Lib.decDigits u).take j)) (fun i h => str_idx _ i h) (dstr_len x u) (by omega) hn0 hn hn3 (by omega) hB1 hB0 hBe
      (fun j hj => by show 48 ≤ ((dstr x (u : Int)).getD (Lib.nDigits x + 1 + j) 0).toNat ∧ _; rw [hat j hj]; exact hm2 _ (List.getElem_mem _)) rfl hPs hPl (by show 0 < valD 0 _; rw [hPn]; exact hpos) rfl
      (fun j hj => by show valD 0 _ = valD 0 _ * 10 + (((dstr x (u : Int)).getD (Lib.nDigits x + 1 + j) 0).toNat - 48); rw [hat j hj]; exact valD_take_succ _ j (by omega))
      (fun j hj => by have := valD_take_le (Lib.decDigits u) j; show valD 0 _ ≤ 1000; omega)
    simp only [hPn] at this
    rw [show valD 0 ((Lib.decDigits u).take (Lib.nDigits u)) = u from by rw [← h2, List.take_length]; exact hv2] at this
    exact this
  · obtain ⟨u, rfl⟩ : ∃ u : Nat, k = -(u : Int) := ⟨(-k).toNat, by omega⟩
    have hit : Lib.itoa (-(u : Int)) = 45 :: Lib.decDigits u := Lib.itoa_neg u (by omega)
    have h2 := Lib.decDigits_length u
    have hm2 := dec_mem u u (Nat.le_refl _)
    have hv2 := val_dec u u (Nat.le_refl _)
    have hn2 := nDigits_lt (d := u) (n := 3) (by omega) (by omega)
    have hn3 := Lib.nDigits_pos u
    have hds : dstr x (-(u : Int)) = (Lib.decDigits x ++ [101, 45]) ++ Lib.decDigits u := by unfold dstr; rw [hit]; simp
    have hlen : (dstr x (-(u : Int))).length = Lib.nDigits x + 2 + Lib.nDigits u := by rw [hds]; simp; omega
    have hat : ∀ j (hj : j < Lib.nDigits u), (dstr x (-(u : Int))).getD (Lib.nDigits x + 2 + j) 0 = (Lib.decDigits u)[j]'(by omega) := fun j hj => by
      rw [hds]
      have := getD_right (Lib.decDigits x ++ [101, 45]) (Lib.decDigits u) j (by omega)
      rw [List.length_append, h1] at this
      exact this
    have hBn : ((dstr x (-(u : Int))).getD (Lib.nDigits x + 1) 0).toNat = 45 := by
      have := getD_right (Lib.decDigits x) (101 :: Lib.itoa (-(u : Int))) 1 (by simp [hit])
      rw [h1] at this
      unfold dstr
      rw [this]
      simp [hit]
    have := readFloat_neg ⟨(dstr x (-(u : Int))).toArray⟩ (fun i => ((dstr x (-(u : Int))).getD i 0).toNat) w (Lib.nDigits x) (Lib.nDigits u) _ (fun i => valD 0 ((Lib.decDigits x).take i)) (fun j => valD 0 ((Lib.decDigits u).take j)) (fun i h => str_idx _ i h) (dstr_len x _) (by omega) hn0 hn hn3 (by omega) hB1 hB0 hBe hBn
      (fun j hj => by show 48 ≤ ((dstr x (-(u : Int))).getD (Lib.nDigits x + 2 + j) 0).toNat ∧ _; rw [hat j hj]; exact hm2 _ (List.getElem_mem _)) rfl hPs hPl (by show 0 < valD 0 _; rw [hPn]; exact hpos) rfl
      (fun j hj => by show valD 0 _ = valD 0 _ * 10 + (((dstr x (-(u : Int))).getD (Lib.nDigits x + 2 + j) 0).toNat - 48); rw [hat j hj]; exact valD_take_succ _ j (by omega))
      (fun j hj => by have := valD_take_le (Lib.decDigits u) j; show valD 0 _ ≤ 1000; omega)
    simp only [hPn] at this
    rw [show valD 0 ((Lib.decDigits u).take (Lib.nDigits u)) = u from by rw [← h2, List.take_length]; exact hv2] at this
    exact this
theorem special_dstr (x : Nat) (k : Int) (w : World) (D : DP x k) : Calls Tryz.prog 143 #[.string ⟨(dstr x k).toArray⟩] w fun e w' => e = .returned (.tuple #[.float .f64 0, .int .i64 0, .bool false]) ∧ w' = w := by
  obtain ⟨c, r, hcr, hc1, hc2⟩ := dec_first x x (Nat.le_refl _) D.pos
  have h0 : ((dstr x k).getD 0 0) = c := by unfold dstr; rw [hcr]; rfl
  refine special_walk ⟨(dstr x k).toArray⟩ (fun i => ((dstr x k).getD i 0).toNat) w (fun i h => str_idx _ i h) ?_ ?_ ?_
  · rw [dstr_len]; unfold dstr; simp; omega
  · show 49 ≤ ((dstr x k).getD 0 0).toNat; rw [h0]; exact hc1
  · show ((dstr x k).getD 0 0).toNat ≤ 57; rw [h0]; exact hc2

/-- What ParseFloat answers. -/
def numD (x : Nat) (k : Int) : Nat × Bool := if 310 < k then (9218868437227405312, true) else if k < -345 then (0, false) else match exactW Ieee.double 15 22 4831355200913801216 tabD x k with | some r => (r, false) | none => parseW 52 64 (-1074) 971 9218868437227405312 x k
def numS (x : Nat) (k : Int) : Nat × Bool := if 40 < k then (2139095040, true) else if k < -70 then (0, false) else match exactW Ieee.single 7 10 1259902592 tabS x k with | some r => (r, false) | none => parseW 23 32 (-149) 104 2139095040 x k
theorem numD_close {M x : Nat} {q k : Int} (hf : Fl 52 (-1074) 971 M q) (hc : Close M q x k) (D : DP x k) (h1 : -345 ≤ k) (h2 : k ≤ 310) : numD x k = (rungN 52 (-1074) M q, false) := by
  unfold numD
  rw [if_neg (by omega), if_neg (by omega)]
  have he := exact_close okD 15 22 4831355200913801216 tabD (by omega) (by omega) (by decide) (by decide) (by decide) (fun i hi => tabD_ok i hi) (by decide) (by decide) (show Fl Ieee.double.fractionBits Ieee.double.leastPlace 971 M q from hf) hc D.pos
  rcases he with he | he
  · rw [he]
    exact parseW_close 9218868437227405312 hf (by omega) (by omega) (by omega) (by omega) (by omega) (by omega) hc D.pos (by have := D.lt; omega) (by omega) (by omega)
  · rw [he]; rfl
theorem numS_close {M x : Nat} {q k : Int} (hf : Fl 23 (-149) 104 M q) (hc : Close M q x k) (D : DP x k) (h1 : -70 ≤ k) (h2 : k ≤ 40) : numS x k = (rungN 23 (-149) M q, false) := by
  unfold numS
  rw [if_neg (by omega), if_neg (by omega)]
  have he := exact_close okS 7 10 1259902592 tabS (by omega) (by omega) (by decide) (by decide) (by decide) (fun i hi => tabS_ok i hi) (by decide) (by decide) (show Fl Ieee.single.fractionBits Ieee.single.leastPlace 104 M q from hf) hc D.pos
  rcases he with he | he
  · rw [he]
    exact parseW_close 2139095040 hf (by omega) (by omega) (by omega) (by omega) (by omega) (by omega) hc D.pos (by have := D.lt; omega) (by omega) (by omega)
  · rw [he]; rfl

set_option maxHeartbeats 2000000 in
theorem atof64_walk (x : Nat) (k : Int) (w : World) (D : DP x k) (EF : EnvF w) : Calls Tryz.prog 133 #[.string ⟨(dstr x k).toArray⟩] w fun e w' => e = .returned (.tuple #[.float .f64 (numD x k).1, .int .i64 ((dstr x k).length : Nat), errV (numD x k).2]) ∧ Below w.heap.size w w' := by
  have k143 : ∀ W : World, Calls Tryz.prog 143 #[.string ⟨(dstr x k).toArray⟩] W fun e w' => e = .returned (.tuple #[.float .f64 0, .int .i64 0, .bool false]) ∧ W = w' := fun W => (special_dstr x k W D).mono fun e w' h => ⟨h.1, h.2.symm⟩
  have k144 : ∀ W : World, Calls Tryz.prog 144 #[.string ⟨(dstr x k).toArray⟩] W fun e w' => e = .returned (.tuple #[.int .u64 x, .int .i64 k, .bool false, .bool false, .bool false, .int .i64 ((dstr x k).length : Nat), .bool true]) ∧ W = w' := fun W => (readFloat_walk x k W D).mono fun e w' h => ⟨h.1, h.2.symm⟩
  have kb : ∀ W : World, Calls Tryz.prog 138 #[.bool false] W fun e w' => e = .returned (.int .u64 0) ∧ W = w' := fun W => (bool2u_walk false W).mono fun e w' h => ⟨h.1, h.2.symm⟩
  have hopt := EF.env.opt
  have c1 := call152
  have hx0 : ((x : Int) == 0) = false := by have := D.pos; simp; omega
  have hxl := D.lt
  have hxp := D.pos
  have hk1 := D.k1
  have hk2 := D.k2
  obtain ⟨ln, hln⟩ : ∃ ln, (dstr x k).length = ln := ⟨_, rfl⟩
  rw [hln] at k144 ⊢
  have K143 : Hid _ := k143
  have K144 : Hid _ := k144
  have KB : Hid _ := kb
  obtain ⟨res, hres⟩ : ∃ res, numD x k = res := ⟨_, rfl⟩
  rw [hres]
  unfold numD at hres
  generalize dstr x k = T at *
  have o0 : bits BinOp.or IntKind.u64 0 0 = 0 := u64_or_nat 0 0 (by omega) (by omega)
  have o1 : bits BinOp.or IntKind.u64 0 9218868437227405312 = 9218868437227405312 := u64_or_nat 0 9218868437227405312 (by omega) (by omega)
  have c0 : ∀ W : World, (callFunc 152 #[.int .u64 0]).run Tryz.prog W = .ok (.value (.float .f64 0)) W := fun W => call152 0 W
  have c2 : ∀ W : World, (callFunc 152 #[.int .u64 9218868437227405312]).run Tryz.prog W = .ok (.value (.float .f64 9218868437227405312)) W := fun W => call152 9218868437227405312 W
  clear k143 k144 kb hln D c1
  by_cases h1 : 310 < k
  · rw [if_pos h1] at hres
    subst hres
    have g1 : decide (k > 310) = true := decide_eq_true h1
    clear EF
    go_enter Tryz.func133, Tryz.ntmps133
    go_wp2_with (first
      | (go_at_call 143; refine (K143.out _).mono ?_; rintro e w' ⟨rfl, hw⟩; subst hw)
      | (go_at_call 144; refine (K144.out _).mono ?_; rintro e w' ⟨rfl, hw⟩; subst hw)
      | (go_at_call 138; refine (KB.out _).mono ?_; rintro e w' ⟨rfl, hw⟩; subst hw))
    go_ret3
    exact ⟨rfl, Below.refl _ _⟩
  rw [if_neg h1] at hres
  have g1 : decide (k > 310) = false := decide_eq_false h1
  by_cases h2 : k < -345
  · rw [if_pos h2] at hres
    subst hres
    have g2 : decide (k < -345) = true := decide_eq_true h2
    clear EF
    go_enter Tryz.func133, Tryz.ntmps133
    go_wp2_with (first
      | (go_at_call 143; refine (K143.out _).mono ?_; rintro e w' ⟨rfl, hw⟩; subst hw)
      | (go_at_call 144; refine (K144.out _).mono ?_; rintro e w' ⟨rfl, hw⟩; subst hw)
      | (go_at_call 138; refine (KB.out _).mono ?_; rintro e w' ⟨rfl, hw⟩; subst hw))
    go_ret3
    exact ⟨rfl, Below.refl _ _⟩
  rw [if_neg h2] at hres
  have g2 : decide (k < -345) = false := decide_eq_false h2
  have ke : ∀ W : World, Below w.heap.size w W → Calls Tryz.prog 153 #[.int .u64 x, .int .i64 k, .bool false] W fun en w' => W = w' ∧ ∃ g, en = .returned (.tuple #[.float .f64 g, .bool (exactW Ieee.double 15 22 4831355200913801216 tabD x k).isSome]) ∧ ∀ r, exactW Ieee.double 15 22 4831355200913801216 tabD x k = some r → g = r := fun W h => (exact64_walk x k W (EF.later h) hxp (by omega) (by omega) (by omega)).mono fun e w' h => ⟨h.1.symm, h.2⟩
  have kp : ∀ W : World, Below w.heap.size w W → Calls Tryz.prog 154 #[.int .u64 x, .int .i64 k, .int .u64 0] W fun en w' => en = .returned (.tuple #[.float .f64 (parseW 52 64 (-1074) 971 9218868437227405312 x k).1, errV (parseW 52 64 (-1074) 971 9218868437227405312 x k).2]) ∧ Below W.heap.size W w' := fun W h => parse64_walk x k W (EF.later h).env hxp (by omega) (by omega) (by omega)
  cases hE : exactW Ieee.double 15 22 4831355200913801216 tabD x k with
  | some r =>
    rw [hE] at hres ke
    subst hres
    have KE : Hid _ := ke
    clear ke kp EF hE
    go_enter Tryz.func133, Tryz.ntmps133
    go_wp2_with (first
      | (go_at_call 143; refine (K143.out _).mono ?_; rintro e w' ⟨rfl, hw⟩; subst hw)
      | (go_at_call 144; refine (K144.out _).mono ?_; rintro e w' ⟨rfl, hw⟩; subst hw)
      | (go_at_call 138; refine (KB.out _).mono ?_; rintro e w' ⟨rfl, hw⟩; subst hw)
      | (go_at_call 153; refine (KE.out _ (Below.refl _ _)).mono ?_; rintro e w' ⟨hw, g, rfl, hg⟩; obtain rfl := hg r rfl; subst hw))
    go_ret3
    exact ⟨rfl, Below.refl _ _⟩
  | none =>
    rw [hE] at hres ke
    simp only at hres
    subst hres
    have KE : Hid _ := ke
    have KPP : Hid _ := kp
    generalize parseW 52 64 (-1074) 971 9218868437227405312 x k = res at *
    clear ke kp EF hE
    go_enter Tryz.func133, Tryz.ntmps133
    go_wp2_with (first
      | (go_at_call 143; refine (K143.out _).mono ?_; rintro e w' ⟨rfl, hw⟩; subst hw)
      | (go_at_call 144; refine (K144.out _).mono ?_; rintro e w' ⟨rfl, hw⟩; subst hw)
      | (go_at_call 138; refine (KB.out _).mono ?_; rintro e w' ⟨rfl, hw⟩; subst hw)
      | (go_at_call 153; refine (KE.out _ (Below.refl _ _)).mono ?_; rintro e w' ⟨hw, g, rfl, hg⟩; subst hw)
      | (go_at_call 154; refine (KPP.out _ (Below.refl _ _)).mono ?_; rintro e w2 ⟨rfl, hB⟩; have B2 : Hid (Below w.heap.size w w2) := hB; clear hB))
    go_ret3
    exact ⟨rfl, B2.out⟩
theorem bool2v_walk (b : Bool) (w : World) : Calls Tryz.prog 146 #[.bool b] w fun e w' => e = .returned (.int .u32 (if b then 1 else 0)) ∧ w' = w := by
  cases b
  all_goals
    go_enter Tryz.func146, Tryz.ntmps146
    go_wp2
    go_ret
    exact ⟨rfl, rfl⟩

set_option maxHeartbeats 2000000 in
theorem atof32_walk (x : Nat) (k : Int) (w : World) (D : DP x k) (EF : EnvF w) : Calls Tryz.prog 132 #[.string ⟨(dstr x k).toArray⟩] w fun e w' => e = .returned (.tuple #[.float .f32 (numS x k).1, .int .i64 ((dstr x k).length : Nat), errV (numS x k).2]) ∧ Below w.heap.size w w' := by
  have k143 : ∀ W : World, Calls Tryz.prog 143 #[.string ⟨(dstr x k).toArray⟩] W fun e w' => e = .returned (.tuple #[.float .f64 0, .int .i64 0, .bool false]) ∧ W = w' := fun W => (special_dstr x k W D).mono fun e w' h => ⟨h.1, h.2.symm⟩
  have k144 : ∀ W : World, Calls Tryz.prog 144 #[.string ⟨(dstr x k).toArray⟩] W fun e w' => e = .returned (.tuple #[.int .u64 x, .int .i64 k, .bool false, .bool false, .bool false, .int .i64 ((dstr x k).length : Nat), .bool true]) ∧ W = w' := fun W => (readFloat_walk x k W D).mono fun e w' h => ⟨h.1, h.2.symm⟩
  have kb : ∀ W : World, Calls Tryz.prog 146 #[.bool false] W fun e w' => e = .returned (.int .u32 0) ∧ W = w' := fun W => (bool2v_walk false W).mono fun e w' h => ⟨h.1, h.2.symm⟩
  have hopt := EF.env.opt
  have c1 := call147
  have hx0 : ((x : Int) == 0) = false := by have := D.pos; simp; omega
  have hxl := D.lt
  have hxp := D.pos
  have hk1 := D.k1
  have hk2 := D.k2
  obtain ⟨ln, hln⟩ : ∃ ln, (dstr x k).length = ln := ⟨_, rfl⟩
  rw [hln] at k144 ⊢
  have K143 : Hid _ := k143
  have K144 : Hid _ := k144
  have KB : Hid _ := kb
  obtain ⟨res, hres⟩ : ∃ res, numS x k = res := ⟨_, rfl⟩
  rw [hres]
  unfold numS at hres
  generalize dstr x k = T at *
  have o0 : bits BinOp.or IntKind.u32 0 0 = 0 := u32_or_nat 0 0 (by omega) (by omega)
  have o1 : bits BinOp.or IntKind.u32 0 2139095040 = 2139095040 := u32_or_nat 0 2139095040 (by omega) (by omega)
  have c0 : ∀ W : World, (callFunc 147 #[.int .u32 0]).run Tryz.prog W = .ok (.value (.float .f32 0)) W := fun W => call147 0 W
  have c2 : ∀ W : World, (callFunc 147 #[.int .u32 2139095040]).run Tryz.prog W = .ok (.value (.float .f32 2139095040)) W := fun W => call147 2139095040 W
  clear k143 k144 kb hln D c1
  by_cases h1 : 40 < k
  · rw [if_pos h1] at hres
    subst hres
    have g1 : decide (k > 40) = true := decide_eq_true h1
    clear EF
    go_enter Tryz.func132, Tryz.ntmps132
    go_wp2_with (first
      | (go_at_call 143; refine (K143.out _).mono ?_; rintro e w' ⟨rfl, hw⟩; subst hw)
      | (go_at_call 144; refine (K144.out _).mono ?_; rintro e w' ⟨rfl, hw⟩; subst hw)
      | (go_at_call 146; refine (KB.out _).mono ?_; rintro e w' ⟨rfl, hw⟩; subst hw))
    go_ret3
    exact ⟨rfl, Below.refl _ _⟩
  rw [if_neg h1] at hres
  have g1 : decide (k > 40) = false := decide_eq_false h1
  by_cases h2 : k < -70
  · rw [if_pos h2] at hres
    subst hres
    have g2 : decide (k < -70) = true := decide_eq_true h2
    clear EF
    go_enter Tryz.func132, Tryz.ntmps132
    go_wp2_with (first
      | (go_at_call 143; refine (K143.out _).mono ?_; rintro e w' ⟨rfl, hw⟩; subst hw)
      | (go_at_call 144; refine (K144.out _).mono ?_; rintro e w' ⟨rfl, hw⟩; subst hw)
      | (go_at_call 146; refine (KB.out _).mono ?_; rintro e w' ⟨rfl, hw⟩; subst hw))
    go_ret3
    exact ⟨rfl, Below.refl _ _⟩
  rw [if_neg h2] at hres
  have g2 : decide (k < -70) = false := decide_eq_false h2
  have ke : ∀ W : World, Below w.heap.size w W → Calls Tryz.prog 148 #[.int .u64 x, .int .i64 k, .bool false] W fun en w' => W = w' ∧ ∃ g, en = .returned (.tuple #[.float .f32 g, .bool (exactW Ieee.single 7 10 1259902592 tabS x k).isSome]) ∧ ∀ r, exactW Ieee.single 7 10 1259902592 tabS x k = some r → g = r := fun W h => (exact32_walk x k W (EF.later h) hxp (by omega) (by omega) (by omega)).mono fun e w' h => ⟨h.1.symm, h.2⟩
  have kp : ∀ W : World, Below w.heap.size w W → Calls Tryz.prog 149 #[.int .u64 x, .int .i64 k, .int .u32 0] W fun en w' => en = .returned (.tuple #[.float .f32 (parseW 23 32 (-149) 104 2139095040 x k).1, errV (parseW 23 32 (-149) 104 2139095040 x k).2]) ∧ Below W.heap.size W w' := fun W h => parse32_walk x k W (EF.later h).env hxp (by omega) (by omega) (by omega)
  cases hE : exactW Ieee.single 7 10 1259902592 tabS x k with
  | some r =>
    rw [hE] at hres ke
    subst hres
    have KE : Hid _ := ke
    clear ke kp EF hE
    go_enter Tryz.func132, Tryz.ntmps132
    go_wp2_with (first
      | (go_at_call 143; refine (K143.out _).mono ?_; rintro e w' ⟨rfl, hw⟩; subst hw)
      | (go_at_call 144; refine (K144.out _).mono ?_; rintro e w' ⟨rfl, hw⟩; subst hw)
      | (go_at_call 146; refine (KB.out _).mono ?_; rintro e w' ⟨rfl, hw⟩; subst hw)
      | (go_at_call 148; refine (KE.out _ (Below.refl _ _)).mono ?_; rintro e w' ⟨hw, g, rfl, hg⟩; obtain rfl := hg r rfl; subst hw))
    go_ret3
    exact ⟨rfl, Below.refl _ _⟩
  | none =>
    rw [hE] at hres ke
    simp only at hres
    subst hres
    have KE : Hid _ := ke
    have KPP : Hid _ := kp
    generalize parseW 23 32 (-149) 104 2139095040 x k = res at *
    clear ke kp EF hE
    go_enter Tryz.func132, Tryz.ntmps132
    go_wp2_with (first
      | (go_at_call 143; refine (K143.out _).mono ?_; rintro e w' ⟨rfl, hw⟩; subst hw)
      | (go_at_call 144; refine (K144.out _).mono ?_; rintro e w' ⟨rfl, hw⟩; subst hw)
      | (go_at_call 146; refine (KB.out _).mono ?_; rintro e w' ⟨rfl, hw⟩; subst hw)
      | (go_at_call 148; refine (KE.out _ (Below.refl _ _)).mono ?_; rintro e w' ⟨hw, g, rfl, hg⟩; subst hw)
      | (go_at_call 149; refine (KPP.out _ (Below.refl _ _)).mono ?_; rintro e w2 ⟨rfl, hB⟩; have B2 : Hid (Below w.heap.size w w2) := hB; clear hB))
    go_ret3
    exact ⟨rfl, B2.out⟩
end Go.Proofs.Qxb6606417aGreatDoor
