import Derived.Test.Qxb6606417aGreatDoorWalkN
import Derived.Test.Qxb6606417aGreatDoorWalkG
import Derived.Test.Qxb6606417aGreatDoorWalkL
namespace Go.Proofs.Qxb6606417aGreatDoor
open Go.RowKit Go.PlainAid
set_option linter.unusedVariables false
set_option linter.unusedSimpArgs false
set_option maxRecDepth 100000

set_option maxHeartbeats 4000000 in
theorem ftoa64_fixed (v N n : Nat) (dst : Value) (w0 w : World) (E : Env w) (hO : OutAt N w0 w dst []) (h0 : 0 < v) (h1 : v < Ieee.double.infRung) (hn1 : 1 ≤ n) (hn2 : n ≤ 18) (x : Nat) (k : Int) (hx : fixD 52 (-1074) v n = (x, k)) :
    Calls Tryz.prog 47 #[dst, .float .f64 v, .int .u8 101, .int .i64 ((n : Int) - 1)] w fun e w' => FmtPost N w0 (fmtTxt x k (n - 1)) e w' := by
  have D := fixD_ok okD h0 h1 hn1 hn2
  have hsp := fixP_ok okD h0 h1 hn1 hn2
  rw [show Ieee.double.fractionBits = 52 from rfl, show Ieee.double.leastPlace = -1074 from by decide] at D hsp
  rw [hx] at D
  simp only at D
  obtain ⟨D, hDn⟩ := D
  have ok := okD
  obtain ⟨s1, s2⟩ := sig53 ok h0 h1
  obtain ⟨hfl, _⟩ := fl_of_word ok h0 h1
  have hfb : Ieee.double.fractionBits = 52 := rfl
  have hlm : Ieee.double.leastPlace = -1074 := by decide
  rw [hfb] at s1 s2 hfl
  rw [hlm] at hfl
  obtain ⟨j1, j2, j3, j4⟩ := just_ok s1 s2
  have hzd : zW 52 v = 64 - Lib.bitLen (sigW 52 v) := rfl
  rw [← hzd] at j1 j2 j3 j4
  have a1 := and_low v 52 (by have : v < 9218868437227405312 := h1; omega) (by omega)
  obtain ⟨hfr, dd, p0, p1⟩ := parts_of 52 (-1074) v
  have o1 := or_high (v % 2 ^ 52) 52 hfr (by omega)
  have e52 : (2 : Nat) ^ 52 = 4503599627370496 := by decide
  obtain ⟨fr, hfre⟩ : ∃ x, v % 2 ^ 52 = x := ⟨_, rfl⟩
  obtain ⟨bi, hbie⟩ : ∃ x, v / 2 ^ 52 = x := ⟨_, rfl⟩
  rw [hfre] at a1 hfr dd o1 p0 p1
  rw [hbie] at dd p0 p1
  clear hfre hbie
  rw [e52] at a1 hfr o1 dd p1
  have a2 : bits BinOp.and IntKind.u64 (v : Int) 4503599627370495 = (fr : Int) := a1
  have o2 : bits BinOp.or IntKind.u64 (fr : Int) 4503599627370496 = ((4503599627370496 + fr : Nat) : Int) := o1
  have hvl : v < 9218868437227405312 := h1
  have hq : (v : Int) / 4503599627370496 = (bi : Int) := by omega
  have hbi : bi < 2047 := by omega
  have hbne : ((bi : Int) == 2047) = false := by simp; omega
  have a3 : bits BinOp.and IntKind.i64 (bi : Int) 2047 = (bi : Int) := by
    have := and_i64 bi 2047 (by omega) (by omega)
    rw [show bi &&& 2047 = bi from by rw [show (2047 : Nat) = 2 ^ 11 - 1 from rfl, Nat.and_two_pow_sub_one_eq_mod]; exact Nat.mod_eq_of_lt (by omega)] at this
    exact this
  have hsg : (v : Int) / 9223372036854775808 = 0 := by omega
  have cb := call76
  clear a1 o1 e52 dd
  have hq1 := hfl.ge
  have hq2 := hfl.le
  have e64 := bitLen_spec (sigW 52 v) (by omega) s1
  have hz64 : (64 : Int) - (Lib.bitLen (sigW 52 v) : Nat) = (zW 52 v : Nat) := by omega
  have k80 : ∀ W : World, Calls Tryz.prog 80 #[.int .u64 (sigW 52 v : Nat)] W fun e w' => e = .returned (.int .i64 (Lib.bitLen (sigW 52 v) : Nat)) ∧ w' = W := fun W => by
    have := Tryz.bits_Len64 (sigW 52 v : Nat) W (by omega) (by omega)
    rw [Int.toNat_natCast] at this
    exact this
  obtain ⟨d, p, hdp⟩ : ∃ d p, fixP 52 (-1074) v n = (d, p) := ⟨_, _, rfl⟩
  have ksh : ∀ (W : World) (e : Int), Below w.heap.size w W → e = plW 52 (-1074) v - zW 52 v → Calls Tryz.prog 84 #[.int .u64 (sigW 52 v * 2 ^ zW 52 v : Nat), .int .i64 e, .int .i64 n, .int .i64 ((n : Int) - 1), .int .u8 101] W fun en w' => en = .returned (.tuple #[.int .u64 d, .int .i64 p]) ∧ Below W.heap.size W w' := fun W e h he => by
    have := fixed_walk (sigW 52 v * 2 ^ zW 52 v) e n ((n : Int) - 1) W (E.later h) hn1 hn2 j3 j4 (by have := hfl.ge; omega) (by have := hfl.le; omega)
    unfold fixP at hdp
    rw [he, hdp] at this
    rw [he]
    exact this
  rw [hdp] at hsp
  have htr : trimN d p = (x, k) := by unfold fixD at hx; rw [hdp] at hx; exact hx
  obtain ⟨q1, q2, q3, q4⟩ := hsp
  have q2' : d < 1000000000000000000 := by
    have h18 : 10 ^ n ≤ 10 ^ 18 := Nat.pow_le_pow_right (by omega) hn2
    have e18 : (10 : Nat) ^ 18 = 1000000000000000000 := by decide
    simp only at q2
    omega
  have k49 : ∀ W : World, Env W → Calls Tryz.prog 49 #[.int .u64 d] W fun e w' => e = .returned (.int .i64 (Lib.nDigits d)) ∧ w' = W := fun W EW => Tryz.internal_strconv_numDigits d q1 (by omega) W EW.p10
  have k82 : ∀ (W : World) (bb : Nat), W.heap[bb]? = some (.cells (Array.replicate 24 (.int .u8 0)) 73 (0, 0)) → Calls Tryz.prog 82 #[.slice (some ⟨bb, 0, none⟩) 24 24, .int .u64 d, .int .i64 p, .int .i64 (Lib.nDigits d)] W fun e w' => e = .returned (.tuple #[.int .i64 ((Lib.nDigits x : Int) + k), .int .i64 (Lib.nDigits x)]) ∧ BufAt w' bb 73 (Lib.decDigits x) ∧ Below bb W w' := fun W bb hbb => digits_call d p bb 24 73 W hbb (by decide) (by omega) (by omega) q1 q2' (by simp only at q3; omega) (by simp only at q4; omega) x k htr
  have hnx1 := Lib.nDigits_pos x
  have k79 : ∀ (W : World) (bb : Nat), OutAt N w0 W dst [] → BufAt W bb 73 (Lib.decDigits x) → Calls Tryz.prog 79 #[dst, .bool false, .slice (some ⟨bb, 0, none⟩) 24 24, .int .i64 ((Lib.nDigits x : Int) + k), .int .i64 (Lib.nDigits x), .int .i64 ((n : Int) - 1), .int .u8 101, .bool false] W fun e w' => FmtPost N w0 (fmtTxt x k (n - 1)) e w' := fun W bb h2 h3 => by
    have := fmt_call N bb 24 73 x k (n - 1) false dst w0 W D h2 h3 (by omega) (by omega) (by omega) (by omega)
    rw [show ((n - 1 : Nat) : Int) = (n : Int) - 1 from by omega] at this
    exact this
  have hd0 : ((d : Int) != 0) = true := by simp only at q1; simp; omega
  clear hzd e64 ok
  generalize Lib.bitLen (sigW 52 v) = bl at *
  generalize sigW 52 v = M at *
  generalize plW 52 (-1074) v = q at *
  generalize zW 52 v = z at *
  obtain ⟨Z, hZ⟩ : ∃ Z, 2 ^ z = Z := ⟨_, rfl⟩
  have hZ' : (2 : Int) ^ z = (Z : Int) := by rw [← hZ]; push_cast; rfl
  obtain ⟨m, hm⟩ : ∃ m, M * 2 ^ z = m := ⟨_, rfl⟩
  have hm' : (M : Int) * (Z : Int) = (m : Int) := by rw [← hm, ← hZ]; push_cast; rfl
  rw [hm] at ksh j3 j4
  have k1 := D.k1
  have k2 := D.k2
  have KSH : Hid _ := ksh
  have K49 : Hid _ := k49
  have K82 : Hid _ := k82
  have K79 : Hid _ := k79
  have K80 : Hid _ := k80
  obtain ⟨nx, hnx⟩ : ∃ nx, Lib.nDigits x = nx := ⟨_, rfl⟩
  rw [hnx] at K82 K79 hnx1 hDn
  have hp0 : decide ((n : Int) - 1 < 0) = false := decide_eq_false (by omega)
  have hpn : (n : Int) - 1 + 1 = n := by omega
  have hp18 : decide ((n : Int) ≤ 18) = true := decide_eq_true (by omega)
  have hpg : decide ((n : Int) > 0) = true := decide_eq_true (by omega)
  clear ksh k49 k82 k79 k80 htr hdp hx D hnx q2
  have hE0 : bi = 0 → M = fr ∧ q = -1074 := fun h => ⟨(p0 h).1, (p0 h).2.1⟩
  have hE1 : bi ≠ 0 → M = 4503599627370496 + fr ∧ q = -1074 + bi - 1 := fun h => ⟨(p1 h).1, (p1 h).2.1⟩
  have HE0 : Hid _ := hE0
  have HE1 : Hid _ := hE1
  have HO : Hid (OutAt N w0 w dst []) := hO
  have HE : Hid (∀ W, Below w.heap.size w W → Env W) := fun W h => E.later h
  have hM0 : ((M : Int) == 0) = false := by simp; omega
  have hME : q + 1075 = q + 1075 := rfl
  clear p0 p1 hE0 hE1 hO E hfl hZ hm hfb hlm h0 h1 hME
  go_enter Tryz.func47, Tryz.ntmps47
  go_upto_region 14 with fail
  go_quiet (fail)
  go_upto_if 78 with fail
  go_cut [14, 15] (fun a b wx => a = .int .i64 (q + 1075) ∧ b = .int .u64 M ∧ ∃ nn, wx = w.drewN nn)
  case first =>
    by_cases hb : bi = 0
    · obtain ⟨r1, r2⟩ := HE0.out hb
      subst hb
      go_wp2_with fail
      go_meet
      refine ⟨?_, ?_, _, rfl⟩
      · rw [r2]; rfl
      · rw [r1]
    · obtain ⟨r1, r2⟩ := HE1.out hb
      have hb0 : ((bi : Int) == 0) = false := by simp; omega
      go_wp2_with fail
      go_meet
      refine ⟨?_, ?_, _, rfl⟩
      · rw [r2]
        show Value.int _ _ = Value.int _ _
        congr 1; omega
      · rw [r1]
        show Value.int _ _ = Value.int _ _
        congr 1
  case rest =>
  obtain ⟨rfl, rfl, nn, rfl⟩ := hcut
  clear HE0 HE1 a2 o2 hq hbi hbne a3 hsg cb hfr
  have hopt := (HE.out (w.drewN nn) (below_drewN (Below.refl _ _) nn)).opt
  go_upto_region 74 with (first
    | (go_at_call 80; refine (K80.out _).mono ?_; rintro e w' ⟨rfl, hw⟩; subst hw)
    | (go_at_call 84; refine (KSH.out _ _ ((below_drewN (Below.refl _ _) nn).alloc (by simp) _) (by omega)).mono ?_; rintro e w2 ⟨rfl, hB⟩; have B2 : Hid (Below w.heap.size w w2) := ((below_drewN (Below.refl _ _) nn).alloc (by simp) _).trans (hB.mono (by simp)); have hbk := hB.block w.heap.size (by simp); have C2 : Hid (w2.heap[w.heap.size]? = some (.cells (Array.replicate 24 (.int .u8 0)) 73 (0, 0))) := (by rw [hbk]; exact heap_new' (w.drewN nn) _); clear hB hbk))
  go_cut [26, 27] (fun a b wx => a = .int .i64 ((nx : Int) + k) ∧ b = .int .i64 nx ∧ BufAt wx w.heap.size 73 (Lib.decDigits x) ∧ Below w.heap.size w wx)
  case first =>
    go_region_with (first
      | (go_at_call 49; refine (K49.out _ (HE.out _ (by first | exact B2.out.drew | exact B2.out | exact below_drewN B2.out _))).mono ?_; rintro e w' ⟨rfl, hw⟩; subst hw)
      | (go_at_call 82; refine (K82.out _ w.heap.size (by exact C2.out)).mono ?_; rintro e w3 ⟨rfl, hB3, hL3⟩; have B3 : Hid (BufAt w3 w.heap.size 73 (Lib.decDigits x)) := hB3; have L3 : Hid (Below w.heap.size w w3) := (by first | exact B2.out.drew.trans hL3 | exact B2.out.trans hL3 | exact (below_drewN B2.out _).trans hL3); clear hB3 hL3))
    all_goals (go_wp2_with fail; go_meet; exact ⟨rfl, rfl, B3.out, L3.out⟩)
  case rest =>
  obtain ⟨rfl, rfl, hB4, hL4⟩ := hcut
  have B4 : Hid (BufAt wc w.heap.size 73 (Lib.decDigits x)) := hB4
  have O4 : Hid (OutAt N w0 wc dst []) := HO.out.later hL4
  clear hB4 hL4 B2 C2
  go_wp2_with (go_at_call 79; refine (K79.out _ _ O4.out B4.out).mono ?_; rintro e w5 ⟨v5, rfl, hf5⟩; have F5 : Hid (OutAt N w0 w5 v5 (fmtTxt x k (n - 1))) := hf5; clear hf5)
  go_ret
  exact ⟨_, rfl, F5.out⟩
end Go.Proofs.Qxb6606417aGreatDoor
