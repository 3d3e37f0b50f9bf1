import Derived.Test.Qxb6606417aGreatDoorWalkT
namespace Go.Proofs.Qxb6606417aGreatDoor
open Go.RowKit Go.PlainAid
set_option linter.unusedVariables false
set_option linter.unusedSimpArgs false
set_option maxRecDepth 100000


set_option maxHeartbeats 2000000 in
theorem parse32_walk (d : Nat) (p : Int) (w : World) (E : Env w) (hd : 0 < d) (hd2 : d < 18446744073709551616) (hp1 : -345 ≤ p) (hp2 : p ≤ 310) :
    Calls Tryz.prog 149 #[.int .u64 d, .int .i64 p, .int .u32 0] w fun en w' => en = .returned (.tuple #[.float .f32 (parseW 23 32 (-149) 104 2139095040 d p).1, errV (parseW 23 32 (-149) 104 2139095040 d p).2]) ∧ Below w.heap.size w w' := by
  obtain ⟨b1, b2, b3, b4⟩ := bitLen_spec d hd2 hd
  have hlp : -1160 ≤ log2Pow10 p ∧ log2Pow10 p ≤ 1160 := by unfold log2Pow10; omega
  have k80 : ∀ W : World, Calls Tryz.prog 80 #[.int .u64 d] W fun e w' => e = .returned (.int .i64 (Lib.bitLen d : Nat)) ∧ W = w' := fun W => by
    have := Tryz.bits_Len64 d W (by omega) (by omega)
    rw [Int.toNat_natCast] at this
    exact this.mono fun e w' h => ⟨h.1, h.2.symm⟩
  have k113 : ∀ W : World, Calls Tryz.prog 113 #[.int .i64 p] W fun en w' => en = .returned (.int .i64 (log2Pow10 p)) ∧ W = w' := fun W => (log2_walk p W (by omega) (by omega)).mono fun e w' h => ⟨h.1, h.2.symm⟩
  have hparse : parseW 23 32 (-149) 104 2139095040 d p = if 64 ≤ parseS 23 (-149) (Lib.bitLen d) p then (0, false) else packW 23 32 (-149) 104 2139095040 (parseN 23 (-149) d (Lib.bitLen d) p).1 (parseN 23 (-149) d (Lib.bitLen d) p).2 := rfl
  have hPN : parseN 23 (-149) d (Lib.bitLen d) p = if 67108862 ≤ parseU 23 (-149) d (Lib.bitLen d) p then (roundN (parseU 23 (-149) d (Lib.bitLen d) p / 2 ||| parseU 23 (-149) d (Lib.bitLen d) p % 2), -(parseE 23 (-149) (Lib.bitLen d) p - 1)) else (roundN (parseU 23 (-149) d (Lib.bitLen d) p), -parseE 23 (-149) (Lib.bitLen d) p) := rfl
  rw [hPN] at hparse
  rw [hparse]
  have hPE : parseE 23 (-149) (Lib.bitLen d) p = min 149 (24 - (Lib.bitLen d : Int) - log2Pow10 p) := by unfold parseE; rfl
  have hPS : parseS 23 (-149) (Lib.bitLen d) p = -(parseE 23 (-149) (Lib.bitLen d) p - (64 - (Lib.bitLen d : Int)) + log2Pow10 p + 3) := rfl
  have hPU : parseU 23 (-149) d (Lib.bitLen d) p = uscaleN (d * 2 ^ (64 - Lib.bitLen d)) (tabHi p) (tabLo p) (parseS 23 (-149) (Lib.bitLen d) p).toNat := rfl
  generalize parseE 23 (-149) (Lib.bitLen d) p = Ev at *
  generalize parseS 23 (-149) (Lib.bitLen d) p = S at *
  generalize parseU 23 (-149) d (Lib.bitLen d) p = u at *
  clear hparse hPN
  generalize log2Pow10 p = lp at *
  generalize Lib.bitLen d = b at *
  have hS8 : 37 ≤ S := by omega
  have hE : -1300 ≤ Ev ∧ Ev ≤ 149 := by omega
  have hSu : S ≤ 1500 := by omega
  obtain ⟨i, hi⟩ : ∃ i : Nat, i = (p + 348).toNat := ⟨_, rfl⟩
  have hth : tabHi p = (rowAt i).1 := by rw [hi]; rfl
  have htl : tabLo p = (rowAt i).2 := by rw [hi]; rfl
  obtain ⟨g1, g2, g3⟩ := hi_ge p (by omega) (by omega)
  have h7 := env_seven E
  have k112 : ∀ (W : World) (e : Int), Below w.heap.size w W → W.heap[w.heap.size]? = some (.cells #[.int .u64 0, .int .u64 0, .int .i64 0] 141 (0, 0)) → e = Ev - (64 - (b : Int)) →
      Calls Tryz.prog 112 #[.pointer (some ⟨w.heap.size, 0, none⟩), .int .i64 e, .int .i64 p, .int .i64 lp] W fun en w' => en = .returned (.tuple #[]) ∧ ScAt w' w.heap.size (tabHi p) (tabLo p) S ∧ Below w.heap.size w w' := fun W e hb hh he => by
    refine (prescale_walk w.heap.size i e p lp S _ _ _ W (E.later hb) hh (by omega) (by omega) (by omega) (by omega) (by omega) (by omega) h7 (by omega)).mono ?_
    rintro en w' ⟨r1, r2, r3, r4⟩
    exact ⟨r1, by rw [hth, htl]; exact r2, hb.trans r4⟩
  have K80 : Hid _ := k80
  have K113 : Hid _ := k113
  have K112 : Hid _ := k112
  have cb := call147
  have hmin : min 149 (24 - (b : Int) - lp) = Ev := hPE.symm
  have HMIN : Hid (min 149 (24 - (b : Int) - lp) = Ev) := hmin
  by_cases hs : 64 ≤ S
  · rw [if_pos hs]
    have hge : decide (S ≥ 64) = true := decide_eq_true hs
    have o0 : bits BinOp.or IntKind.u32 0 0 = 0 := u32_or_nat 0 0 (by omega) (by omega)
    have c0 : ∀ W : World, (callFunc 147 #[.int .u32 0]).run Tryz.prog W = .ok (.value (.float .f32 0)) W := fun W => call147 0 W
    have K112' : Hid (∀ W : World, ScAt W w.heap.size (tabHi p) (tabLo p) S → W.cell? ⟨w.heap.size, 2, none⟩ = some (.int .i64 S)) := fun W h => by rw [Lib.cell_of_heap h]; rfl
    clear hPE hPS hPU k80 k113 k112 hth htl hi g1 g2 g3 E b3 b4
    go_enter Tryz.func149, Tryz.ntmps149
    go_wp2_with (first
      | (go_at_call 80; refine (K80.out _).mono ?_; rintro e w' ⟨rfl, hw⟩; subst hw)
      | (go_at_call 113; refine (K113.out _).mono ?_; rintro e w' ⟨rfl, hw⟩; subst hw)
      | (go_at_call 112; refine (K112.out _ _ ((Below.refl _ _).alloc (Nat.le_refl _) _) (by exact heap_new _ _) (by omega)).mono ?_; rintro e w1 ⟨rfl, hSc, hB⟩; have B1 : Hid (Below w.heap.size w w1) := hB; have cS := K112'.out w1 hSc; clear hSc hB))
    go_ret2
    exact ⟨rfl, B1.out⟩
  · rw [if_neg hs]
    have hge : decide (S ≥ 64) = false := decide_eq_false hs
    obtain ⟨s, hsd⟩ : ∃ s : Nat, S = s := ⟨S.toNat, by omega⟩
    subst hsd
    rw [Int.toNat_natCast] at hPU
    have j3 : 9223372036854775808 ≤ d * 2 ^ (64 - b) := by
      have := Nat.mul_le_mul_right (2 ^ (64 - b)) b3
      rw [← Nat.pow_add, show b - 1 + (64 - b) = 63 from by omega] at this
      exact this
    have j4 : d * 2 ^ (64 - b) < 18446744073709551616 := by
      have := Nat.mul_lt_mul_of_pos_right b4 (Nat.pow_pos (n := 64 - b) (show 0 < 2 by omega))
      rw [← Nat.pow_add, show b + (64 - b) = 64 from by omega] at this
      exact this
    have gh := hh_ge (d * 2 ^ (64 - b)) p (by omega) (by omega) (by omega)
    have hul : u ≤ 134217728 + 1 := by
      rw [hPU]
      refine uscale_le _ _ _ _ _ ?_
      have h1 : d * 2 ^ (64 - b) * tabHi p / 18446744073709551616 < 18446744073709551616 := Nat.div_lt_of_lt_mul (Nat.mul_lt_mul'' j4 g2)
      have h2 : 2 ^ 37 ≤ 2 ^ s := Nat.pow_le_pow_right (by omega) (by omega)
      have h3 : d * 2 ^ (64 - b) * tabHi p / 18446744073709551616 / 2 ^ s ≤ d * 2 ^ (64 - b) * tabHi p / 18446744073709551616 / 2 ^ 37 := Nat.div_le_div_left h2 (by decide)
      have e8 : (2 : Nat) ^ 37 = 137438953472 := by decide
      rw [e8] at h3
      omega
    obtain ⟨Z, hZ⟩ : ∃ Z, 2 ^ (64 - b) = Z := ⟨_, rfl⟩
    obtain ⟨sh, hsh⟩ : ∃ sh : Nat, 64 - b = sh := ⟨_, rfl⟩
    have hsh' : (64 : Int) - (b : Int) = (sh : Int) := by omega
    have hshl : sh ≤ 63 := by omega
    rw [hZ] at j3 j4 gh hPU
    rw [hsh] at hZ
    have hZ' : (2 : Int) ^ sh = (Z : Int) := by rw [← hZ]; push_cast; rfl
    obtain ⟨m, hm⟩ : ∃ m, d * Z = m := ⟨_, rfl⟩
    have hm' : (d : Int) * (Z : Int) = (m : Int) := by rw [← hm]; push_cast; rfl
    rw [hm] at j3 j4 gh hPU
    have k114 : ∀ W : World, ScAt W w.heap.size (tabHi p) (tabLo p) s → Below w.heap.size w W → Calls Tryz.prog 114 #[.int .u64 m, .pointer (some ⟨w.heap.size, 0, none⟩)] W fun en w' => en = .returned (.int .u64 u) ∧ Below w.heap.size w w' := fun W h hb => by
      have := uscale_walk w.heap.size m (tabHi p) (tabLo p) s W h j4 g2 g3 (by omega) gh
      rw [← hPU] at this
      refine this.mono ?_
      rintro en w' ⟨r1, k, rfl⟩
      exact ⟨r1, below_drewN hb k⟩
    have K112' : Hid (∀ W : World, ScAt W w.heap.size (tabHi p) (tabLo p) s → W.cell? ⟨w.heap.size, 2, none⟩ = some (.int .i64 s)) := fun W h => by rw [Lib.cell_of_heap h]; rfl
    have k119 : ∀ W : World, Calls Tryz.prog 119 #[.int .u64 16777216] W fun e w' => e = .returned (.int .u64 67108862) ∧ w' = W := fun W => unmin_walk 16777216 W (by omega) (by omega)
    have k89 : ∀ (B : Bool) (W : World), Calls Tryz.prog 89 #[.bool B] W fun e w' => e = .returned (.int .i64 (if B then 1 else 0)) ∧ w' = W := fun B W => Tryz.internal_strconv_bool2_int B W
    have an1 := and_one_u64 u (by omega)
    have K114 : Hid _ := k114
    have K119 : Hid _ := k119
    have K89 : Hid _ := k89
    have htT : (4 * 2 ^ (23 + 1) - 2 : Nat) = 67108862 := by decide
    obtain ⟨r, hr⟩ : ∃ r, u % 2 = r := ⟨_, rfl⟩
    have hr1 : r ≤ 1 := by omega
    by_cases hbig : 67108862 ≤ u
    · rw [if_pos hbig]
      have hbg : decide ((u : Int) ≥ 67108862) = true := decide_eq_true (by omega)
      obtain ⟨v, hv⟩ : ∃ v, u / 2 = v := ⟨_, rfl⟩
      have hv' : (u : Int) / 2 = (v : Int) := by omega
      obtain ⟨o, ho⟩ : ∃ o, u / 2 ||| u % 2 = o := ⟨_, rfl⟩
      have hol : o ≤ v + 1 := by rw [← ho, hv]; exact or_le_add _ _ (by omega)
      have o1 : bits BinOp.or IntKind.u64 (v : Int) (r : Int) = (o : Int) := by
        rw [← ho, hv, hr]; exact u64_or_nat v r (by omega) (by omega)
      rw [ho]
      have k118 : ∀ W : World, Calls Tryz.prog 118 #[.int .u64 o] W fun e w' => e = .returned (.int .u64 (roundN o : Nat)) ∧ w' = W := fun W => round_walk o W (by omega)
      have hrl : roundN o < 2147483648 := by have := (round_bounds o).1; omega
      have hng : -(Ev - 1) = -(Ev - 1) := rfl
      obtain ⟨R, hR⟩ : ∃ R, roundN o = R := ⟨_, rfl⟩
      rw [hR] at hrl k118 ⊢
      have kp : ∀ W : World, Calls Tryz.prog 158 #[.int .u32 R, .int .i64 (-(Ev - 1))] W fun en w' => en = .returned (.tuple #[.float .f32 (packW 23 32 (-149) 104 2139095040 R (-(Ev - 1))).1, errV (packW 23 32 (-149) 104 2139095040 R (-(Ev - 1))).2]) ∧ w' = W := fun W => pack32_walk R (-(Ev - 1)) W hrl (by omega) (by omega)
      have o0 : bits BinOp.or IntKind.u32 0 (R : Int) = (R : Int) := by
        have := u32_or_nat 0 R (by omega) (by omega)
        rw [Nat.zero_or] at this
        exact this
      rw [hr] at an1
      have K118 : Hid _ := k118
      have KP : Hid _ := kp
      generalize packW 23 32 (-149) 104 2139095040 R (-(Ev - 1)) = res at *
      clear hPE hPS hPU k80 k113 k112 hth htl hi g1 g2 g3 E b3 b4 k114 k119 k89 k118 kp ho hv hr hR hbig gh hZ hm hng hs
      go_enter Tryz.func149, Tryz.ntmps149
      go_wp2_with (first
        | (go_at_call 80; refine (K80.out _).mono ?_; rintro e w' ⟨rfl, hw⟩; subst hw)
        | (go_at_call 113; refine (K113.out _).mono ?_; rintro e w' ⟨rfl, hw⟩; subst hw)
        | (go_at_call 112; refine (K112.out _ _ ((Below.refl _ _).alloc (Nat.le_refl _) _) (by exact heap_new _ _) (by omega)).mono ?_; rintro e w1 ⟨rfl, hSc, hB⟩; have B1 : Hid (Below w.heap.size w w1) := hB; have cS := K112'.out w1 hSc; have S1 : Hid (ScAt w1 w.heap.size (tabHi p) (tabLo p) s) := hSc; clear hSc hB)
        | (go_at_call 114; refine (K114.out _ S1.out B1.out).mono ?_; rintro e w2 ⟨rfl, hB⟩; have B2 : Hid (Below w.heap.size w w2) := hB; clear hB)
        | (go_at_call 119; refine (K119.out _).mono ?_; rintro e w' ⟨rfl, hw⟩; subst hw)
        | (go_at_call 89; refine (K89.out _ _).mono ?_; rintro e w' ⟨rfl, hw⟩; subst hw)
        | (go_at_call 118; refine (K118.out _).mono ?_; rintro e w' ⟨rfl, hw⟩; subst hw)
        | (go_at_call 158; refine (KP.out _).mono ?_; rintro e w' ⟨rfl, hw⟩; subst hw))
      go_ret2
      exact ⟨rfl, B2.out⟩
    · rw [if_neg hbig]
      have hbg : decide ((u : Int) ≥ 67108862) = false := decide_eq_false (by omega)
      have o1 : bits BinOp.or IntKind.u64 (u : Int) (r : Int) = (u : Int) := by
        have := u64_or_nat u r (by omega) (by omega)
        rw [← hr, or_self_bit] at this
        rw [← hr]
        exact this
      have k118 : ∀ W : World, Calls Tryz.prog 118 #[.int .u64 u] W fun e w' => e = .returned (.int .u64 (roundN u : Nat)) ∧ w' = W := fun W => round_walk u W (by omega)
      have hrl : roundN u < 2147483648 := by have := (round_bounds u).1; omega
      obtain ⟨R, hR⟩ : ∃ R, roundN u = R := ⟨_, rfl⟩
      rw [hR] at hrl k118 ⊢
      have kp : ∀ W : World, Calls Tryz.prog 158 #[.int .u32 R, .int .i64 (-Ev)] W fun en w' => en = .returned (.tuple #[.float .f32 (packW 23 32 (-149) 104 2139095040 R (-Ev)).1, errV (packW 23 32 (-149) 104 2139095040 R (-Ev)).2]) ∧ w' = W := fun W => pack32_walk R (-Ev) W hrl (by omega) (by omega)
      have o0 : bits BinOp.or IntKind.u32 0 (R : Int) = (R : Int) := by
        have := u32_or_nat 0 R (by omega) (by omega)
        rw [Nat.zero_or] at this
        exact this
      rw [hr] at an1
      have K118 : Hid _ := k118
      have KP : Hid _ := kp
      generalize packW 23 32 (-149) 104 2139095040 R (-Ev) = res at *
      clear hPE hPS hPU k80 k113 k112 hth htl hi g1 g2 g3 E b3 b4 k114 k119 k89 k118 kp hr hR hbig gh hZ hm hs
      go_enter Tryz.func149, Tryz.ntmps149
      go_wp2_with (first
        | (go_at_call 80; refine (K80.out _).mono ?_; rintro e w' ⟨rfl, hw⟩; subst hw)
        | (go_at_call 113; refine (K113.out _).mono ?_; rintro e w' ⟨rfl, hw⟩; subst hw)
        | (go_at_call 112; refine (K112.out _ _ ((Below.refl _ _).alloc (Nat.le_refl _) _) (by exact heap_new _ _) (by omega)).mono ?_; rintro e w1 ⟨rfl, hSc, hB⟩; have B1 : Hid (Below w.heap.size w w1) := hB; have cS := K112'.out w1 hSc; have S1 : Hid (ScAt w1 w.heap.size (tabHi p) (tabLo p) s) := hSc; clear hSc hB)
        | (go_at_call 114; refine (K114.out _ S1.out B1.out).mono ?_; rintro e w2 ⟨rfl, hB⟩; have B2 : Hid (Below w.heap.size w w2) := hB; clear hB)
        | (go_at_call 119; refine (K119.out _).mono ?_; rintro e w' ⟨rfl, hw⟩; subst hw)
        | (go_at_call 89; refine (K89.out _ _).mono ?_; rintro e w' ⟨rfl, hw⟩; subst hw)
        | (go_at_call 118; refine (K118.out _).mono ?_; rintro e w' ⟨rfl, hw⟩; subst hw)
        | (go_at_call 158; refine (KP.out _).mono ?_; rintro e w' ⟨rfl, hw⟩; subst hw))
      go_ret2
      exact ⟨rfl, B2.out⟩
end Go.Proofs.Qxb6606417aGreatDoor
