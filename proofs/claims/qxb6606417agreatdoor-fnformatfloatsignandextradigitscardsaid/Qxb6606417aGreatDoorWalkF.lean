import Derived.Test.Qxb6606417aGreatDoorWalkE
namespace Go.Proofs.Qxb6606417aGreatDoor
open Go.RowKit Go.PlainAid
set_option linter.unusedVariables false
set_option maxRecDepth 100000

set_option maxHeartbeats 8000000 in
theorem short_walk81 (M z : Nat) (q e : Int) (m : Nat) (w : World) (E : Env w) (hf : Fl 23 (-149) 104 M q) (hm : m = M * 2 ^ z) (hm1 : 9223372036854775808 ≤ m) (hm2 : m < 18446744073709551616) (he : e = q - z) (hz1 : 40 ≤ z) (hz2 : z ≤ 63) :
    Calls Tryz.prog 81 #[.int .u64 m, .int .i64 e] w fun en w' => en = .returned (.tuple #[.int .u64 ((shortN 23 (-149) M z q).1 : Nat), .int .i64 (shortN 23 (-149) M z q).2]) ∧ Below w.heap.size w w' := by
  have hlt := hf.lt
  have hMl : M < 9007199254740992 := Nat.lt_of_lt_of_le hlt (by decide)
  have S := short_parts 23 (-149) 104 M z q hf (by omega) (by omega) (by omega) (by omega) hz2 (by rw [← hm]; exact hm2) hMl
  have hq1 := hf.ge
  have hq2 := hf.le
  have h7 := env_seven E
  obtain ⟨p, hp⟩ : ∃ p, shortP 23 (-149) M q = p := ⟨_, rfl⟩
  have p1 := S.p1
  have p2 := S.p2
  have s1 := S.s1
  have s2 := S.s2
  rw [hp] at p1 p2 s1 s2
  obtain ⟨s, hsd⟩ : ∃ s : Nat, s = (-(q - z + log2Pow10 p + 3)).toNat := ⟨_, rfl⟩
  have hs64 : s < 64 := by omega
  obtain ⟨i, hi⟩ : ∃ i : Nat, i = (p + 348).toNat := ⟨_, rfl⟩
  have hth : tabHi p = (rowAt i).1 := by rw [hi]; rfl
  have htl : tabLo p = (rowAt i).2 := by rw [hi]; rfl
  obtain ⟨g1, g2, g3⟩ := hi_ge p p1 p2
  obtain ⟨lp, hlp⟩ : ∃ lp, log2Pow10 p = lp := ⟨_, rfl⟩
  have k113 : ∀ W : World, Calls Tryz.prog 113 #[.int .i64 p] W fun en w' => en = .returned (.int .i64 lp) ∧ w' = W := fun W => by
    have := log2_walk p W (by omega) (by omega)
    rw [hlp] at this; exact this
  have k112 : ∀ W : World, Below w.heap.size w W → W.heap[w.heap.size]? = some (.cells #[.int .u64 0, .int .u64 0, .int .i64 0] 141 (0, 0)) →
      Calls Tryz.prog 112 #[.pointer (some ⟨w.heap.size, 0, none⟩), .int .i64 e, .int .i64 p, .int .i64 lp] W fun en w' => en = .returned (.tuple #[]) ∧ ScAt w' w.heap.size (tabHi p) (tabLo p) s ∧ Below w.heap.size w w' := fun W hb hh => by
    refine (prescale_walk w.heap.size i e p lp s _ _ _ W (E.later hb) hh (by omega) (by omega) (by omega) (by omega) (by rw [← hlp]; unfold log2Pow10; omega) (by rw [← hlp]; unfold log2Pow10; omega) h7 (by rw [← hlp]; omega)).mono ?_
    rintro en w' ⟨r1, r2, r3, r4⟩
    exact ⟨r1, by rw [hth, htl]; exact r2, hb.trans r4⟩
  have k114 : ∀ (x : Nat) (W : World), 2 ≤ x → x < 18446744073709551616 → ScAt W w.heap.size (tabHi p) (tabLo p) s → Below w.heap.size w W → Calls Tryz.prog 114 #[.int .u64 x, .pointer (some ⟨w.heap.size, 0, none⟩)] W fun en w' => en = .returned (.int .u64 (shortU M z q p x : Nat)) ∧ ScAt w' w.heap.size (tabHi p) (tabLo p) s ∧ Below w.heap.size w w' := fun x W hx0 hx1 h hb => by
    have := uscale_walk w.heap.size x (tabHi p) (tabLo p) s W h hx1 g2 g3 hs64 (hh_ge x p hx0 p1 p2)
    refine this.mono ?_
    rintro en w' ⟨r1, k, rfl⟩
    exact ⟨by rw [r1, hsd]; rfl, h, below_drewN hb k⟩
  obtain ⟨mn, hmn⟩ : ∃ x, shortMin 23 (-149) M z q = x := ⟨_, rfl⟩
  obtain ⟨mx, hmx⟩ : ∃ x, shortMax M z = x := ⟨_, rfl⟩
  have f1 := S.max
  have f2 := S.min
  have f3 := S.min2
  have f4 := S.l1
  have f5 := S.l2
  have f6 := S.l3
  have f7 := S.w1
  have f8 := S.w2
  have f9 := S.w3
  rw [hp, hmn] at f4 f7
  rw [hmx] at f1 f6 f8
  rw [hp] at f6 f8
  rw [hmn] at f2 f3
  rw [hp, ← hm] at f5 f9
  have hmxge : m ≤ mx := by rw [← hmx, hm]; exact Nat.le_add_right _ _
  have kn := fun W : World => k114 mn W (by omega) f2
  have kx := fun W : World => k114 mx W (by omega) f1
  have km := fun W : World => k114 m W (by omega) hm2
  unfold shortN
  simp only [hp]
  rw [hmn, hmx, ← hm]
  obtain ⟨a, ha⟩ : ∃ x, shortU M z q p mn = x := ⟨_, rfl⟩
  obtain ⟨b, hb⟩ : ∃ x, shortU M z q p mx = x := ⟨_, rfl⟩
  obtain ⟨c, hc⟩ : ∃ x, shortU M z q p m = x := ⟨_, rfl⟩
  rw [ha] at f4 f7 ⊢
  rw [hb] at f6 f8 ⊢
  rw [hc] at f5 f9 ⊢
  rw [ha] at kn
  rw [hb] at kx
  rw [hc] at km
  obtain ⟨od, hod⟩ : ∃ x, M % 2 = x := ⟨_, rfl⟩
  have hod1 : od ≤ 1 := by omega
  rw [hod]
  obtain ⟨dn, hdn⟩ : ∃ x, ceilN (a + od) = x := ⟨_, rfl⟩
  obtain ⟨dx, hdx⟩ : ∃ x, floorN (b - od) = x := ⟨_, rfl⟩
  have kc : ∀ W : World, Calls Tryz.prog 116 #[.int .u64 ((a : Int) + od)] W fun en w' => en = .returned (.int .u64 dn) ∧ w' = W := fun W => by
    have := ceil_walk (a + od) W (by omega)
    rw [hdn, Int.natCast_add] at this; exact this
  have kf : ∀ W : World, Calls Tryz.prog 117 #[.int .u64 ((b : Int) + -(od : Int))] W fun en w' => en = .returned (.int .u64 dx) ∧ w' = W := fun W => by
    have := floor_walk (b - od) W (by omega)
    rw [hdx, show ((b - od : Nat) : Int) = (b : Int) + -(od : Int) from by omega] at this; exact this
  have kan : bits .and .i64 (M : Int) 1 = (od : Int) := by rw [← hod]; exact and1_i64 M (by omega)
  have hdnl : dn < 1000000000000000000 := by rw [← hdn]; unfold ceilN; omega
  have hdxl : dx < 1000000000000000000 := by rw [← hdx]; unfold floorN; omega
  rw [hdn, hdx]
  obtain ⟨d10, hd10⟩ : ∃ x, dx / 10 = x := ⟨_, rfl⟩
  have hd10' : (dx : Int).tdiv 10 = (d10 : Int) := by rw [Int.tdiv_eq_ediv_of_nonneg (by omega)]; omega
  have hd10l : d10 ≤ dx := by omega
  rw [hd10]
  have KN : Hid _ := kn
  have KX : Hid _ := kx
  have KM : Hid _ := km
  have KC : Hid _ := kc
  have KF : Hid _ := kf
  have K113 : Hid _ := k113
  have K112 : Hid _ := k112
  have hpb : -348 ≤ p ∧ p ≤ 347 := by omega
  have he1 : -1200 ≤ e := by omega
  have he2 : e ≤ 1000 := by omega
  have hzz : 0 < 2 ^ z := Nat.pow_pos (by omega)
  have hz12 : 2 * 2 ^ (z - 1) = 2 ^ z := by rw [← Nat.pow_succ']; congr 1; omega
  have hz24 : 4 * 2 ^ (z - 2) = 2 ^ z := by
    have : 2 ^ z = 2 ^ (z - 2) * 2 ^ 2 := by rw [← Nat.pow_add]; congr 1; omega
    omega
  have hMm : m / 2 ^ z = M := by rw [hm]; exact Nat.mul_div_cancel _ hzz
  have hnd0 : (mb : Nat) → True := fun _ => trivial
  clear hnd0 k113 k112 k114 kn kx km kc kf S hdn hdx hod ha hb hc hth htl hsd hi g1 g2 g3 hs64 E s1 s2
  have hpp : - -p = p := by omega
  by_cases hE : (-189 : Int) ≤ e
  · have hz : z = 40 := by
      rcases Nat.lt_or_ge z 41 with h | h
      · omega
      · exfalso
        have hM52 : M < 2 ^ 23 := by
          rcases Nat.lt_or_ge M (2 ^ 23) with h1 | h1
          · exact h1
          · exfalso
            have : 2 ^ 23 * 2 ^ 41 ≤ M * 2 ^ z := Nat.mul_le_mul h1 (Nat.pow_le_pow_right (by omega) h)
            have h64 : (2 : Nat) ^ 23 * 2 ^ 41 = 18446744073709551616 := by decide
            omega
        have := hf.sub hM52
        omega
    subst hz
    have hT : (2 : Nat) ^ 40 = 1099511627776 := by decide
    have hH1 : (2 : Nat) ^ (40 - 1) = 549755813888 := by decide
    have hH2 : (2 : Nat) ^ (40 - 2) = 274877906944 := by decide
    rw [hT] at hm hMm
    have hMi : (m : Int) / 1099511627776 = (M : Int) := by omega
    have hmxi : (m : Int) + 549755813888 = (mx : Int) := by rw [← hmx]; unfold shortMax; rw [hT, hH1, ← hm]; omega
    have hmb : (2 : Nat) ^ 23 = 8388608 := by decide
    by_cases hA : M = 8388608 ∧ (-149 : Int) < q
    · have hpv : p = -skewed q := by rw [← hp]; unfold shortP; rw [hmb, if_pos hA]
      have hmni : (m : Int) - 274877906944 = (mn : Int) := by rw [← hmn]; unfold shortMin; rw [hmb, if_pos hA, hT, hH2, ← hm]; omega
      have hbe : ((m : Int) == 9223372036854775808) = true := by simp; omega
      have hgt : decide ((-189 : Int) < e) = true := by simp; omega
      have k111 : ∀ W : World, Calls Tryz.prog 111 #[.int .i64 (e + 40)] W fun en w' => en = .returned (.int .i64 (-p)) ∧ w' = W := fun W => by
        have := skewed_walk (e + 40) W (by omega) (by omega)
        rw [show e + 40 = q from by omega] at this ⊢
        rw [hpv, Int.neg_neg]; exact this
      have K111 : Hid _ := k111
      clear k111 hp hm hmn hmx hMm hf hlp hz12 hz24 hT hH1 hH2 hzz hz1 hz2 hmb hA hpv he hd10
      by_cases ho1 : dn ≤ d10 * 10
      · rw [if_pos ho1]
        have ho1' : decide ((dn : Int) ≤ (d10 : Int) * 10) = true := by simp; omega
        go_enter Tryz.func81, Tryz.ntmps81
        go_upto_region 27 with (go_at_call 111; refine (K111.out _).mono ?_; rintro en w' ⟨rfl, hw⟩; subst hw)
        go_upto_region 29 with (first
          | (go_at_call 113; refine (K113.out _).mono ?_; rintro en w' ⟨rfl, hw⟩; subst hw)
          | (go_at_call 112; refine (K112.out _ ((Below.refl _ _).alloc (Nat.le_refl _) _) (heap_new _ _)).mono ?_; rintro en w1 ⟨rfl, hS, hB⟩; have S1 : Hid _ := hS; have B1 : Hid _ := hB; clear hS hB))
        go_upto_region 30 with (first
          | (go_at_call 114; refine (KN.out _ S1.out B1.out).mono ?_; rintro en w2 ⟨rfl, hS, hB⟩; have S2 : Hid _ := hS; have B2 : Hid _ := hB; clear hS hB)
          | (go_at_call 115; refine (nudge_walk a od _ (by omega) f4 (by omega) (by omega)).mono ?_; rintro en w' ⟨rfl, hw⟩; subst hw)
          | (go_at_call 116; refine (KC.out _).mono ?_; rintro en w' ⟨rfl, hw⟩; subst hw))
        go_upto_region 31 with (first
          | (go_at_call 114; refine (KX.out _ S2.out B2.out).mono ?_; rintro en w3 ⟨rfl, hS, hB⟩; have S3 : Hid _ := hS; have B3 : Hid _ := hB; clear hS hB)
          | (go_at_call 115; refine (nudge_walk b (-(od : Int)) _ (by omega) (by omega) (by omega) (by omega)).mono ?_; rintro en w' ⟨rfl, hw⟩; subst hw)
          | (go_at_call 117; refine (KF.out _).mono ?_; rintro en w' ⟨rfl, hw⟩; subst hw))
        go_wp2_with fail
        go_ret2
        exact ⟨rfl, B3.out⟩
      rw [if_neg ho1]
      have ho1' : decide ((dn : Int) ≤ (d10 : Int) * 10) = false := by simp; omega
      by_cases ho2 : dn < dx
      · rw [if_pos ho2]
        have ho2' : decide ((dn : Int) < (dx : Int)) = true := by simp; omega
        go_enter Tryz.func81, Tryz.ntmps81
        go_upto_region 27 with (go_at_call 111; refine (K111.out _).mono ?_; rintro en w' ⟨rfl, hw⟩; subst hw)
        go_upto_region 29 with (first
          | (go_at_call 113; refine (K113.out _).mono ?_; rintro en w' ⟨rfl, hw⟩; subst hw)
          | (go_at_call 112; refine (K112.out _ ((Below.refl _ _).alloc (Nat.le_refl _) _) (heap_new _ _)).mono ?_; rintro en w1 ⟨rfl, hS, hB⟩; have S1 : Hid _ := hS; have B1 : Hid _ := hB; clear hS hB))
        go_upto_region 30 with (first
          | (go_at_call 114; refine (KN.out _ S1.out B1.out).mono ?_; rintro en w2 ⟨rfl, hS, hB⟩; have S2 : Hid _ := hS; have B2 : Hid _ := hB; clear hS hB)
          | (go_at_call 115; refine (nudge_walk a od _ (by omega) f4 (by omega) (by omega)).mono ?_; rintro en w' ⟨rfl, hw⟩; subst hw)
          | (go_at_call 116; refine (KC.out _).mono ?_; rintro en w' ⟨rfl, hw⟩; subst hw))
        go_upto_region 31 with (first
          | (go_at_call 114; refine (KX.out _ S2.out B2.out).mono ?_; rintro en w3 ⟨rfl, hS, hB⟩; have S3 : Hid _ := hS; have B3 : Hid _ := hB; clear hS hB)
          | (go_at_call 115; refine (nudge_walk b (-(od : Int)) _ (by omega) (by omega) (by omega) (by omega)).mono ?_; rintro en w' ⟨rfl, hw⟩; subst hw)
          | (go_at_call 117; refine (KF.out _).mono ?_; rintro en w' ⟨rfl, hw⟩; subst hw))
        go_wp2_with (first
          | (go_at_call 114; refine (KM.out _ S3.out B3.out).mono ?_; rintro en w4 ⟨rfl, hS, hB⟩; have B4 : Hid _ := hB; clear hS hB)
          | (go_at_call 118; refine (round_walk c _ (by omega)).mono ?_; rintro en w' ⟨rfl, hw⟩; subst hw))
        go_ret2
        exact ⟨rfl, B4.out⟩
      · rw [if_neg ho2]
        have ho2' : decide ((dn : Int) < (dx : Int)) = false := by simp; omega
        go_enter Tryz.func81, Tryz.ntmps81
        go_upto_region 27 with (go_at_call 111; refine (K111.out _).mono ?_; rintro en w' ⟨rfl, hw⟩; subst hw)
        go_upto_region 29 with (first
          | (go_at_call 113; refine (K113.out _).mono ?_; rintro en w' ⟨rfl, hw⟩; subst hw)
          | (go_at_call 112; refine (K112.out _ ((Below.refl _ _).alloc (Nat.le_refl _) _) (heap_new _ _)).mono ?_; rintro en w1 ⟨rfl, hS, hB⟩; have S1 : Hid _ := hS; have B1 : Hid _ := hB; clear hS hB))
        go_upto_region 30 with (first
          | (go_at_call 114; refine (KN.out _ S1.out B1.out).mono ?_; rintro en w2 ⟨rfl, hS, hB⟩; have S2 : Hid _ := hS; have B2 : Hid _ := hB; clear hS hB)
          | (go_at_call 115; refine (nudge_walk a od _ (by omega) f4 (by omega) (by omega)).mono ?_; rintro en w' ⟨rfl, hw⟩; subst hw)
          | (go_at_call 116; refine (KC.out _).mono ?_; rintro en w' ⟨rfl, hw⟩; subst hw))
        go_upto_region 31 with (first
          | (go_at_call 114; refine (KX.out _ S2.out B2.out).mono ?_; rintro en w3 ⟨rfl, hS, hB⟩; have S3 : Hid _ := hS; have B3 : Hid _ := hB; clear hS hB)
          | (go_at_call 115; refine (nudge_walk b (-(od : Int)) _ (by omega) (by omega) (by omega) (by omega)).mono ?_; rintro en w' ⟨rfl, hw⟩; subst hw)
          | (go_at_call 117; refine (KF.out _).mono ?_; rintro en w' ⟨rfl, hw⟩; subst hw))
        go_wp2_with fail
        go_ret2
        exact ⟨rfl, B3.out⟩

    · have hpv : p = -log10Pow2 q := by rw [← hp]; unfold shortP; rw [hmb, if_neg hA]
      have hmni : (m : Int) - 549755813888 = (mn : Int) := by rw [← hmn]; unfold shortMin; rw [hmb, if_neg hA, hT, hH1, ← hm]; omega
      have hge : decide ((-189 : Int) ≤ e) = true := by simp; omega
      have k83 : ∀ W : World, Calls Tryz.prog 83 #[.int .i64 (e + 40)] W fun en w' => en = .returned (.int .i64 (-p)) ∧ w' = W := fun W => by
        have := log10_walk (e + 40) W (by omega) (by omega)
        rw [show e + 40 = q from by omega] at this ⊢
        rw [hpv, Int.neg_neg]; exact this
      have K83 : Hid _ := k83
      by_cases hB : m = 9223372036854775808
      · have hbe : ((m : Int) == 9223372036854775808) = true := by simp; omega
        have hgt : decide ((-189 : Int) < e) = false := by simp; omega
        clear hB k83 hp hm hmn hmx hMm hf hlp hz12 hz24 hT hH1 hH2 hzz hz1 hz2 hmb hA hpv he hd10
        by_cases ho1 : dn ≤ d10 * 10
        · rw [if_pos ho1]
          have ho1' : decide ((dn : Int) ≤ (d10 : Int) * 10) = true := by simp; omega
          go_enter Tryz.func81, Tryz.ntmps81
          go_upto_region 27 with (go_at_call 83; refine (K83.out _).mono ?_; rintro en w' ⟨rfl, hw⟩; subst hw)
          go_upto_region 29 with (first
            | (go_at_call 113; refine (K113.out _).mono ?_; rintro en w' ⟨rfl, hw⟩; subst hw)
            | (go_at_call 112; refine (K112.out _ ((Below.refl _ _).alloc (Nat.le_refl _) _) (heap_new _ _)).mono ?_; rintro en w1 ⟨rfl, hS, hB⟩; have S1 : Hid _ := hS; have B1 : Hid _ := hB; clear hS hB))
          go_upto_region 30 with (first
            | (go_at_call 114; refine (KN.out _ S1.out B1.out).mono ?_; rintro en w2 ⟨rfl, hS, hB⟩; have S2 : Hid _ := hS; have B2 : Hid _ := hB; clear hS hB)
            | (go_at_call 115; refine (nudge_walk a od _ (by omega) f4 (by omega) (by omega)).mono ?_; rintro en w' ⟨rfl, hw⟩; subst hw)
            | (go_at_call 116; refine (KC.out _).mono ?_; rintro en w' ⟨rfl, hw⟩; subst hw))
          go_upto_region 31 with (first
            | (go_at_call 114; refine (KX.out _ S2.out B2.out).mono ?_; rintro en w3 ⟨rfl, hS, hB⟩; have S3 : Hid _ := hS; have B3 : Hid _ := hB; clear hS hB)
            | (go_at_call 115; refine (nudge_walk b (-(od : Int)) _ (by omega) (by omega) (by omega) (by omega)).mono ?_; rintro en w' ⟨rfl, hw⟩; subst hw)
            | (go_at_call 117; refine (KF.out _).mono ?_; rintro en w' ⟨rfl, hw⟩; subst hw))
          go_wp2_with fail
          go_ret2
          exact ⟨rfl, B3.out⟩
        rw [if_neg ho1]
        have ho1' : decide ((dn : Int) ≤ (d10 : Int) * 10) = false := by simp; omega
        by_cases ho2 : dn < dx
        · rw [if_pos ho2]
          have ho2' : decide ((dn : Int) < (dx : Int)) = true := by simp; omega
          go_enter Tryz.func81, Tryz.ntmps81
          go_upto_region 27 with (go_at_call 83; refine (K83.out _).mono ?_; rintro en w' ⟨rfl, hw⟩; subst hw)
          go_upto_region 29 with (first
            | (go_at_call 113; refine (K113.out _).mono ?_; rintro en w' ⟨rfl, hw⟩; subst hw)
            | (go_at_call 112; refine (K112.out _ ((Below.refl _ _).alloc (Nat.le_refl _) _) (heap_new _ _)).mono ?_; rintro en w1 ⟨rfl, hS, hB⟩; have S1 : Hid _ := hS; have B1 : Hid _ := hB; clear hS hB))
          go_upto_region 30 with (first
            | (go_at_call 114; refine (KN.out _ S1.out B1.out).mono ?_; rintro en w2 ⟨rfl, hS, hB⟩; have S2 : Hid _ := hS; have B2 : Hid _ := hB; clear hS hB)
            | (go_at_call 115; refine (nudge_walk a od _ (by omega) f4 (by omega) (by omega)).mono ?_; rintro en w' ⟨rfl, hw⟩; subst hw)
            | (go_at_call 116; refine (KC.out _).mono ?_; rintro en w' ⟨rfl, hw⟩; subst hw))
          go_upto_region 31 with (first
            | (go_at_call 114; refine (KX.out _ S2.out B2.out).mono ?_; rintro en w3 ⟨rfl, hS, hB⟩; have S3 : Hid _ := hS; have B3 : Hid _ := hB; clear hS hB)
            | (go_at_call 115; refine (nudge_walk b (-(od : Int)) _ (by omega) (by omega) (by omega) (by omega)).mono ?_; rintro en w' ⟨rfl, hw⟩; subst hw)
            | (go_at_call 117; refine (KF.out _).mono ?_; rintro en w' ⟨rfl, hw⟩; subst hw))
          go_wp2_with (first
            | (go_at_call 114; refine (KM.out _ S3.out B3.out).mono ?_; rintro en w4 ⟨rfl, hS, hB⟩; have B4 : Hid _ := hB; clear hS hB)
            | (go_at_call 118; refine (round_walk c _ (by omega)).mono ?_; rintro en w' ⟨rfl, hw⟩; subst hw))
          go_ret2
          exact ⟨rfl, B4.out⟩
        · rw [if_neg ho2]
          have ho2' : decide ((dn : Int) < (dx : Int)) = false := by simp; omega
          go_enter Tryz.func81, Tryz.ntmps81
          go_upto_region 27 with (go_at_call 83; refine (K83.out _).mono ?_; rintro en w' ⟨rfl, hw⟩; subst hw)
          go_upto_region 29 with (first
            | (go_at_call 113; refine (K113.out _).mono ?_; rintro en w' ⟨rfl, hw⟩; subst hw)
            | (go_at_call 112; refine (K112.out _ ((Below.refl _ _).alloc (Nat.le_refl _) _) (heap_new _ _)).mono ?_; rintro en w1 ⟨rfl, hS, hB⟩; have S1 : Hid _ := hS; have B1 : Hid _ := hB; clear hS hB))
          go_upto_region 30 with (first
            | (go_at_call 114; refine (KN.out _ S1.out B1.out).mono ?_; rintro en w2 ⟨rfl, hS, hB⟩; have S2 : Hid _ := hS; have B2 : Hid _ := hB; clear hS hB)
            | (go_at_call 115; refine (nudge_walk a od _ (by omega) f4 (by omega) (by omega)).mono ?_; rintro en w' ⟨rfl, hw⟩; subst hw)
            | (go_at_call 116; refine (KC.out _).mono ?_; rintro en w' ⟨rfl, hw⟩; subst hw))
          go_upto_region 31 with (first
            | (go_at_call 114; refine (KX.out _ S2.out B2.out).mono ?_; rintro en w3 ⟨rfl, hS, hB⟩; have S3 : Hid _ := hS; have B3 : Hid _ := hB; clear hS hB)
            | (go_at_call 115; refine (nudge_walk b (-(od : Int)) _ (by omega) (by omega) (by omega) (by omega)).mono ?_; rintro en w' ⟨rfl, hw⟩; subst hw)
            | (go_at_call 117; refine (KF.out _).mono ?_; rintro en w' ⟨rfl, hw⟩; subst hw))
          go_wp2_with fail
          go_ret2
          exact ⟨rfl, B3.out⟩

      · have hbe : ((m : Int) == 9223372036854775808) = false := by simp; omega
        clear hB k83 hp hm hmn hmx hMm hf hlp hz12 hz24 hT hH1 hH2 hzz hz1 hz2 hmb hA hpv he hd10
        by_cases ho1 : dn ≤ d10 * 10
        · rw [if_pos ho1]
          have ho1' : decide ((dn : Int) ≤ (d10 : Int) * 10) = true := by simp; omega
          go_enter Tryz.func81, Tryz.ntmps81
          go_upto_region 27 with (go_at_call 83; refine (K83.out _).mono ?_; rintro en w' ⟨rfl, hw⟩; subst hw)
          go_upto_region 29 with (first
            | (go_at_call 113; refine (K113.out _).mono ?_; rintro en w' ⟨rfl, hw⟩; subst hw)
            | (go_at_call 112; refine (K112.out _ ((Below.refl _ _).alloc (Nat.le_refl _) _) (heap_new _ _)).mono ?_; rintro en w1 ⟨rfl, hS, hB⟩; have S1 : Hid _ := hS; have B1 : Hid _ := hB; clear hS hB))
          go_upto_region 30 with (first
            | (go_at_call 114; refine (KN.out _ S1.out B1.out).mono ?_; rintro en w2 ⟨rfl, hS, hB⟩; have S2 : Hid _ := hS; have B2 : Hid _ := hB; clear hS hB)
            | (go_at_call 115; refine (nudge_walk a od _ (by omega) f4 (by omega) (by omega)).mono ?_; rintro en w' ⟨rfl, hw⟩; subst hw)
            | (go_at_call 116; refine (KC.out _).mono ?_; rintro en w' ⟨rfl, hw⟩; subst hw))
          go_upto_region 31 with (first
            | (go_at_call 114; refine (KX.out _ S2.out B2.out).mono ?_; rintro en w3 ⟨rfl, hS, hB⟩; have S3 : Hid _ := hS; have B3 : Hid _ := hB; clear hS hB)
            | (go_at_call 115; refine (nudge_walk b (-(od : Int)) _ (by omega) (by omega) (by omega) (by omega)).mono ?_; rintro en w' ⟨rfl, hw⟩; subst hw)
            | (go_at_call 117; refine (KF.out _).mono ?_; rintro en w' ⟨rfl, hw⟩; subst hw))
          go_wp2_with fail
          go_ret2
          exact ⟨rfl, B3.out⟩
        rw [if_neg ho1]
        have ho1' : decide ((dn : Int) ≤ (d10 : Int) * 10) = false := by simp; omega
        by_cases ho2 : dn < dx
        · rw [if_pos ho2]
          have ho2' : decide ((dn : Int) < (dx : Int)) = true := by simp; omega
          go_enter Tryz.func81, Tryz.ntmps81
          go_upto_region 27 with (go_at_call 83; refine (K83.out _).mono ?_; rintro en w' ⟨rfl, hw⟩; subst hw)
          go_upto_region 29 with (first
            | (go_at_call 113; refine (K113.out _).mono ?_; rintro en w' ⟨rfl, hw⟩; subst hw)
            | (go_at_call 112; refine (K112.out _ ((Below.refl _ _).alloc (Nat.le_refl _) _) (heap_new _ _)).mono ?_; rintro en w1 ⟨rfl, hS, hB⟩; have S1 : Hid _ := hS; have B1 : Hid _ := hB; clear hS hB))
          go_upto_region 30 with (first
            | (go_at_call 114; refine (KN.out _ S1.out B1.out).mono ?_; rintro en w2 ⟨rfl, hS, hB⟩; have S2 : Hid _ := hS; have B2 : Hid _ := hB; clear hS hB)
            | (go_at_call 115; refine (nudge_walk a od _ (by omega) f4 (by omega) (by omega)).mono ?_; rintro en w' ⟨rfl, hw⟩; subst hw)
            | (go_at_call 116; refine (KC.out _).mono ?_; rintro en w' ⟨rfl, hw⟩; subst hw))
          go_upto_region 31 with (first
            | (go_at_call 114; refine (KX.out _ S2.out B2.out).mono ?_; rintro en w3 ⟨rfl, hS, hB⟩; have S3 : Hid _ := hS; have B3 : Hid _ := hB; clear hS hB)
            | (go_at_call 115; refine (nudge_walk b (-(od : Int)) _ (by omega) (by omega) (by omega) (by omega)).mono ?_; rintro en w' ⟨rfl, hw⟩; subst hw)
            | (go_at_call 117; refine (KF.out _).mono ?_; rintro en w' ⟨rfl, hw⟩; subst hw))
          go_wp2_with (first
            | (go_at_call 114; refine (KM.out _ S3.out B3.out).mono ?_; rintro en w4 ⟨rfl, hS, hB⟩; have B4 : Hid _ := hB; clear hS hB)
            | (go_at_call 118; refine (round_walk c _ (by omega)).mono ?_; rintro en w' ⟨rfl, hw⟩; subst hw))
          go_ret2
          exact ⟨rfl, B4.out⟩
        · rw [if_neg ho2]
          have ho2' : decide ((dn : Int) < (dx : Int)) = false := by simp; omega
          go_enter Tryz.func81, Tryz.ntmps81
          go_upto_region 27 with (go_at_call 83; refine (K83.out _).mono ?_; rintro en w' ⟨rfl, hw⟩; subst hw)
          go_upto_region 29 with (first
            | (go_at_call 113; refine (K113.out _).mono ?_; rintro en w' ⟨rfl, hw⟩; subst hw)
            | (go_at_call 112; refine (K112.out _ ((Below.refl _ _).alloc (Nat.le_refl _) _) (heap_new _ _)).mono ?_; rintro en w1 ⟨rfl, hS, hB⟩; have S1 : Hid _ := hS; have B1 : Hid _ := hB; clear hS hB))
          go_upto_region 30 with (first
            | (go_at_call 114; refine (KN.out _ S1.out B1.out).mono ?_; rintro en w2 ⟨rfl, hS, hB⟩; have S2 : Hid _ := hS; have B2 : Hid _ := hB; clear hS hB)
            | (go_at_call 115; refine (nudge_walk a od _ (by omega) f4 (by omega) (by omega)).mono ?_; rintro en w' ⟨rfl, hw⟩; subst hw)
            | (go_at_call 116; refine (KC.out _).mono ?_; rintro en w' ⟨rfl, hw⟩; subst hw))
          go_upto_region 31 with (first
            | (go_at_call 114; refine (KX.out _ S2.out B2.out).mono ?_; rintro en w3 ⟨rfl, hS, hB⟩; have S3 : Hid _ := hS; have B3 : Hid _ := hB; clear hS hB)
            | (go_at_call 115; refine (nudge_walk b (-(od : Int)) _ (by omega) (by omega) (by omega) (by omega)).mono ?_; rintro en w' ⟨rfl, hw⟩; subst hw)
            | (go_at_call 117; refine (KF.out _).mono ?_; rintro en w' ⟨rfl, hw⟩; subst hw))
          go_wp2_with fail
          go_ret2
          exact ⟨rfl, B3.out⟩

  · have hM52 : M < 2 ^ 23 := by
      rcases Nat.lt_or_ge M (2 ^ 23) with h1 | h1
      · exact h1
      · exfalso
        have h : 41 ≤ z := by omega
        have : 2 ^ 23 * 2 ^ 41 ≤ M * 2 ^ z := Nat.mul_le_mul h1 (Nat.pow_le_pow_right (by omega) h)
        have h64 : (2 : Nat) ^ 23 * 2 ^ 41 = 18446744073709551616 := by decide
        omega
    have hql := hf.sub hM52
    have hnA : ¬ (M = 2 ^ 23 ∧ (-149 : Int) < q) := fun h => by omega
    have hpv : p = -log10Pow2 q := by rw [← hp]; unfold shortP; rw [if_neg hnA]
    obtain ⟨T, hT⟩ : ∃ T, 2 ^ z = T := ⟨_, rfl⟩
    obtain ⟨H, hH⟩ : ∃ H, 2 ^ (z - 1) = H := ⟨_, rfl⟩
    obtain ⟨z1, hz1d⟩ : ∃ z1, z - 1 = z1 := ⟨_, rfl⟩
    rw [hT] at hm hMm hzz hz12 hz24
    rw [hH] at hz12
    have hMz : T ≤ M * T := Nat.le_mul_of_pos_left _ hf.pos
    rw [← hm] at hMz
    have hMi : (m : Int) / (T : Int) = (M : Int) := by rw [← hMm]; norm_cast
    have hTi : (2 : Int) ^ z = (T : Int) := by rw [← hT]; norm_cast
    have hHi : (2 : Int) ^ z1 = (H : Int) := by rw [← hH, hz1d]; norm_cast
    have hmin1 : min z 64 = z := by omega
    have hmin2 : min z1 64 = z1 := by omega
    have htn : ((z : Int) - 1).toNat = z1 := by omega
    have hzc : (40 : Int) + (-189 - e) = (z : Int) := by omega
    have hge : decide ((-189 : Int) ≤ e) = false := by simp; omega
    have hgt : decide ((-189 : Int) < e) = false := by simp; omega
    have hmni : (m : Int) - (H : Int) = (mn : Int) := by rw [← hmn]; unfold shortMin; rw [if_neg hnA, hT, hH, ← hm]; omega
    have hmxi : (m : Int) + (H : Int) = (mx : Int) := by rw [← hmx]; unfold shortMax; rw [hT, hH, ← hm]; omega
    have k83 : ∀ W : World, Calls Tryz.prog 83 #[.int .i64 (e + z)] W fun en w' => en = .returned (.int .i64 (-p)) ∧ w' = W := fun W => by
      have := log10_walk (e + z) W (by omega) (by omega)
      rw [show e + z = q from by omega] at this ⊢
      rw [hpv, Int.neg_neg]; exact this
    have K83 : Hid _ := k83
    have hz1' : 11 ≤ z := by omega
    by_cases hB : m = 9223372036854775808
    · have hbe : ((m : Int) == 9223372036854775808) = true := by simp; omega
      clear hB k83 hp hm hmn hmx hMm hf hlp hz12 hz24 hT hH hz1d hz1 hnA hpv he hd10 hql
      by_cases ho1 : dn ≤ d10 * 10
      · rw [if_pos ho1]
        have ho1' : decide ((dn : Int) ≤ (d10 : Int) * 10) = true := by simp; omega
        go_enter Tryz.func81, Tryz.ntmps81
        go_upto_region 27 with (go_at_call 83; refine (K83.out _).mono ?_; rintro en w' ⟨rfl, hw⟩; subst hw)
        go_upto_region 29 with (first
          | (go_at_call 113; refine (K113.out _).mono ?_; rintro en w' ⟨rfl, hw⟩; subst hw)
          | (go_at_call 112; refine (K112.out _ ((Below.refl _ _).alloc (Nat.le_refl _) _) (heap_new _ _)).mono ?_; rintro en w1 ⟨rfl, hS, hB⟩; have S1 : Hid _ := hS; have B1 : Hid _ := hB; clear hS hB))
        go_upto_region 30 with (first
          | (go_at_call 114; refine (KN.out _ S1.out B1.out).mono ?_; rintro en w2 ⟨rfl, hS, hB⟩; have S2 : Hid _ := hS; have B2 : Hid _ := hB; clear hS hB)
          | (go_at_call 115; refine (nudge_walk a od _ (by omega) f4 (by omega) (by omega)).mono ?_; rintro en w' ⟨rfl, hw⟩; subst hw)
          | (go_at_call 116; refine (KC.out _).mono ?_; rintro en w' ⟨rfl, hw⟩; subst hw))
        go_upto_region 31 with (first
          | (go_at_call 114; refine (KX.out _ S2.out B2.out).mono ?_; rintro en w3 ⟨rfl, hS, hB⟩; have S3 : Hid _ := hS; have B3 : Hid _ := hB; clear hS hB)
          | (go_at_call 115; refine (nudge_walk b (-(od : Int)) _ (by omega) (by omega) (by omega) (by omega)).mono ?_; rintro en w' ⟨rfl, hw⟩; subst hw)
          | (go_at_call 117; refine (KF.out _).mono ?_; rintro en w' ⟨rfl, hw⟩; subst hw))
        go_wp2_with fail
        go_ret2
        exact ⟨rfl, B3.out⟩
      rw [if_neg ho1]
      have ho1' : decide ((dn : Int) ≤ (d10 : Int) * 10) = false := by simp; omega
      by_cases ho2 : dn < dx
      · rw [if_pos ho2]
        have ho2' : decide ((dn : Int) < (dx : Int)) = true := by simp; omega
        go_enter Tryz.func81, Tryz.ntmps81
        go_upto_region 27 with (go_at_call 83; refine (K83.out _).mono ?_; rintro en w' ⟨rfl, hw⟩; subst hw)
        go_upto_region 29 with (first
          | (go_at_call 113; refine (K113.out _).mono ?_; rintro en w' ⟨rfl, hw⟩; subst hw)
          | (go_at_call 112; refine (K112.out _ ((Below.refl _ _).alloc (Nat.le_refl _) _) (heap_new _ _)).mono ?_; rintro en w1 ⟨rfl, hS, hB⟩; have S1 : Hid _ := hS; have B1 : Hid _ := hB; clear hS hB))
        go_upto_region 30 with (first
          | (go_at_call 114; refine (KN.out _ S1.out B1.out).mono ?_; rintro en w2 ⟨rfl, hS, hB⟩; have S2 : Hid _ := hS; have B2 : Hid _ := hB; clear hS hB)
          | (go_at_call 115; refine (nudge_walk a od _ (by omega) f4 (by omega) (by omega)).mono ?_; rintro en w' ⟨rfl, hw⟩; subst hw)
          | (go_at_call 116; refine (KC.out _).mono ?_; rintro en w' ⟨rfl, hw⟩; subst hw))
        go_upto_region 31 with (first
          | (go_at_call 114; refine (KX.out _ S2.out B2.out).mono ?_; rintro en w3 ⟨rfl, hS, hB⟩; have S3 : Hid _ := hS; have B3 : Hid _ := hB; clear hS hB)
          | (go_at_call 115; refine (nudge_walk b (-(od : Int)) _ (by omega) (by omega) (by omega) (by omega)).mono ?_; rintro en w' ⟨rfl, hw⟩; subst hw)
          | (go_at_call 117; refine (KF.out _).mono ?_; rintro en w' ⟨rfl, hw⟩; subst hw))
        go_wp2_with (first
          | (go_at_call 114; refine (KM.out _ S3.out B3.out).mono ?_; rintro en w4 ⟨rfl, hS, hB⟩; have B4 : Hid _ := hB; clear hS hB)
          | (go_at_call 118; refine (round_walk c _ (by omega)).mono ?_; rintro en w' ⟨rfl, hw⟩; subst hw))
        go_ret2
        exact ⟨rfl, B4.out⟩
      · rw [if_neg ho2]
        have ho2' : decide ((dn : Int) < (dx : Int)) = false := by simp; omega
        go_enter Tryz.func81, Tryz.ntmps81
        go_upto_region 27 with (go_at_call 83; refine (K83.out _).mono ?_; rintro en w' ⟨rfl, hw⟩; subst hw)
        go_upto_region 29 with (first
          | (go_at_call 113; refine (K113.out _).mono ?_; rintro en w' ⟨rfl, hw⟩; subst hw)
          | (go_at_call 112; refine (K112.out _ ((Below.refl _ _).alloc (Nat.le_refl _) _) (heap_new _ _)).mono ?_; rintro en w1 ⟨rfl, hS, hB⟩; have S1 : Hid _ := hS; have B1 : Hid _ := hB; clear hS hB))
        go_upto_region 30 with (first
          | (go_at_call 114; refine (KN.out _ S1.out B1.out).mono ?_; rintro en w2 ⟨rfl, hS, hB⟩; have S2 : Hid _ := hS; have B2 : Hid _ := hB; clear hS hB)
          | (go_at_call 115; refine (nudge_walk a od _ (by omega) f4 (by omega) (by omega)).mono ?_; rintro en w' ⟨rfl, hw⟩; subst hw)
          | (go_at_call 116; refine (KC.out _).mono ?_; rintro en w' ⟨rfl, hw⟩; subst hw))
        go_upto_region 31 with (first
          | (go_at_call 114; refine (KX.out _ S2.out B2.out).mono ?_; rintro en w3 ⟨rfl, hS, hB⟩; have S3 : Hid _ := hS; have B3 : Hid _ := hB; clear hS hB)
          | (go_at_call 115; refine (nudge_walk b (-(od : Int)) _ (by omega) (by omega) (by omega) (by omega)).mono ?_; rintro en w' ⟨rfl, hw⟩; subst hw)
          | (go_at_call 117; refine (KF.out _).mono ?_; rintro en w' ⟨rfl, hw⟩; subst hw))
        go_wp2_with fail
        go_ret2
        exact ⟨rfl, B3.out⟩

    · have hbe : ((m : Int) == 9223372036854775808) = false := by simp; omega
      clear hB k83 hp hm hmn hmx hMm hf hlp hz12 hz24 hT hH hz1d hz1 hnA hpv he hd10 hql
      by_cases ho1 : dn ≤ d10 * 10
      · rw [if_pos ho1]
        have ho1' : decide ((dn : Int) ≤ (d10 : Int) * 10) = true := by simp; omega
        go_enter Tryz.func81, Tryz.ntmps81
        go_upto_region 27 with (go_at_call 83; refine (K83.out _).mono ?_; rintro en w' ⟨rfl, hw⟩; subst hw)
        go_upto_region 29 with (first
          | (go_at_call 113; refine (K113.out _).mono ?_; rintro en w' ⟨rfl, hw⟩; subst hw)
          | (go_at_call 112; refine (K112.out _ ((Below.refl _ _).alloc (Nat.le_refl _) _) (heap_new _ _)).mono ?_; rintro en w1 ⟨rfl, hS, hB⟩; have S1 : Hid _ := hS; have B1 : Hid _ := hB; clear hS hB))
        go_upto_region 30 with (first
          | (go_at_call 114; refine (KN.out _ S1.out B1.out).mono ?_; rintro en w2 ⟨rfl, hS, hB⟩; have S2 : Hid _ := hS; have B2 : Hid _ := hB; clear hS hB)
          | (go_at_call 115; refine (nudge_walk a od _ (by omega) f4 (by omega) (by omega)).mono ?_; rintro en w' ⟨rfl, hw⟩; subst hw)
          | (go_at_call 116; refine (KC.out _).mono ?_; rintro en w' ⟨rfl, hw⟩; subst hw))
        go_upto_region 31 with (first
          | (go_at_call 114; refine (KX.out _ S2.out B2.out).mono ?_; rintro en w3 ⟨rfl, hS, hB⟩; have S3 : Hid _ := hS; have B3 : Hid _ := hB; clear hS hB)
          | (go_at_call 115; refine (nudge_walk b (-(od : Int)) _ (by omega) (by omega) (by omega) (by omega)).mono ?_; rintro en w' ⟨rfl, hw⟩; subst hw)
          | (go_at_call 117; refine (KF.out _).mono ?_; rintro en w' ⟨rfl, hw⟩; subst hw))
        go_wp2_with fail
        go_ret2
        exact ⟨rfl, B3.out⟩
      rw [if_neg ho1]
      have ho1' : decide ((dn : Int) ≤ (d10 : Int) * 10) = false := by simp; omega
      by_cases ho2 : dn < dx
      · rw [if_pos ho2]
        have ho2' : decide ((dn : Int) < (dx : Int)) = true := by simp; omega
        go_enter Tryz.func81, Tryz.ntmps81
        go_upto_region 27 with (go_at_call 83; refine (K83.out _).mono ?_; rintro en w' ⟨rfl, hw⟩; subst hw)
        go_upto_region 29 with (first
          | (go_at_call 113; refine (K113.out _).mono ?_; rintro en w' ⟨rfl, hw⟩; subst hw)
          | (go_at_call 112; refine (K112.out _ ((Below.refl _ _).alloc (Nat.le_refl _) _) (heap_new _ _)).mono ?_; rintro en w1 ⟨rfl, hS, hB⟩; have S1 : Hid _ := hS; have B1 : Hid _ := hB; clear hS hB))
        go_upto_region 30 with (first
          | (go_at_call 114; refine (KN.out _ S1.out B1.out).mono ?_; rintro en w2 ⟨rfl, hS, hB⟩; have S2 : Hid _ := hS; have B2 : Hid _ := hB; clear hS hB)
          | (go_at_call 115; refine (nudge_walk a od _ (by omega) f4 (by omega) (by omega)).mono ?_; rintro en w' ⟨rfl, hw⟩; subst hw)
          | (go_at_call 116; refine (KC.out _).mono ?_; rintro en w' ⟨rfl, hw⟩; subst hw))
        go_upto_region 31 with (first
          | (go_at_call 114; refine (KX.out _ S2.out B2.out).mono ?_; rintro en w3 ⟨rfl, hS, hB⟩; have S3 : Hid _ := hS; have B3 : Hid _ := hB; clear hS hB)
          | (go_at_call 115; refine (nudge_walk b (-(od : Int)) _ (by omega) (by omega) (by omega) (by omega)).mono ?_; rintro en w' ⟨rfl, hw⟩; subst hw)
          | (go_at_call 117; refine (KF.out _).mono ?_; rintro en w' ⟨rfl, hw⟩; subst hw))
        go_wp2_with (first
          | (go_at_call 114; refine (KM.out _ S3.out B3.out).mono ?_; rintro en w4 ⟨rfl, hS, hB⟩; have B4 : Hid _ := hB; clear hS hB)
          | (go_at_call 118; refine (round_walk c _ (by omega)).mono ?_; rintro en w' ⟨rfl, hw⟩; subst hw))
        go_ret2
        exact ⟨rfl, B4.out⟩
      · rw [if_neg ho2]
        have ho2' : decide ((dn : Int) < (dx : Int)) = false := by simp; omega
        go_enter Tryz.func81, Tryz.ntmps81
        go_upto_region 27 with (go_at_call 83; refine (K83.out _).mono ?_; rintro en w' ⟨rfl, hw⟩; subst hw)
        go_upto_region 29 with (first
          | (go_at_call 113; refine (K113.out _).mono ?_; rintro en w' ⟨rfl, hw⟩; subst hw)
          | (go_at_call 112; refine (K112.out _ ((Below.refl _ _).alloc (Nat.le_refl _) _) (heap_new _ _)).mono ?_; rintro en w1 ⟨rfl, hS, hB⟩; have S1 : Hid _ := hS; have B1 : Hid _ := hB; clear hS hB))
        go_upto_region 30 with (first
          | (go_at_call 114; refine (KN.out _ S1.out B1.out).mono ?_; rintro en w2 ⟨rfl, hS, hB⟩; have S2 : Hid _ := hS; have B2 : Hid _ := hB; clear hS hB)
          | (go_at_call 115; refine (nudge_walk a od _ (by omega) f4 (by omega) (by omega)).mono ?_; rintro en w' ⟨rfl, hw⟩; subst hw)
          | (go_at_call 116; refine (KC.out _).mono ?_; rintro en w' ⟨rfl, hw⟩; subst hw))
        go_upto_region 31 with (first
          | (go_at_call 114; refine (KX.out _ S2.out B2.out).mono ?_; rintro en w3 ⟨rfl, hS, hB⟩; have S3 : Hid _ := hS; have B3 : Hid _ := hB; clear hS hB)
          | (go_at_call 115; refine (nudge_walk b (-(od : Int)) _ (by omega) (by omega) (by omega) (by omega)).mono ?_; rintro en w' ⟨rfl, hw⟩; subst hw)
          | (go_at_call 117; refine (KF.out _).mono ?_; rintro en w' ⟨rfl, hw⟩; subst hw))
        go_wp2_with fail
        go_ret2
        exact ⟨rfl, B3.out⟩

end Go.Proofs.Qxb6606417aGreatDoor
