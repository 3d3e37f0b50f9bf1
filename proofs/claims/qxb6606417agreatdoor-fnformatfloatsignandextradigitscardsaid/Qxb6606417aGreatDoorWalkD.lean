import Derived.Test.Qxb6606417aGreatDoorWalkC
namespace Go.Proofs.Qxb6606417aGreatDoor
open Go.RowKit Go.PlainAid
set_option linter.unusedVariables false
set_option maxRecDepth 100000

theorem hi_ge (p : Int) (h1 : -348 ≤ p) (h2 : p ≤ 347) : 9223372036854775808 ≤ tabHi p ∧ tabHi p < 18446744073709551616 ∧ tabLo p < 18446744073709551616 := by
  have T := tab_at p h1 h2
  have a := T.lower
  have b := T.hi
  have c := T.lo
  unfold pm at a
  have e1 : (2 : Nat) ^ 64 = 18446744073709551616 := by decide
  have e2 : (2 : Nat) ^ 127 = 170141183460469231731687303715884105728 := by decide
  rw [e1, e2] at a
  rw [e1] at b c
  omega
theorem hh_ge (x : Nat) (p : Int) (hx : 2 ≤ x) (h1 : -348 ≤ p) (h2 : p ≤ 347) : 1 ≤ x * tabHi p / 18446744073709551616 := by
  obtain ⟨a, b, c⟩ := hi_ge p h1 h2
  have : 2 * 9223372036854775808 ≤ x * tabHi p := Nat.mul_le_mul hx a
  omega
theorem block_lt {w : World} {a : Addr} {v : Value} (h : w.cell? a = some v) : a.block < w.heap.size := by
  unfold World.cell? at h
  rcases Nat.lt_or_ge a.block w.heap.size with h1 | h1
  · exact h1
  · rw [Array.getElem?_eq_none h1] at h; simp at h
theorem heap_new (w : World) (o : Obj) : (w.alloc o).heap[w.heap.size]? = some o := by
  show (w.heap.push o)[w.heap.size]? = some o
  simp
theorem env_seven {w : World} (E : Env w) : 7 < w.heap.size := block_lt (E.tab 0 (by omega)).1
/-- What lies behind a call that makes one scaler. -/
theorem scale_lt {m : Nat} {e p : Int} {n : Nat} (hn1 : 1 ≤ n) (hn2 : n ≤ 18) (hm1 : 0 < m) (hm2 : m < 18446744073709551616) (hp : p = n - 1 - log10Pow2 (e + 63)) (he1 : -1137 ≤ e) (he2 : e ≤ 971) (hp1 : -348 ≤ p) (hp2 : p ≤ 347) (hs : e + log2Pow10 p ≤ -3) : scaleN m e p ≤ 8 * 10 ^ n + 2 := by
  have hu := scale_upper hn1 hm2 hp (by omega) (by omega) hp1 hp2
  obtain ⟨b1, b2⟩ := uscale_bounds m e p (-(e + log2Pow10 p + 3)).toNat hm1 hm2 hp1 hp2 (by omega) (by omega)
  have hU := U_pos
  have hsc : scaleN m e p = uscaleN m (tabHi p) (tabLo p) (-(e + log2Pow10 p + 3)).toNat := rfl
  rw [← hsc] at b1 b2
  generalize scaleN m e p = u at b1 b2 ⊢
  generalize m * (A e * B p) = X at *
  rcases Nat.lt_or_ge (8 * 10 ^ n + 2) u with h | h
  · exfalso
    have h3 : (8 * 10 ^ n + 3) * U ≤ u * U := Nat.mul_le_mul_right _ h
    rw [Nat.add_mul] at h3
    have h4 : 2 * 10 ^ n * U * 400 = 8 * 10 ^ n * U * 100 := by rw [Nat.mul_assoc 2, Nat.mul_assoc 8]; omega
    omega
  · exact h

set_option maxHeartbeats 2000000 in
theorem fixed_walk (m : Nat) (e : Int) (n : Nat) (prec : Int) (w : World) (E : Env w) (hn1 : 1 ≤ n) (hn2 : n ≤ 18) (hm1 : 9223372036854775808 ≤ m) (hm2 : m < 18446744073709551616) (he1 : -1137 ≤ e) (he2 : e ≤ 971) :
    Calls Tryz.prog 84 #[.int .u64 m, .int .i64 e, .int .i64 n, .int .i64 prec, .int .u8 101] w fun en w' => en = .returned (.tuple #[.int .u64 ((fixedN m e n).1 : Nat), .int .i64 (fixedN m e n).2]) ∧ Below w.heap.size w w' := by
  have hl : -324 ≤ log10Pow2 (e + 63) ∧ log10Pow2 (e + 63) ≤ 311 := by unfold log10Pow2; omega
  obtain ⟨p, hp⟩ : ∃ p : Int, p = n - 1 - log10Pow2 (e + 63) := ⟨_, rfl⟩
  have hp1 : -347 ≤ p := by omega
  have hp2 : p ≤ 347 := by omega
  have h5 : log10Pow2 (e + 63) = (e + 63) * 78913 / 262144 := rfl
  have hs : e + log2Pow10 p ≤ -3 ∧ -66 ≤ e + log2Pow10 p := by
    unfold log2Pow10
    omega
  have hlt := scale_lt hn1 hn2 (by omega) hm2 hp he1 he2 (by omega) hp2 hs.1
  have hfix : fixedN m e n = if 4 * 10 ^ n - 2 ≤ scaleN m e p then (roundN (divN (scaleN m e p) 10), -(p - 1)) else (roundN (scaleN m e p), -p) := by rw [hp]; rfl
  obtain ⟨s, hsd⟩ : ∃ s : Nat, s = (-(e + log2Pow10 p + 3)).toNat := ⟨_, rfl⟩
  have hs64 : s < 64 := by omega
  have hsc : scaleN m e p = uscaleN m (tabHi p) (tabLo p) s := by rw [hsd]; rfl
  obtain ⟨i, hi⟩ : ∃ i : Nat, i = (p + 348).toNat := ⟨_, rfl⟩
  have hth : tabHi p = (rowAt i).1 := by rw [hi]; rfl
  have htl : tabLo p = (rowAt i).2 := by rw [hi]; rfl
  obtain ⟨g1, g2, g3⟩ := hi_ge p (by omega) hp2
  have gh := hh_ge m p (by omega) (by omega) hp2
  obtain ⟨u, hu⟩ : ∃ u, scaleN m e p = u := ⟨_, rfl⟩
  rw [hu] at hlt hfix hsc
  rw [hfix]
  have hn10 : (10 : Nat) ^ n ≤ 1000000000000000000 := by
    have := Nat.pow_le_pow_right (n := 10) (by omega) hn2
    exact this
  have hn11 : (1 : Nat) ≤ 10 ^ n := Nat.pow_pos (by omega)
  have c10 := E.u10 n (by omega)
  obtain ⟨Z, hZ⟩ : ∃ Z, 10 ^ n = Z := ⟨_, rfl⟩
  rw [hZ] at hn10 hn11 hlt c10
  rw [hZ]
  have h7 := env_seven E
  -- callees
  have k83 : ∀ W : World, Calls Tryz.prog 83 #[.int .i64 (e + 63)] W fun en w' => en = .returned (.int .i64 ((n : Int) - 1 - p)) ∧ w' = W := fun W => by
    have := log10_walk (e + 63) W (by omega) (by omega)
    rw [show log10Pow2 (e + 63) = (n : Int) - 1 - p from by omega] at this; exact this
  obtain ⟨lp, hlp⟩ : ∃ lp, log2Pow10 p = lp := ⟨_, rfl⟩
  have k113 : ∀ W : World, Calls Tryz.prog 113 #[.int .i64 p] W fun en w' => en = .returned (.int .i64 lp) ∧ w' = W := fun W => by
    have := log2_walk p W (by omega) (by omega)
    rw [hlp] at this; exact this
  have k112 : ∀ W : World, Below w.heap.size w W → W.heap[w.heap.size]? = some (.cells #[.int .u64 0, .int .u64 0, .int .i64 0] 141 (0, 0)) →
      Calls Tryz.prog 112 #[.pointer (some ⟨w.heap.size, 0, none⟩), .int .i64 e, .int .i64 p, .int .i64 lp] W fun en w' => en = .returned (.tuple #[]) ∧ ScAt w' w.heap.size (tabHi p) (tabLo p) s ∧ Below w.heap.size w w' := fun W hb hh => by
    refine (prescale_walk w.heap.size i e p lp s _ _ _ W (E.later hb) hh (by omega) (by omega) (by omega) (by omega) (by rw [← hlp]; unfold log2Pow10; omega) (by rw [← hlp]; unfold log2Pow10; omega) h7 (by rw [← hlp]; omega)).mono ?_
    rintro en w' ⟨r1, r2, r3, r4⟩
    exact ⟨r1, by rw [hth, htl]; exact r2, hb.trans r4⟩
  have k114 : ∀ W : World, ScAt W w.heap.size (tabHi p) (tabLo p) s → Below w.heap.size w W → Calls Tryz.prog 114 #[.int .u64 m, .pointer (some ⟨w.heap.size, 0, none⟩)] W fun en w' => en = .returned (.int .u64 u) ∧ Below w.heap.size w w' := fun W h hb => by
    have := uscale_walk w.heap.size m (tabHi p) (tabLo p) s W h hm2 g2 g3 hs64 gh
    rw [← hsc] at this
    refine this.mono ?_
    rintro en w' ⟨r1, k, rfl⟩
    exact ⟨r1, below_drewN hb k⟩
  have K83 : Hid _ := k83
  have K113 : Hid _ := k113
  have K112 : Hid _ := k112
  have K114 : Hid _ := k114
  have HE : Hid (Env w) := E
  have hpb : -400 ≤ p ∧ p ≤ 400 := by omega
  clear k83 k113 k112 k114 hsc hu hfix hp hl hs hth htl hsd hi g1 g2 g3 gh hZ E hlp h5 hs64
  have hpp : (n : Int) - 1 - ((n : Int) - 1 - p) = p := by omega
  by_cases hbig : 4 * Z - 2 ≤ u
  · rw [if_pos hbig]
    have hb' : decide (((4 * Z - 2 : Nat) : Int) ≤ (u : Int)) = true := by simp; omega
    have hdl : divN u 10 < 9223372036854775808 := by have := (div_bounds u).2; omega
    go_enter Tryz.func84, Tryz.ntmps84
    go_upto_region 5 with (first
      | (go_at_call 83; refine (K83.out _).mono ?_; rintro en w' ⟨rfl, hw⟩; subst hw)
      | (go_at_call 113; refine (K113.out _).mono ?_; rintro en w' ⟨rfl, hw⟩; subst hw)
      | (go_at_call 112; refine (K112.out _ ((Below.refl _ _).alloc (Nat.le_refl _) _) (heap_new _ _)).mono ?_; rintro en w1 ⟨rfl, hS, hB⟩; have S1 : Hid _ := hS; have B1 : Hid _ := hB; clear hS hB)
      | (go_at_call 114; refine (K114.out _ S1.out B1.out).mono ?_; rintro en w2 ⟨rfl, hB⟩; have B2 : Hid _ := hB; clear hB))
    have c10' := cell_later B2.out c10
    go_wp2_with (first
      | (go_at_call 119; refine (unmin_walk Z _ hn11 hn10).mono ?_; rintro en w' ⟨rfl, hw⟩; subst hw)
      | (go_at_call 120; refine (div_walk u _ (by omega)).mono ?_; rintro en w3 ⟨rfl, k, hw⟩; subst hw)
      | (go_at_call 118; refine (round_walk (divN u 10) _ hdl).mono ?_; rintro en w' ⟨rfl, hw⟩; subst hw))
    go_ret2
    exact ⟨rfl, below_drewN B2.out _⟩
  · rw [if_neg hbig]
    have hb' : decide (((4 * Z - 2 : Nat) : Int) ≤ (u : Int)) = false := by simp; omega
    go_enter Tryz.func84, Tryz.ntmps84
    go_upto_region 5 with (first
      | (go_at_call 83; refine (K83.out _).mono ?_; rintro en w' ⟨rfl, hw⟩; subst hw)
      | (go_at_call 113; refine (K113.out _).mono ?_; rintro en w' ⟨rfl, hw⟩; subst hw)
      | (go_at_call 112; refine (K112.out _ ((Below.refl _ _).alloc (Nat.le_refl _) _) (heap_new _ _)).mono ?_; rintro en w1 ⟨rfl, hS, hB⟩; have S1 : Hid _ := hS; have B1 : Hid _ := hB; clear hS hB)
      | (go_at_call 114; refine (K114.out _ S1.out B1.out).mono ?_; rintro en w2 ⟨rfl, hB⟩; have B2 : Hid _ := hB; clear hB))
    have c10' := cell_later B2.out c10
    go_wp2_with (first
      | (go_at_call 119; refine (unmin_walk Z _ hn11 hn10).mono ?_; rintro en w' ⟨rfl, hw⟩; subst hw)
      | (go_at_call 118; refine (round_walk u _ (by omega)).mono ?_; rintro en w' ⟨rfl, hw⟩; subst hw))
    go_ret2
    exact ⟨rfl, B2.out⟩
end Go.Proofs.Qxb6606417aGreatDoor
