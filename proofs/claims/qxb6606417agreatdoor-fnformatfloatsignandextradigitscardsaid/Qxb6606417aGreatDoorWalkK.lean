import Derived.Test.Qxb6606417aGreatDoorWalkJ
namespace Go.Proofs.Qxb6606417aGreatDoor
open Go.RowKit Go.PlainAid
set_option linter.unusedVariables false
set_option linter.unusedSimpArgs false
set_option maxRecDepth 100000

theorem tz_lt (n : Nat) (h0 : 0 < n) (h : n < 18446744073709551616) : tz n ≤ 63 := by
  have h1 := tz_spec n n (Nat.le_refl _)
  rcases Nat.lt_or_ge 63 (tz n) with h2 | h2
  · exfalso
    have h3 : 0 < n / 2 ^ tz n := by
      rcases Nat.eq_zero_or_pos (n / 2 ^ tz n) with h4 | h4
      · rw [h4] at h1; omega
      · exact h4
    have h5 : 2 ^ 64 ≤ 2 ^ tz n := Nat.pow_le_pow_right (by omega) h2
    have h6 : 2 ^ tz n ≤ n / 2 ^ tz n * 2 ^ tz n := Nat.le_mul_of_pos_left _ h3
    have h64 : (2 : Nat) ^ 64 = 18446744073709551616 := by decide
    omega
  · exact h2
theorem int_beq (a b : Nat) : ((a : Int) == (b : Int)) = (a == b) := by
  rw [Bool.eq_iff_iff]; simp; omega
theorem div5_step (t n : Nat) (h : n % 5 = 0) : div5 (t + 1) n = div5 t (n / 5) := by rw [div5, if_pos h]
theorem div5_stop (t n : Nat) (h : n % 5 ≠ 0) : div5 (t + 1) n = none := by rw [div5, if_neg h]

set_option maxHeartbeats 2000000 in
theorem equals_walk (d : Nat) (k : Int) (sig : Nat) (e : Int) (w : World) (E : Env w) (hd : 0 < d) (hd2 : d < 18446744073709551616) (hs : 0 < sig) (hs2 : sig < 18446744073709551616) (hk1 : -3000 ≤ k) (hk2 : k ≤ 3000) (he1 : -3000 ≤ e) (he2 : e ≤ 3000) :
    Calls Tryz.prog 39 #[.agg #[.int .u64 d, .int .i64 k], .int .u64 sig, .int .i64 e] w fun en w' => en = .returned (.bool (equalsN d k sig e)) ∧ Below w.heap.size w w' := by
  have z1 := tz_lt d hd hd2
  have z2 := tz_lt sig hs hs2
  have k65 : ∀ W : World, Below w.heap.size w W → Calls Tryz.prog 65 #[.int .u64 sig] W fun en w' => en = .returned (.int .i64 (tz sig : Nat)) ∧ w' = W := fun W h => tz_walk sig W (E.later h) hs hs2
  have k65' : ∀ W : World, Below w.heap.size w W → Calls Tryz.prog 65 #[.int .u64 d] W fun en w' => en = .returned (.int .i64 (tz d : Nat)) ∧ w' = W := fun W h => tz_walk d W (E.later h) hd hd2
  have heq : equalsN d k sig e = if (tz d : Int) + k ≠ e + tz sig then false else if 0 ≤ k then (match div5 k.toNat (sig / 2 ^ tz sig) with | some o => d / 2 ^ tz d == o | none => false) else (match div5 (-k).toNat (d / 2 ^ tz d) with | some r => r == sig / 2 ^ tz sig | none => false) := rfl
  rw [heq]
  clear heq
  generalize tz d = a at *
  generalize tz sig = b at *
  have e1 : (2 : Int) ^ a = ((2 ^ a : Nat) : Int) := by push_cast; rfl
  have e2 : (2 : Int) ^ b = ((2 ^ b : Nat) : Int) := by push_cast; rfl
  obtain ⟨A2, hA2⟩ : ∃ x, 2 ^ a = x := ⟨_, rfl⟩
  obtain ⟨B2, hB2⟩ : ∃ x, 2 ^ b = x := ⟨_, rfl⟩
  rw [hA2] at e1 ⊢
  rw [hB2] at e2 ⊢
  have hA0 : 0 < A2 := by rw [← hA2]; exact Nat.pow_pos (by omega)
  have hB0 : 0 < B2 := by rw [← hB2]; exact Nat.pow_pos (by omega)
  clear hA2 hB2
  have q1 : (d : Int) / (A2 : Int) = ((d / A2 : Nat) : Int) := by push_cast; rfl
  have q2 : (sig : Int) / (B2 : Int) = ((sig / B2 : Nat) : Int) := by push_cast; rfl
  have hr1 : d / A2 < 18446744073709551616 := Nat.lt_of_le_of_lt (Nat.div_le_self _ _) hd2
  have hr2 : sig / B2 < 18446744073709551616 := Nat.lt_of_le_of_lt (Nat.div_le_self _ _) hs2
  obtain ⟨R, hR⟩ : ∃ x, d / A2 = x := ⟨_, rfl⟩
  obtain ⟨O, hO⟩ : ∃ x, sig / B2 = x := ⟨_, rfl⟩
  rw [hR] at q1 hr1 ⊢
  rw [hO] at q2 hr2 ⊢
  have K1 : Hid _ := k65
  have K2 : Hid _ := k65'
  clear k65 k65' hR hO E
  have hB1 : Below w.heap.size w (w.alloc (.cells #[.int .u64 d, .int .i64 k] 31)) := (Below.refl _ _).alloc (Nat.le_refl _) _
  have HB1 : Hid _ := hB1
  clear hB1
  by_cases hne : (a : Int) + k ≠ e + b
  · rw [if_pos hne]
    have hne' : ((a : Int) + k != e + b) = true := by simp; exact hne
    go_enter Tryz.func39, Tryz.ntmps39
    go_upto_region 2 with (go_at_call 65; refine (K1.out _ HB1.out).mono ?_; rintro en w' ⟨rfl, hw⟩; subst hw)
    go_wp2_with (go_at_call 65; refine (K2.out _ HB1.out).mono ?_; rintro en w' ⟨rfl, hw⟩; subst hw)
    go_ret
    exact ⟨rfl, HB1.out⟩
  rw [if_neg hne]
  have hne' : ((a : Int) + k != e + b) = false := by simpa using hne
  clear hne
  by_cases h0 : 0 ≤ k
  · rw [if_pos h0]
    obtain ⟨t0, rfl⟩ : ∃ t : Nat, k = t := ⟨k.toNat, by omega⟩
    rw [Int.toNat_natCast]
    obtain ⟨res, hres⟩ : ∃ res, res = (match div5 t0 O with | some o => R == o | none => false) := ⟨_, rfl⟩
    rw [← hres]
    have HR : Hid (res = (match div5 t0 O with | some o => R == o | none => false)) := hres
    clear hres
    go_enter Tryz.func39, Tryz.ntmps39
    go_upto_region 2 with (go_at_call 65; refine (K1.out _ HB1.out).mono ?_; rintro en w' ⟨rfl, hw⟩; subst hw)
    go_upto_region 8 with (go_at_call 65; refine (K2.out _ HB1.out).mono ?_; rintro en w' ⟨rfl, hw⟩; subst hw)
    go_loop [8, 11] (fun vo vt => ∃ t o : Nat, t ≤ t0 ∧ o < 18446744073709551616 ∧ vo = .int .u64 o ∧ vt = .int .i64 t ∧ div5 t0 O = div5 t o) (fun _ vt => (intOf vt).toNat)
    case atStart => exact ⟨t0, O, Nat.le_refl _, hr2, rfl, rfl, rfl⟩
    case round =>
      obtain ⟨t, o, ht, ho, rfl, rfl, hdv⟩ := hrel
      have HD : Hid (div5 t0 O = div5 t o) := hdv
      clear hdv
      cases t with
      | zero =>
        go_upto_region 14 with fail
        go_loop [10, 12] (fun vo vt => vo = .int .u64 R ∧ vt = .int .i64 t0) (fun _ vt => 0)
        case atStart => exact ⟨rfl, rfl⟩
        case round =>
          obtain ⟨rfl, rfl⟩ := hrel
          have hlt : decide ((t0 : Int) < 0) = false := by simp
          go_wp2_with fail
          go_ret
          refine ⟨?_, HB1.out⟩
          rw [HR.out, HD.out]
          show Ending.returned (.bool ((R : Int) == (o : Int))) = .returned (.bool (R == o))
          rw [int_beq]
      | succ t =>
        by_cases h5 : o % 5 = 0
        · have h5' : ((o : Int) % 5 != 0) = false := by simp; omega
          have htm : (o : Int).tmod 5 = (o : Int) % 5 := Int.tmod_eq_emod_of_nonneg (by omega)
          have htd : (o : Int).tdiv 5 = ((o / 5 : Nat) : Int) := by rw [Int.tdiv_eq_ediv_of_nonneg (by omega)]; omega
          go_wp2_with fail
          refine ⟨⟨t, o / 5, by omega, by omega, ?_, ?_, ?_⟩, ?_⟩
          all_goals go_light
          · go_num
          · show Value.int _ _ = Value.int _ _
            congr 1
            try omega
          · rw [HD.out, div5_step t o h5]
          · simp [intOf]
        · have h5' : ((o : Int) % 5 != 0) = true := by simp; omega
          have htm : (o : Int).tmod 5 = (o : Int) % 5 := Int.tmod_eq_emod_of_nonneg (by omega)
          go_wp2_with fail
          go_ret
          refine ⟨?_, HB1.out⟩
          rw [HR.out, HD.out, div5_stop t o h5]
          rfl
  · rw [if_neg h0]
    obtain ⟨t0, rfl⟩ : ∃ t : Nat, k = -(t : Int) := ⟨(-k).toNat, by omega⟩
    rw [show (-(-(t0 : Int))).toNat = t0 from by omega]
    obtain ⟨res, hres⟩ : ∃ res, res = (match div5 t0 R with | some r => r == O | none => false) := ⟨_, rfl⟩
    rw [← hres]
    have HR : Hid (res = (match div5 t0 R with | some r => r == O | none => false)) := hres
    clear hres
    have hgt0 : decide (-(t0 : Int) > 0) = false := by simp
    go_enter Tryz.func39, Tryz.ntmps39
    go_upto_region 2 with (go_at_call 65; refine (K1.out _ HB1.out).mono ?_; rintro en w' ⟨rfl, hw⟩; subst hw)
    go_upto_region 8 with (go_at_call 65; refine (K2.out _ HB1.out).mono ?_; rintro en w' ⟨rfl, hw⟩; subst hw)
    go_loop [8, 11] (fun vo vt => vo = .int .u64 O ∧ vt = .int .i64 (-(t0 : Int))) (fun _ vt => 0)
    case atStart => exact ⟨rfl, rfl⟩
    case round =>
      obtain ⟨rfl, rfl⟩ := hrel
      go_upto_region 14 with fail
      go_loop [10, 12] (fun vo vt => ∃ t o : Nat, t ≤ t0 ∧ o < 18446744073709551616 ∧ vo = .int .u64 o ∧ vt = .int .i64 (-(t : Int)) ∧ div5 t0 R = div5 t o) (fun _ vt => (-(intOf vt)).toNat)
      case atStart => exact ⟨t0, R, Nat.le_refl _, hr1, rfl, rfl, rfl⟩
      case round =>
        obtain ⟨t, o, ht, ho, rfl, rfl, hdv⟩ := hrel
        have HD : Hid (div5 t0 R = div5 t o) := hdv
        clear hdv
        cases t with
        | zero =>
          go_wp2_with fail
          go_ret
          refine ⟨?_, HB1.out⟩
          rw [HR.out, HD.out]
          show Ending.returned (.bool ((o : Int) == (O : Int))) = .returned (.bool (o == O))
          rw [int_beq]
        | succ t =>
          have hlt : decide (-((t + 1 : Nat) : Int) < 0) = true := decide_eq_true (by omega)
          by_cases h5 : o % 5 = 0
          · have h5' : ((o : Int) % 5 != 0) = false := by simp; omega
            have htm : (o : Int).tmod 5 = (o : Int) % 5 := Int.tmod_eq_emod_of_nonneg (by omega)
            have htd : (o : Int).tdiv 5 = ((o / 5 : Nat) : Int) := by rw [Int.tdiv_eq_ediv_of_nonneg (by omega)]; omega
            go_wp2_with fail
            refine ⟨⟨t, o / 5, by omega, by omega, ?_, ?_, ?_⟩, ?_⟩
            all_goals go_light
            · go_num
            · show Value.int _ _ = Value.int _ _
              congr 1
              try omega
            · rw [HD.out, div5_step t o h5]
            · simp [intOf]; omega
          · have h5' : ((o : Int) % 5 != 0) = true := by simp; omega
            have htm : (o : Int).tmod 5 = (o : Int) % 5 := Int.tmod_eq_emod_of_nonneg (by omega)
            go_wp2_with fail
            go_ret
            refine ⟨?_, HB1.out⟩
            rw [HR.out, HD.out, div5_stop t o h5]
            rfl
end Go.Proofs.Qxb6606417aGreatDoor
