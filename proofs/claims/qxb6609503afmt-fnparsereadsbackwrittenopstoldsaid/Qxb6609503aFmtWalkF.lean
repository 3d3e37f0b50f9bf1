import Derived.Test.Qxb6609503aFmtWalkE
namespace Go.Proofs.Qxb6609503aFmt
open Go.RowKit Go.PlainAid
set_option linter.unusedVariables false

theorem dec_lenD : ∀ (d n : Nat), n < 10 ^ (d + 1) → (Pl.dec n).length ≤ d + 1
  | 0, n, h => by rw [dec_base (by simpa using h)]; simp
  | d + 1, n, h => by
    by_cases h10 : n < 10
    · rw [dec_base h10]; simp
    · rw [dec_step h10]
      have := dec_lenD d (n / 10) (Nat.div_lt_of_lt_mul (by rw [Nat.mul_comm]; exact h))
      simp; omega
theorem dec_len20 (n : Nat) (h : n < 18446744073709551616) : (Pl.dec n).length ≤ 20 := dec_lenD 19 n (by omega)

/-- The bytes l lie in block g from offset o on. -/
def SlB (w : World) (g o : Nat) (l : List UInt8) : Prop := ∀ j, j < l.length → w.cell? ⟨g, o + j, none⟩ = some (byteV (l.getD j 0))
theorem SlB.dr {w w' : World} {g o : Nat} {l : List UInt8} (h : SlB w g o l) (d : Dr w w') : SlB w' g o l := by
  obtain ⟨n, rfl⟩ := d
  exact h
theorem results_tmp4 {fn : Func} {t u v x : Tmp} (h : fn.results = #[.tmp t, .tmp u, .tmp v, .tmp x]) (tmps : Array Value) (P : Program) (w : World) :
    (results fn tmps).run P w = .ok (.tuple #[tmps.getD t undef, tmps.getD u undef, tmps.getD v undef, tmps.getD x undef]) w := by
  simp [results, h]
def ScanPost (g cap : Nat) (o : Pl.Op3) (w : World) (e : Ending) (w' : World) : Prop :=
  ∃ v, e = .returned (.tuple #[.int .u8 o.k, .int .u64 o.n, v, .string ⟨#[]⟩]) ∧ Dr w w' ∧ (o.k ≤ 2 → v = .slice (some ⟨g, (Pl.dec o.n).length + 2, none⟩) o.it.length (cap - ((Pl.dec o.n).length + 2)))

set_option maxHeartbeats 2000000 in
set_option maxRecDepth 100000 in
theorem scan34 (w : World) (g cap : Nat) (o : Pl.Op3) (ho : Pl.OpOk o) (hs : SlB w g 0 (Pl.tokOf o)) (hk : 3 ≤ o.k) :
    Calls Tryf.prog 21 #[.slice (some ⟨g, 0, none⟩) (Pl.tokOf o).length cap] w fun e w' => ScanPost g cap o w e w' := by
  have hL := tok_len o
  rw [if_neg (by omega), Nat.add_zero] at hL
  rw [hL]
  obtain ⟨d, hd⟩ : ∃ d, (Pl.dec o.n).length = d := ⟨_, rfl⟩
  have hd0 : 0 < d := by rw [← hd]; exact dec_pos _
  have hd20 : d ≤ 20 := by rw [← hd]; exact dec_len20 o.n (by have := ho.n64; omega)
  have hn0 := ho.n0
  have hn64 := ho.n64
  have c0 : w.cell? ⟨g, 0, none⟩ = some (byteV (Pl.letter o.k)) := by
    have := hs 0 (by rw [hL]; omega)
    rwa [tok_zero] at this
  have hp0 := pv_zero o.n
  have HS : Hid (SlB w g 0 (Pl.tokOf o)) := hs
  have HLn : Hid ((Pl.tokOf o).length = 1 + (Pl.dec o.n).length) := hL
  have HD : Hid ((Pl.dec o.n).length = d) := hd
  have hk34 : o.k = 3 ∨ o.k = 4 := by have := ho.k4; omega
  rw [hd]
  clear hs hL hd
  rcases hk34 with h3 | h3
  all_goals rw [h3] at c0
  case inl =>
    replace c0 : w.cell? ⟨g, 0, none⟩ = some (.int .u8 67) := c0
    go_enter Tryf.func21, Tryf.ntmps21
    go_wp2_with fail
    go_loop [7, 8] (fun i x => ∃ p : Nat, p ≤ d ∧ i = .int .i64 (p + 1) ∧ x = .int .u64 (pv o.n p)) (fun i _ => d + 1 - (intOf i).toNat)
    case atStart => exact ⟨0, Nat.zero_le _, rfl, by rw [hp0]; rfl⟩
    case round =>
      obtain ⟨p, hp, rfl, rfl⟩ := hrel
      by_cases hlt : p < d
      · obtain ⟨r, hr, hb, hv, hle⟩ := pv_step (n := o.n) (p := p) (by rw [HD.out]; exact hlt)
        have cp : w.cell? ⟨g, p + 1, none⟩ = some (.int .u8 (48 + (r : Int))) := by
          have := HS.out (p + 1) (by rw [HLn.out, HD.out]; omega)
          rw [tok_dec o (by rw [HD.out]; exact hlt), hb, digit_val hr, Nat.zero_add] at this
          exact this
        have HV : Hid (pv o.n (p + 1) = 10 * pv o.n p + r) := hv
        rw [hv] at hle
        clear hb hv
        generalize pv o.n p = m at *
        go_wp2_with fail
        exact ⟨⟨p + 1, hlt, by go_num, by rw [HV.out]; go_num⟩, by simp [intOf]; omega⟩
      · obtain rfl : p = d := by omega
        have hpe : pv o.n p = o.n := by rw [← HD.out]; exact pv_end _
        rw [hpe]
        generalize hnn : o.n = nn at *
        have e1 : ((p : Int) + 1 == 1) = false := beq_eq_false_iff_ne.2 (by omega)
        have e2 : ((nn : Int) == 0) = false := beq_eq_false_iff_ne.2 (by omega)
        go_wp2_with fail
        (try simp only [Exit.inBlock, Exit.then])
        refine bodyPost_ret (results_tmp4 rfl _ _ _) rfl ?_
        exact ⟨_, by rw [h3, hnn]; rfl, Dr.refl _, fun h => by omega⟩
  case inr =>
    replace c0 : w.cell? ⟨g, 0, none⟩ = some (.int .u8 65) := c0
    go_enter Tryf.func21, Tryf.ntmps21
    go_wp2_with fail
    go_loop [7, 8] (fun i x => ∃ p : Nat, p ≤ d ∧ i = .int .i64 (p + 1) ∧ x = .int .u64 (pv o.n p)) (fun i _ => d + 1 - (intOf i).toNat)
    case atStart => exact ⟨0, Nat.zero_le _, rfl, by rw [hp0]; rfl⟩
    case round =>
      obtain ⟨p, hp, rfl, rfl⟩ := hrel
      by_cases hlt : p < d
      · obtain ⟨r, hr, hb, hv, hle⟩ := pv_step (n := o.n) (p := p) (by rw [HD.out]; exact hlt)
        have cp : w.cell? ⟨g, p + 1, none⟩ = some (.int .u8 (48 + (r : Int))) := by
          have := HS.out (p + 1) (by rw [HLn.out, HD.out]; omega)
          rw [tok_dec o (by rw [HD.out]; exact hlt), hb, digit_val hr, Nat.zero_add] at this
          exact this
        have HV : Hid (pv o.n (p + 1) = 10 * pv o.n p + r) := hv
        rw [hv] at hle
        clear hb hv
        generalize pv o.n p = m at *
        go_wp2_with fail
        exact ⟨⟨p + 1, hlt, by go_num, by rw [HV.out]; go_num⟩, by simp [intOf]; omega⟩
      · obtain rfl : p = d := by omega
        have hpe : pv o.n p = o.n := by rw [← HD.out]; exact pv_end _
        rw [hpe]
        generalize hnn : o.n = nn at *
        have e1 : ((p : Int) + 1 == 1) = false := beq_eq_false_iff_ne.2 (by omega)
        have e2 : ((nn : Int) == 0) = false := beq_eq_false_iff_ne.2 (by omega)
        go_wp2_with fail
        (try simp only [Exit.inBlock, Exit.then])
        refine bodyPost_ret (results_tmp4 rfl _ _ _) rfl ?_
        exact ⟨_, by rw [h3, hnn]; rfl, Dr.refl _, fun h => by omega⟩
set_option maxHeartbeats 4000000 in
set_option maxRecDepth 100000 in
theorem scan12 (w : World) (g cap : Nat) (o : Pl.Op3) (ho : Pl.OpOk o) (hs : SlB w g 0 (Pl.tokOf o)) (hk : o.k ≤ 2) (hc : (Pl.tokOf o).length ≤ cap) (hI : o.it.length ≤ 1048576) :
    Calls Tryf.prog 21 #[.slice (some ⟨g, 0, none⟩) (Pl.tokOf o).length cap] w fun e w' => ScanPost g cap o w e w' := by
  have hL := tok_len o
  rw [if_pos hk] at hL
  obtain ⟨hit, hib⟩ := ho.it hk
  obtain ⟨d, hd⟩ : ∃ d, (Pl.dec o.n).length = d := ⟨_, rfl⟩
  obtain ⟨I, hi⟩ : ∃ I, o.it.length = I := ⟨_, rfl⟩
  have hI0 : 0 < I := by rw [← hi]; exact List.length_pos_iff.2 hit
  have hd0 : 0 < d := by rw [← hd]; exact dec_pos _
  have hd20 : d ≤ 20 := by rw [← hd]; exact dec_len20 o.n (by have := ho.n64; omega)
  have hn0 := ho.n0
  have hn64 := ho.n64
  have c0 : w.cell? ⟨g, 0, none⟩ = some (byteV (Pl.letter o.k)) := by
    have := hs 0 (by rw [hL]; omega)
    rwa [tok_zero] at this
  have c1 : w.cell? ⟨g, d + 1, none⟩ = some (.int .u8 40) := by
    have := hs (d + 1) (by rw [hL, hd, hi]; omega)
    rw [← hd, tok_open o hk, hd, Nat.zero_add] at this
    exact this
  have ci : ∀ q, q < I → w.cell? ⟨g, d + 2 + q, none⟩ = some (.int .u8 (o.it.getD q 0).toNat) := by
    intro q hq
    have := hs (d + 2 + q) (by rw [hL, hd, hi]; omega)
    rw [← hd, tok_item o hk (by rw [hi]; exact hq), hd, Nat.zero_add] at this
    exact this
  have c2 : w.cell? ⟨g, d + 2 + I, none⟩ = some (.int .u8 41) := by
    have := hs (d + 2 + I) (by rw [hL, hd, hi]; omega)
    rw [← hd, ← hi, tok_close o hk, hd, hi, Nat.zero_add] at this
    exact this
  have CI : Hid (∀ q, q < I → w.cell? ⟨g, d + 2 + q, none⟩ = some (.int .u8 (o.it.getD q 0).toNat)) := ci
  have HIB : Hid (∀ q, q < I → Pl.itemB (o.it.getD q 0) = true) := fun q hq => hib _ (by
    have hq' : q < o.it.length := by rw [hi]; exact hq
    simp [List.getD_eq_getElem?_getD, hq'])
  have hp0 := pv_zero o.n
  have HS : Hid (SlB w g 0 (Pl.tokOf o)) := hs
  rw [hd, hi] at hL
  obtain ⟨L, hLL⟩ : ∃ L, (Pl.tokOf o).length = L := ⟨_, rfl⟩
  have HLn : Hid ((Pl.tokOf o).length = 1 + (Pl.dec o.n).length + (o.it.length + 2)) := by show _ = _; rw [hL, hd, hi]
  rw [hLL] at hL hc ⊢
  have HD : Hid ((Pl.dec o.n).length = d) := hd
  have HI : Hid (o.it.length = I) := hi
  rw [hi] at hI
  have hk12 : o.k = 1 ∨ o.k = 2 := by have := ho.k1; omega
  have hL1 : d + 2 + I < L := by omega
  have hL2 : L ≤ d + 2 + I + 1 := by omega
  have hL3 : d + 3 < L := by omega
  clear hs hd hi hit hib ci hLL hL
  rcases hk12 with h3 | h3
  all_goals rw [h3] at c0
  case inl =>
    replace c0 : w.cell? ⟨g, 0, none⟩ = some (.int .u8 82) := c0
    go_enter Tryf.func21, Tryf.ntmps21
    go_wp2_with fail
    go_loop [7, 8] (fun i x => ∃ p : Nat, p ≤ d ∧ i = .int .i64 (p + 1) ∧ x = .int .u64 (pv o.n p)) (fun i _ => d + 1 - (intOf i).toNat)
    case atStart => exact ⟨0, Nat.zero_le _, rfl, by rw [hp0]; rfl⟩
    case round =>
      obtain ⟨p, hp, rfl, rfl⟩ := hrel
      by_cases hlt : p < d
      · obtain ⟨r, hr, hb, hv, hle⟩ := pv_step (n := o.n) (p := p) (by rw [HD.out]; exact hlt)
        have cp : w.cell? ⟨g, p + 1, none⟩ = some (.int .u8 (48 + (r : Int))) := by
          have := HS.out (p + 1) (by rw [HLn.out, HD.out]; omega)
          rw [tok_dec o (by rw [HD.out]; exact hlt), hb, digit_val hr, Nat.zero_add] at this
          exact this
        have HV : Hid (pv o.n (p + 1) = 10 * pv o.n p + r) := hv
        rw [hv] at hle
        clear hb hv
        generalize pv o.n p = m at *
        go_wp2_with fail
        exact ⟨⟨p + 1, hlt, by go_num, by rw [HV.out]; go_num⟩, by simp [intOf]; omega⟩
      · obtain rfl : p = d := by omega
        have hpe : pv o.n p = o.n := by rw [← HD.out]; exact pv_end _
        rw [hpe]
        generalize hnn : o.n = nn at *
        have e1 : ((p : Int) + 1 == 1) = false := beq_eq_false_iff_ne.2 (by omega)
        have e2 : ((nn : Int) == 0) = false := beq_eq_false_iff_ne.2 (by omega)
        have e3 : ((p : Int) + 1 == L) = false := beq_eq_false_iff_ne.2 (by omega)
        go_wp2_with fail
        go_loop [7] (fun i => ∃ q : Nat, q ≤ I ∧ i = .int .i64 (p + 2 + q)) (fun i => p + 2 + I - (intOf i).toNat)
        case atStart => exact ⟨0, Nat.zero_le _, by go_num⟩
        case round =>
          obtain ⟨q, hq, rfl⟩ := hrel
          by_cases hlt2 : q < I
          · have cq := CI.out q hlt2
            have hib := HIB.out q hlt2
            generalize hy : o.it.getD q 0 = y at cq hib
            go_wp2_with fail
            refine (isItem_any y _).mono ?_
            rintro e w' ⟨rfl, hw⟩
            subst hw
            rw [hib]
            go_wp2_with fail
            exact ⟨⟨q + 1, hlt2, by go_num⟩, by simp [intOf]; omega⟩
          · obtain rfl : q = I := by omega
            go_wp2_with fail
            refine (isItem_any 41 _).mono ?_
            rintro e w' ⟨rfl, hw⟩
            subst hw
            rw [show Pl.itemB 41 = false from rfl]
            have hcap : p + 2 < cap := by omega
            have e4 : ((p : Int) + 2 + q == L) = false := beq_eq_false_iff_ne.2 (by omega)
            have e5 : ((p : Int) + 2 + q == p + 2) = false := beq_eq_false_iff_ne.2 (by omega)
            go_wp2_with fail
            go_quiet (fail)
            go_wp2_with fail
            (try simp only [Exit.inBlock, Exit.then])
            refine bodyPost_ret (results_tmp4 rfl _ _ _) rfl ?_
            refine ⟨_, by rw [h3, hnn]; rfl, ⟨_, rfl⟩, fun _ => ?_⟩
            rw [hnn, HD.out, HI.out]
            show Value.slice _ _ _ = _
            rw [show p + 2 + q - (p + 1 + 1) = q by omega]
  case inr =>
    replace c0 : w.cell? ⟨g, 0, none⟩ = some (.int .u8 87) := c0
    go_enter Tryf.func21, Tryf.ntmps21
    go_wp2_with fail
    go_loop [7, 8] (fun i x => ∃ p : Nat, p ≤ d ∧ i = .int .i64 (p + 1) ∧ x = .int .u64 (pv o.n p)) (fun i _ => d + 1 - (intOf i).toNat)
    case atStart => exact ⟨0, Nat.zero_le _, rfl, by rw [hp0]; rfl⟩
    case round =>
      obtain ⟨p, hp, rfl, rfl⟩ := hrel
      by_cases hlt : p < d
      · obtain ⟨r, hr, hb, hv, hle⟩ := pv_step (n := o.n) (p := p) (by rw [HD.out]; exact hlt)
        have cp : w.cell? ⟨g, p + 1, none⟩ = some (.int .u8 (48 + (r : Int))) := by
          have := HS.out (p + 1) (by rw [HLn.out, HD.out]; omega)
          rw [tok_dec o (by rw [HD.out]; exact hlt), hb, digit_val hr, Nat.zero_add] at this
          exact this
        have HV : Hid (pv o.n (p + 1) = 10 * pv o.n p + r) := hv
        rw [hv] at hle
        clear hb hv
        generalize pv o.n p = m at *
        go_wp2_with fail
        exact ⟨⟨p + 1, hlt, by go_num, by rw [HV.out]; go_num⟩, by simp [intOf]; omega⟩
      · obtain rfl : p = d := by omega
        have hpe : pv o.n p = o.n := by rw [← HD.out]; exact pv_end _
        rw [hpe]
        generalize hnn : o.n = nn at *
        have e1 : ((p : Int) + 1 == 1) = false := beq_eq_false_iff_ne.2 (by omega)
        have e2 : ((nn : Int) == 0) = false := beq_eq_false_iff_ne.2 (by omega)
        have e3 : ((p : Int) + 1 == L) = false := beq_eq_false_iff_ne.2 (by omega)
        go_wp2_with fail
        go_loop [7] (fun i => ∃ q : Nat, q ≤ I ∧ i = .int .i64 (p + 2 + q)) (fun i => p + 2 + I - (intOf i).toNat)
        case atStart => exact ⟨0, Nat.zero_le _, by go_num⟩
        case round =>
          obtain ⟨q, hq, rfl⟩ := hrel
          by_cases hlt2 : q < I
          · have cq := CI.out q hlt2
            have hib := HIB.out q hlt2
            generalize hy : o.it.getD q 0 = y at cq hib
            go_wp2_with fail
            refine (isItem_any y _).mono ?_
            rintro e w' ⟨rfl, hw⟩
            subst hw
            rw [hib]
            go_wp2_with fail
            exact ⟨⟨q + 1, hlt2, by go_num⟩, by simp [intOf]; omega⟩
          · obtain rfl : q = I := by omega
            go_wp2_with fail
            refine (isItem_any 41 _).mono ?_
            rintro e w' ⟨rfl, hw⟩
            subst hw
            rw [show Pl.itemB 41 = false from rfl]
            have hcap : p + 2 < cap := by omega
            have e4 : ((p : Int) + 2 + q == L) = false := beq_eq_false_iff_ne.2 (by omega)
            have e5 : ((p : Int) + 2 + q == p + 2) = false := beq_eq_false_iff_ne.2 (by omega)
            go_wp2_with fail
            go_quiet (fail)
            go_wp2_with fail
            (try simp only [Exit.inBlock, Exit.then])
            refine bodyPost_ret (results_tmp4 rfl _ _ _) rfl ?_
            refine ⟨_, by rw [h3, hnn]; rfl, ⟨_, rfl⟩, fun _ => ?_⟩
            rw [hnn, HD.out, HI.out]
            show Value.slice _ _ _ = _
            rw [show p + 2 + q - (p + 1 + 1) = q by omega]
end Go.Proofs.Qxb6609503aFmt
