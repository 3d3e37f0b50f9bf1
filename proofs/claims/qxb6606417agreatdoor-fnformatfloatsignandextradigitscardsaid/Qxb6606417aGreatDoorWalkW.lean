import Derived.Test.Qxb6606417aGreatDoorWalkT
import Derived.Test.Qxb6606417aGreatDoorNum14
namespace Go.Proofs.Qxb6606417aGreatDoor
open Go.RowKit Go.PlainAid
set_option linter.unusedVariables false
set_option linter.unusedSimpArgs false
set_option maxRecDepth 100000

def tabD (t : Nat) : Nat := Ieee.double.nearest false (10 ^ t) 0
def tabS (t : Nat) : Nat := Ieee.single.nearest false (10 ^ t) 0
def tabCk (f : Ieee.Format) (tab : Nat → Nat) (t : Nat) : Bool :=
  decide (0 < tab t) && decide (tab t < f.infRung) && decide (sigW f.fractionBits (tab t) * 2 ^ (plW f.fractionBits f.leastPlace (tab t) + 2000).toNat = 10 ^ t * 2 ^ 2000) && decide (-60 ≤ plW f.fractionBits f.leastPlace (tab t)) && decide (plW f.fractionBits f.leastPlace (tab t) ≤ 30)
def tabCks (f : Ieee.Format) (tab : Nat → Nat) : Nat → Bool
  | 0 => true
  | n + 1 => tabCk f tab n && tabCks f tab n
theorem tabCks_at (f : Ieee.Format) (tab : Nat → Nat) : ∀ n i, tabCks f tab n = true → i < n → tabCk f tab i = true
  | 0, i, _, hi => absurd hi (Nat.not_lt_zero _)
  | n + 1, i, h, hi => by
    simp only [tabCks, Bool.and_eq_true] at h
    by_cases e : i = n
    · rw [e]; exact h.1
    · exact tabCks_at f tab n i h.2 (by omega)
set_option exponentiation.threshold 3000 in
theorem tabOk_of {f : Ieee.Format} {tab : Nat → Nat} {t : Nat} (h : tabCk f tab t = true) : TabOk f tab t := by
  simp only [tabCk, Bool.and_eq_true, decide_eq_true_eq] at h
  obtain ⟨⟨⟨⟨h1, h2⟩, h3⟩, h4⟩, h5⟩ := h
  refine ⟨h1, h2, ?_, h4, h5⟩
  unfold wv bv A
  rw [h3]
  rfl
theorem tabD_ck : tabCks Ieee.double tabD 23 = true := by kernel_rfl
theorem tabS_ck : tabCks Ieee.single tabS 11 = true := by kernel_rfl
theorem tabD_ok (t : Nat) (h : t ≤ 22) : TabOk Ieee.double tabD t := tabOk_of (tabCks_at _ _ 23 t tabD_ck (by omega))
theorem tabS_ok (t : Nat) (h : t ≤ 10) : TabOk Ieee.single tabS t := tabOk_of (tabCks_at _ _ 11 t tabS_ck (by omega))
structure EnvF (w : World) : Prop where
  env : Env w
  d : ∃ b o c, w.cell? ⟨16, 0, none⟩ = some (.slice (some ⟨b, o, none⟩) 23 c) ∧ ∀ t, t ≤ 22 → w.cell? ⟨b, o + t, none⟩ = some (.float .f64 (tabD t))
  s : ∃ b o c, w.cell? ⟨14, 0, none⟩ = some (.slice (some ⟨b, o, none⟩) 11 c) ∧ ∀ t, t ≤ 10 → w.cell? ⟨b, o + t, none⟩ = some (.float .f32 (tabS t))
theorem EnvF.later {w w' : World} (E : EnvF w) (h : Below w.heap.size w w') : EnvF w' where
  env := E.env.later h
  d := by obtain ⟨b, o, c, h1, h2⟩ := E.d; exact ⟨b, o, c, cell_later h h1, fun t ht => cell_later h (h2 t ht)⟩
  s := by obtain ⟨b, o, c, h1, h2⟩ := E.s; exact ⟨b, o, c, cell_later h h1, fun t ht => cell_later h (h2 t ht)⟩
theorem read_negS {v : Nat} (h : v < 2139095040) : Ieee.single.read (2147483648 + v) = .number true (sigW 23 v) (plW 23 (-149) v) := by
  have hsw : Ieee.single.signWeight = 2147483648 := by decide
  have hinf : Ieee.single.infRung = 2139095040 := by decide
  unfold Ieee.Format.read
  rw [hsw]
  have e1 : (2147483648 + v) / 2147483648 % 2 = 1 := by omega
  have e2 : (2147483648 + v) % 2147483648 = v := by omega
  simp only [e1, e2]
  have hb : Ieee.single.binade = 2 ^ 23 := rfl
  have hl : Ieee.single.leastPlace = -149 := by decide
  rw [hb, hl, hinf]
  unfold sigW plW
  by_cases h5 : v < 2 ^ 23
  · simp [h5]
  · simp [h5, h]
theorem order_not_lt (a b : Nat) (i j : Int) : (Ieee.Datum.order (.number false a i) (.number true b j) == some Ordering.lt) = false := by
  simp only [Ieee.Datum.order, Ieee.signed]
  generalize a <<< (i - min i j).toNat = x
  generalize b <<< (j - min i j).toNat = y
  simp
  rw [Int.compare_eq_lt]
  omega
theorem not_ltD (z : Nat) (hz : z < 9218868437227405312) : (Ieee.double.order z 14054727237768577024 == some Ordering.lt) = false := by
  unfold Ieee.Format.order
  rw [read_pos hz, show (14054727237768577024 : Nat) = 9223372036854775808 + 4831355200913801216 from rfl, read_neg (by omega)]
  exact order_not_lt _ _ _ _
theorem not_ltS (z : Nat) (hz : z < 2139095040) : (Ieee.single.order z (2147483648 + 1259902592) == some Ordering.lt) = false := by
  unfold Ieee.Format.order
  rw [read_word okS (show z < Ieee.single.infRung from hz), read_negS (by omega)]
  exact order_not_lt _ _ _ _

set_option maxHeartbeats 2000000 in
theorem exact64_walk (d : Nat) (p : Int) (w : World) (EF : EnvF w) (hd : 0 < d) (hd2 : d < 18446744073709551616) (hp1 : -345 ≤ p) (hp2 : p ≤ 310) :
    Calls Tryz.prog 153 #[.int .u64 d, .int .i64 p, .bool false] w fun en w' => w' = w ∧ ∃ g, en = .returned (.tuple #[.float .f64 g, .bool (exactW Ieee.double 15 22 4831355200913801216 tabD d p).isSome]) ∧ ∀ r, exactW Ieee.double 15 22 4831355200913801216 tabD d p = some r → g = r := by
  obtain ⟨b, o, c, hb, hc⟩ := EF.d
  have hfi := EF.env.f64i
  have HC : Hid (∀ t, t ≤ 22 → w.cell? ⟨b, o + t, none⟩ = some (.float .f64 (tabD t))) := hc
  clear hc EF
  have e52 : (2 : Nat) ^ Ieee.double.fractionBits = 4503599627370496 := by decide
  obtain ⟨ex, hex⟩ : ∃ ex, exactW Ieee.double 15 22 4831355200913801216 tabD d p = ex := ⟨_, rfl⟩
  rw [hex]
  unfold exactW at hex
  rw [e52] at hex
  by_cases h1 : d / 4503599627370496 ≠ 0
  · rw [if_pos h1] at hex
    subst hex
    obtain ⟨q, hq⟩ : ∃ q, d / 4503599627370496 = q := ⟨_, rfl⟩
    have hq' : (d : Int) / 4503599627370496 = (q : Int) := by omega
    have hne : ((q : Int) != 0) = true := by simp; omega
    clear h1 hq
    go_enter Tryz.func153, Tryz.ntmps153
    go_wp2_with fail
    go_ret2
    first | exact ⟨rfl, _, rfl, fun r h => by cases h⟩ | exact ⟨rfl, _, rfl⟩
  rw [if_neg h1] at hex
  have hdl : d < 4503599627370496 := by omega
  have hq' : (d : Int) / 4503599627370496 = 0 := by omega
  obtain ⟨x0, x1, x2, x3, x4⟩ := step_word okD hd (by rw [e52]; exact hdl)
  have hx : floatOfInt .f64 (d : Int) = Ieee.double.nearest false d 0 := by
    show Ieee.double.write (.number (decide ((d : Int) < 0)) (d : Int).natAbs 0) = _
    rw [decide_eq_false (by omega), Int.natAbs_natCast]
    rfl
  have hstep := fun j (hj : j ≤ 22) => step_mul okD hd (by rw [e52]; exact hdl) (tabD_ok j hj) (by decide) (by decide)
  have hdiv := fun j (hj : j ≤ 22) => div_word okD x1 (tabD_ok j hj).lt (tabD_ok j hj).pos _ rfl
  generalize Ieee.double.nearest false d 0 = x at *
  clear h1 x2 x3 x4 e52
  have hxl : x < 9218868437227405312 := x1
  by_cases h2 : p = 0
  · rw [if_pos h2] at hex
    subst hex
    subst h2
    clear hstep hdiv
    go_enter Tryz.func153, Tryz.ntmps153
    go_wp2_with fail
    go_ret2
    exact ⟨rfl, _, rfl, fun r h => by cases h; rfl⟩
  rw [if_neg h2] at hex
  have hp0 : (p == 0) = false := by simp; exact h2
  by_cases h3 : 0 < p ∧ p ≤ ((15 : Nat) : Int) + ((22 : Nat) : Int)
  · rw [if_pos h3] at hex
    have g1 : decide (p > 0) = true := decide_eq_true h3.1
    have g2 : decide (p ≤ 37) = true := decide_eq_true (by omega)
    by_cases h4 : ((22 : Nat) : Int) < p
    · rw [if_pos h4] at hex
      have g3 : decide (p > 22) = true := decide_eq_true h4
      obtain ⟨j, hj⟩ : ∃ j : Nat, (p - ((22 : Nat) : Int)).toNat = j := ⟨_, rfl⟩
      have hjp : p - 22 = (j : Int) := by omega
      have hjt : j ≤ 22 := by omega
      rw [hj] at hex
      obtain ⟨z, hz, z0, z1⟩ := hstep j hjt
      rw [hz, Option.getD_some] at hex
      have cj := HC.out j hjt
      have ct := HC.out 22 (by omega)
      have tl := (tabD_ok 22 (by omega)).lt
      obtain ⟨yj, hyj⟩ : ∃ y, tabD j = y := ⟨_, rfl⟩
      obtain ⟨yt, hyt⟩ : ∃ y, tabD 22 = y := ⟨_, rfl⟩
      rw [hyj] at cj hz
      rw [hyt] at ct hex tl
      have hm : ∀ t W, (binOp .mul t (.float .f64 x) (.float .f64 yj)).run Tryz.prog W = .ok (.float .f64 z) W := fun t W => run_float_arith W .mul t .f64 x yj z hz
      have hlt := not_ltD z z1
      by_cases h5 : gtW Ieee.double z 4831355200913801216 = true
      · rw [if_pos h5] at hex
        subst hex
        have g5 : (Ieee.double.order z 4831355200913801216 == some Ordering.gt) = true := h5
        have g5' : (FloatKind.f64.format.order z 4831355200913801216 == some Ordering.gt) = true := h5
        clear hstep hdiv h5 hz hj hyj hyt hlt h2 h3 h4
        go_enter Tryz.func153, Tryz.ntmps153
        go_wp2_with (simp only [hm])
        go_ret2
        first | exact ⟨rfl, _, rfl, fun r h => by cases h⟩ | exact ⟨rfl, _, rfl⟩
      · rw [if_neg h5] at hex
        have g5 : (Ieee.double.order z 4831355200913801216 == some Ordering.gt) = false := by simpa [gtW] using h5
        have g5' : (FloatKind.f64.format.order z 4831355200913801216 == some Ordering.gt) = false := g5
        have g6 : (Ieee.double.order z 14054727237768577024 == some Ordering.lt) = false := hlt
        have g6' : (FloatKind.f64.format.order z 14054727237768577024 == some Ordering.lt) = false := hlt
        have hmw := mul_word okD z1 tl
        rw [hmw] at hex
        generalize Ieee.double.nearest false (sigW Ieee.double.fractionBits z * sigW Ieee.double.fractionBits yt) (plW Ieee.double.fractionBits Ieee.double.leastPlace z + plW Ieee.double.fractionBits Ieee.double.leastPlace yt) = r at hex hmw
        subst hex
        have hm2 : ∀ t W, (binOp .mul t (.float .f64 z) (.float .f64 yt)).run Tryz.prog W = .ok (.float .f64 r) W := fun t W => run_float_arith W .mul t .f64 z yt r hmw
        clear hstep hdiv h5 hz hj hyj hyt hlt hmw h2 h3 h4
        go_enter Tryz.func153, Tryz.ntmps153
        go_wp2_with (first | simp only [hm] | simp only [hm2])
        go_ret2
        exact ⟨rfl, _, rfl, fun r h => by cases h; rfl⟩
    · rw [if_neg h4] at hex
      have g3 : decide (p > 22) = false := decide_eq_false h4
      have hjt : p.toNat ≤ 22 := by omega
      have cj := HC.out p.toNat hjt
      obtain ⟨z, hz, z0, z1⟩ := hstep p.toNat hjt
      rw [hz] at hex
      obtain ⟨yj, hyj⟩ : ∃ y, tabD p.toNat = y := ⟨_, rfl⟩
      rw [hyj] at cj hz
      have hm : ∀ t W, (binOp .mul t (.float .f64 x) (.float .f64 yj)).run Tryz.prog W = .ok (.float .f64 z) W := fun t W => run_float_arith W .mul t .f64 x yj z hz
      have hlt := not_ltD x x1
      by_cases h5 : gtW Ieee.double x 4831355200913801216 = true
      · rw [if_pos h5] at hex
        subst hex
        have g5 : (Ieee.double.order x 4831355200913801216 == some Ordering.gt) = true := h5
        have g5' : (FloatKind.f64.format.order x 4831355200913801216 == some Ordering.gt) = true := h5
        have hpt : p ≤ 22 := by omega
        have hp1' : 1 ≤ p := by omega
        clear hstep hdiv h5 hz hyj hlt h2 h3 h4
        go_enter Tryz.func153, Tryz.ntmps153
        go_wp2_with (simp only [hm])
        go_ret2
        first | exact ⟨rfl, _, rfl, fun r h => by cases h⟩ | exact ⟨rfl, _, rfl⟩
      · rw [if_neg h5] at hex
        subst hex
        have g5 : (Ieee.double.order x 4831355200913801216 == some Ordering.gt) = false := by simpa [gtW] using h5
        have g5' : (FloatKind.f64.format.order x 4831355200913801216 == some Ordering.gt) = false := g5
        have g6 : (Ieee.double.order x 14054727237768577024 == some Ordering.lt) = false := hlt
        have g6' : (FloatKind.f64.format.order x 14054727237768577024 == some Ordering.lt) = false := hlt
        have hpt : p ≤ 22 := by omega
        have hp1' : 1 ≤ p := by omega
        clear hstep hdiv h5 hz hyj hlt h2 h3 h4
        go_enter Tryz.func153, Tryz.ntmps153
        go_wp2_with (simp only [hm])
        go_ret2
        exact ⟨rfl, _, rfl, fun r h => by cases h; rfl⟩
  rw [if_neg h3] at hex
  by_cases h6 : p < 0 ∧ -((22 : Nat) : Int) ≤ p
  · rw [if_pos h6] at hex
    have g1 : decide (p > 0) = false := decide_eq_false (by omega)
    have g2 : decide (p < 0) = true := decide_eq_true h6.1
    have g3 : decide (p ≥ -22) = true := decide_eq_true (by omega)
    obtain ⟨j, hj⟩ : ∃ j : Nat, (-p).toNat = j := ⟨_, rfl⟩
    have hjt : j ≤ 22 := by omega
    have hjp : -p = (j : Int) := by omega
    rw [hj] at hex
    have cj := HC.out j hjt
    have hz := hdiv j hjt
    rw [hz] at hex
    obtain ⟨yj, hyj⟩ : ∃ y, tabD j = y := ⟨_, rfl⟩
    rw [hyj] at cj
    obtain ⟨z, hzz⟩ : ∃ z, Ieee.double.div x yj = some z := ⟨_, by rw [← hyj]; exact hz⟩
    rw [← hz, hyj, hzz] at hex
    have hm : ∀ t W, (binOp .quo t (.float .f64 x) (.float .f64 yj)).run Tryz.prog W = .ok (.float .f64 z) W := fun t W => run_float_arith W .quo t .f64 x yj z hzz
    subst hex
    clear hstep hdiv hz hzz hyj hj h2 h3 h6
    go_enter Tryz.func153, Tryz.ntmps153
    go_wp2_with (simp only [hm])
    go_ret2
    exact ⟨rfl, _, rfl, fun r h => by cases h; rfl⟩
  · rw [if_neg h6] at hex
    subst hex
    clear hstep hdiv
    by_cases hn : p < 0
    · have g1 : decide (p > 0) = false := decide_eq_false (by omega)
      have g2 : decide (p < 0) = true := decide_eq_true hn
      have g3 : decide (p ≥ -22) = false := decide_eq_false (by omega)
      clear h2 h3 h6
      go_enter Tryz.func153, Tryz.ntmps153
      go_wp2_with fail
      go_ret2
      first | exact ⟨rfl, _, rfl, fun r h => by cases h⟩ | exact ⟨rfl, _, rfl⟩
    · have g1 : decide (p > 0) = true := decide_eq_true (by omega)
      have g4 : decide (p ≤ 37) = false := decide_eq_false (by omega)
      have g2 : decide (p < 0) = false := decide_eq_false hn
      clear h2 h3 h6
      go_enter Tryz.func153, Tryz.ntmps153
      go_wp2_with fail
      go_ret2
      first | exact ⟨rfl, _, rfl, fun r h => by cases h⟩ | exact ⟨rfl, _, rfl⟩

set_option maxHeartbeats 2000000 in
theorem exact32_walk (d : Nat) (p : Int) (w : World) (EF : EnvF w) (hd : 0 < d) (hd2 : d < 18446744073709551616) (hp1 : -345 ≤ p) (hp2 : p ≤ 310) :
    Calls Tryz.prog 148 #[.int .u64 d, .int .i64 p, .bool false] w fun en w' => w' = w ∧ ∃ g, en = .returned (.tuple #[.float .f32 g, .bool (exactW Ieee.single 7 10 1259902592 tabS d p).isSome]) ∧ ∀ r, exactW Ieee.single 7 10 1259902592 tabS d p = some r → g = r := by
  obtain ⟨b, o, c, hb, hc⟩ := EF.s
  have hfi := EF.env.f64i
  have HC : Hid (∀ t, t ≤ 10 → w.cell? ⟨b, o + t, none⟩ = some (.float .f32 (tabS t))) := hc
  clear hc EF
  have e52 : (2 : Nat) ^ Ieee.single.fractionBits = 8388608 := by decide
  obtain ⟨ex, hex⟩ : ∃ ex, exactW Ieee.single 7 10 1259902592 tabS d p = ex := ⟨_, rfl⟩
  rw [hex]
  unfold exactW at hex
  rw [e52] at hex
  by_cases h1 : d / 8388608 ≠ 0
  · rw [if_pos h1] at hex
    subst hex
    obtain ⟨q, hq⟩ : ∃ q, d / 8388608 = q := ⟨_, rfl⟩
    have hq' : (d : Int) / 8388608 = (q : Int) := by omega
    have hne : ((q : Int) != 0) = true := by simp; omega
    clear h1 hq
    go_enter Tryz.func148, Tryz.ntmps148
    go_wp2_with fail
    go_ret2
    first | exact ⟨rfl, _, rfl, fun r h => by cases h⟩ | exact ⟨rfl, _, rfl⟩
  rw [if_neg h1] at hex
  have hdl : d < 8388608 := by omega
  have hq' : (d : Int) / 8388608 = 0 := by omega
  obtain ⟨x0, x1, x2, x3, x4⟩ := step_word okS hd (by rw [e52]; exact hdl)
  have hx : floatOfInt .f32 (d : Int) = Ieee.single.nearest false d 0 := by
    show Ieee.single.write (.number (decide ((d : Int) < 0)) (d : Int).natAbs 0) = _
    rw [decide_eq_false (by omega), Int.natAbs_natCast]
    rfl
  have hstep := fun j (hj : j ≤ 10) => step_mul okS hd (by rw [e52]; exact hdl) (tabS_ok j hj) (by decide) (by decide)
  have hdiv := fun j (hj : j ≤ 10) => div_word okS x1 (tabS_ok j hj).lt (tabS_ok j hj).pos _ rfl
  generalize Ieee.single.nearest false d 0 = x at *
  clear h1 x2 x3 x4 e52
  have hxl : x < 2139095040 := x1
  by_cases h2 : p = 0
  · rw [if_pos h2] at hex
    subst hex
    subst h2
    clear hstep hdiv
    go_enter Tryz.func148, Tryz.ntmps148
    go_wp2_with fail
    go_ret2
    exact ⟨rfl, _, rfl, fun r h => by cases h; rfl⟩
  rw [if_neg h2] at hex
  have hp0 : (p == 0) = false := by simp; exact h2
  by_cases h3 : 0 < p ∧ p ≤ ((7 : Nat) : Int) + ((10 : Nat) : Int)
  · rw [if_pos h3] at hex
    have g1 : decide (p > 0) = true := decide_eq_true h3.1
    have g2 : decide (p ≤ 17) = true := decide_eq_true (by omega)
    by_cases h4 : ((10 : Nat) : Int) < p
    · rw [if_pos h4] at hex
      have g3 : decide (p > 10) = true := decide_eq_true h4
      obtain ⟨j, hj⟩ : ∃ j : Nat, (p - ((10 : Nat) : Int)).toNat = j := ⟨_, rfl⟩
      have hjp : p - 10 = (j : Int) := by omega
      have hjt : j ≤ 10 := by omega
      rw [hj] at hex
      obtain ⟨z, hz, z0, z1⟩ := hstep j hjt
      rw [hz, Option.getD_some] at hex
      have cj := HC.out j hjt
      have ct := HC.out 10 (by omega)
      have tl := (tabS_ok 10 (by omega)).lt
      obtain ⟨yj, hyj⟩ : ∃ y, tabS j = y := ⟨_, rfl⟩
      obtain ⟨yt, hyt⟩ : ∃ y, tabS 10 = y := ⟨_, rfl⟩
      rw [hyj] at cj hz
      rw [hyt] at ct hex tl
      have hm : ∀ t W, (binOp .mul t (.float .f32 x) (.float .f32 yj)).run Tryz.prog W = .ok (.float .f32 z) W := fun t W => run_float_arith W .mul t .f32 x yj z hz
      have hlt := not_ltS z z1
      by_cases h5 : gtW Ieee.single z 1259902592 = true
      · rw [if_pos h5] at hex
        subst hex
        have g5 : (Ieee.single.order z 1259902592 == some Ordering.gt) = true := h5
        have g5' : (FloatKind.f32.format.order z 1259902592 == some Ordering.gt) = true := h5
        clear hstep hdiv h5 hz hj hyj hyt hlt h2 h3 h4
        go_enter Tryz.func148, Tryz.ntmps148
        go_wp2_with (simp only [hm])
        go_ret2
        first | exact ⟨rfl, _, rfl, fun r h => by cases h⟩ | exact ⟨rfl, _, rfl⟩
      · rw [if_neg h5] at hex
        have g5 : (Ieee.single.order z 1259902592 == some Ordering.gt) = false := by simpa [gtW] using h5
        have g5' : (FloatKind.f32.format.order z 1259902592 == some Ordering.gt) = false := g5
        have g6 : (Ieee.single.order z 3407386240 == some Ordering.lt) = false := hlt
        have g6' : (FloatKind.f32.format.order z 3407386240 == some Ordering.lt) = false := hlt
        have hmw := mul_word okS z1 tl
        rw [hmw] at hex
        generalize Ieee.single.nearest false (sigW Ieee.single.fractionBits z * sigW Ieee.single.fractionBits yt) (plW Ieee.single.fractionBits Ieee.single.leastPlace z + plW Ieee.single.fractionBits Ieee.single.leastPlace yt) = r at hex hmw
        subst hex
        have hm2 : ∀ t W, (binOp .mul t (.float .f32 z) (.float .f32 yt)).run Tryz.prog W = .ok (.float .f32 r) W := fun t W => run_float_arith W .mul t .f32 z yt r hmw
        clear hstep hdiv h5 hz hj hyj hyt hlt hmw h2 h3 h4
        go_enter Tryz.func148, Tryz.ntmps148
        go_wp2_with (first | simp only [hm] | simp only [hm2])
        go_ret2
        exact ⟨rfl, _, rfl, fun r h => by cases h; rfl⟩
    · rw [if_neg h4] at hex
      have g3 : decide (p > 10) = false := decide_eq_false h4
      have hjt : p.toNat ≤ 10 := by omega
      have cj := HC.out p.toNat hjt
      obtain ⟨z, hz, z0, z1⟩ := hstep p.toNat hjt
      rw [hz] at hex
      obtain ⟨yj, hyj⟩ : ∃ y, tabS p.toNat = y := ⟨_, rfl⟩
      rw [hyj] at cj hz
      have hm : ∀ t W, (binOp .mul t (.float .f32 x) (.float .f32 yj)).run Tryz.prog W = .ok (.float .f32 z) W := fun t W => run_float_arith W .mul t .f32 x yj z hz
      have hlt := not_ltS x x1
      by_cases h5 : gtW Ieee.single x 1259902592 = true
      · rw [if_pos h5] at hex
        subst hex
        have g5 : (Ieee.single.order x 1259902592 == some Ordering.gt) = true := h5
        have g5' : (FloatKind.f32.format.order x 1259902592 == some Ordering.gt) = true := h5
        have hpt : p ≤ 10 := by omega
        have hp1' : 1 ≤ p := by omega
        clear hstep hdiv h5 hz hyj hlt h2 h3 h4
        go_enter Tryz.func148, Tryz.ntmps148
        go_wp2_with (simp only [hm])
        go_ret2
        first | exact ⟨rfl, _, rfl, fun r h => by cases h⟩ | exact ⟨rfl, _, rfl⟩
      · rw [if_neg h5] at hex
        subst hex
        have g5 : (Ieee.single.order x 1259902592 == some Ordering.gt) = false := by simpa [gtW] using h5
        have g5' : (FloatKind.f32.format.order x 1259902592 == some Ordering.gt) = false := g5
        have g6 : (Ieee.single.order x 3407386240 == some Ordering.lt) = false := hlt
        have g6' : (FloatKind.f32.format.order x 3407386240 == some Ordering.lt) = false := hlt
        have hpt : p ≤ 10 := by omega
        have hp1' : 1 ≤ p := by omega
        clear hstep hdiv h5 hz hyj hlt h2 h3 h4
        go_enter Tryz.func148, Tryz.ntmps148
        go_wp2_with (simp only [hm])
        go_ret2
        exact ⟨rfl, _, rfl, fun r h => by cases h; rfl⟩
  rw [if_neg h3] at hex
  by_cases h6 : p < 0 ∧ -((10 : Nat) : Int) ≤ p
  · rw [if_pos h6] at hex
    have g1 : decide (p > 0) = false := decide_eq_false (by omega)
    have g2 : decide (p < 0) = true := decide_eq_true h6.1
    have g3 : decide (p ≥ -10) = true := decide_eq_true (by omega)
    obtain ⟨j, hj⟩ : ∃ j : Nat, (-p).toNat = j := ⟨_, rfl⟩
    have hjt : j ≤ 10 := by omega
    have hjp : -p = (j : Int) := by omega
    rw [hj] at hex
    have cj := HC.out j hjt
    have hz := hdiv j hjt
    rw [hz] at hex
    obtain ⟨yj, hyj⟩ : ∃ y, tabS j = y := ⟨_, rfl⟩
    rw [hyj] at cj
    obtain ⟨z, hzz⟩ : ∃ z, Ieee.single.div x yj = some z := ⟨_, by rw [← hyj]; exact hz⟩
    rw [← hz, hyj, hzz] at hex
    have hm : ∀ t W, (binOp .quo t (.float .f32 x) (.float .f32 yj)).run Tryz.prog W = .ok (.float .f32 z) W := fun t W => run_float_arith W .quo t .f32 x yj z hzz
    subst hex
    clear hstep hdiv hz hzz hyj hj h2 h3 h6
    go_enter Tryz.func148, Tryz.ntmps148
    go_wp2_with (simp only [hm])
    go_ret2
    exact ⟨rfl, _, rfl, fun r h => by cases h; rfl⟩
  · rw [if_neg h6] at hex
    subst hex
    clear hstep hdiv
    by_cases hn : p < 0
    · have g1 : decide (p > 0) = false := decide_eq_false (by omega)
      have g2 : decide (p < 0) = true := decide_eq_true hn
      have g3 : decide (p ≥ -10) = false := decide_eq_false (by omega)
      clear h2 h3 h6
      go_enter Tryz.func148, Tryz.ntmps148
      go_wp2_with fail
      go_ret2
      first | exact ⟨rfl, _, rfl, fun r h => by cases h⟩ | exact ⟨rfl, _, rfl⟩
    · have g1 : decide (p > 0) = true := decide_eq_true (by omega)
      have g4 : decide (p ≤ 17) = false := decide_eq_false (by omega)
      have g2 : decide (p < 0) = false := decide_eq_false hn
      clear h2 h3 h6
      go_enter Tryz.func148, Tryz.ntmps148
      go_wp2_with fail
      go_ret2
      first | exact ⟨rfl, _, rfl, fun r h => by cases h⟩ | exact ⟨rfl, _, rfl⟩
end Go.Proofs.Qxb6606417aGreatDoor
