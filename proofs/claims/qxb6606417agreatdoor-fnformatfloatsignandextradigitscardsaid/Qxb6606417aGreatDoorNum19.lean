import Derived.Test.Qxb6606417aGreatDoorNum18
import Derived.Laws.NewFold
import Derived.Below
namespace Go.Proofs.Qxb6606417aGreatDoor
open Go.RowKit
set_option linter.unusedVariables false
set_option linter.unusedSimpArgs false
set_option maxRecDepth 100000

/-- Narrowing a double that is too great: some word is drawn. -/
theorem run_narrow_drawn {V : Nat} (hV0 : 0 < V) (hV : V < 9218868437227405312) (hn : floatToFloatBits .f64 V .f32 = none) (W : World) : ∃ r, r < 4294967296 ∧ (convert 22 23 (.float .f64 V)).run Tryz.prog W = .ok (.float .f32 r) W.drew := by
  refine ⟨(W.tape W.drawn (.floatToFloat V)) % 2 ^ 32, Nat.mod_lt _ (by decide), ?_⟩
  unfold floatToFloatBits at hn
  rw [if_neg (by decide), rd64 hV] at hn
  simp only at hn
  split at hn
  · rename_i hi
    simp [convert, run_underlying Tryz.underlying22, run_underlying Tryz.underlying23, Conv.floatToFloat, rd64 hV, hi, Question.forced, Question.cut]
  · cases hn
/-- Widening a NaN: some NaN is drawn. -/
theorem run_widen_nan {r : Nat} {s : Bool} {p : Nat} (hr : FloatKind.f32.decode r = .nan s p) (W : World) : ∃ u, (∀ V, (Ieee.double.order u V == some Ordering.eq) = false) ∧ (convert 23 22 (.float .f32 r)).run Tryz.prog W = .ok (.float .f64 u) W.drew := by
  have hk : ∀ t : Nat, (∀ V, (Ieee.double.order ((t % 2) * 2 ^ 63 + 0x7ff0000000000000 + 1 + (t / 2) % (2 ^ 52 - 1)) V == some Ordering.eq) = false) := fun t V => by
    have h1 : (t / 2) % (2 ^ 52 - 1) < 4503599627370495 := Nat.mod_lt _ (by decide)
    have e63 : (2 : Nat) ^ 63 = 9223372036854775808 := by decide
    rw [e63]
    generalize (t / 2) % (2 ^ 52 - 1) = m at h1
    unfold Ieee.Format.order
    rcases Nat.mod_two_eq_zero_or_one t with h2 | h2
    · rw [h2]
      obtain ⟨p, hp⟩ := read_nan (v := 0 * 9223372036854775808 + 0x7ff0000000000000 + 1 + m) (by omega) (by omega)
      rw [hp]
      simp [Ieee.Datum.order]
    · rw [h2]
      obtain ⟨p, hp⟩ := read_nnan (v := 0x7ff0000000000000 + 1 + m) (by omega) (by omega)
      rw [show 1 * 9223372036854775808 + 0x7ff0000000000000 + 1 + m = 9223372036854775808 + (0x7ff0000000000000 + 1 + m) by omega, hp]
      simp [Ieee.Datum.order]
  refine ⟨_, hk (W.tape W.drawn (.nanConv .f64 r)), ?_⟩
  simp [convert, run_underlying Tryz.underlying22, run_underlying Tryz.underlying23, Conv.floatToFloat, hr, Question.forced, Question.cut]
theorem read_negS' {v : Nat} (h : v < 2139095040) : Ieee.single.read (2147483648 + v) = .number true (sigW 23 v) (plW 23 (-149) v) := by
  unfold Ieee.Format.read
  rw [swS]
  have e1 : (2147483648 + v) / 2147483648 % 2 = 1 := by omega
  have e2 : (2147483648 + v) % 2147483648 = v := by omega
  simp only [e1, e2]
  have hb : Ieee.single.binade = 2 ^ 23 := rfl
  have hl : Ieee.single.leastPlace = -149 := by decide
  rw [hb, hl, infS]
  unfold sigW plW
  by_cases h5 : v < 2 ^ 23
  · simp [h5]
  · simp [h5, h]
theorem near_neg' (m : Nat) (e : Int) : Ieee.double.nearest true m e = 9223372036854775808 + Ieee.double.nearest false m e := by
  have hw : ∀ x, Ieee.double.word false x = x := fun x => by
    unfold Ieee.Format.word
    simp
  unfold Ieee.Format.nearest
  split
  · rw [hw]; exact word_neg 0
  · rw [hw]; exact word_neg _
/-- The widening, whatever the word. -/
theorem run_widen {V r : Nat} (h0 : 0 < V) (hV : V < 9218868437227405312) (hr : r < 4294967296) (hn : floatToFloatBits .f64 V .f32 = none) (W : World) : ∃ u W', (W' = W ∨ W' = W.drew) ∧ (Ieee.double.order u V == some Ordering.eq) = false ∧ (convert 23 22 (.float .f32 r)).run Tryz.prog W = .ok (.float .f64 u) W' := by
  cases hu : floatToFloatBits .f32 r .f64 with
  | some u => exact ⟨u, W, .inl rfl, wid_ne h0 hV hr hn hu, run_convert_float_float _ 23 22 .f32 .f64 r u (by rw [Tryz.underlying23]; rfl) Tryz.underlying22 hu⟩
  | none =>
    have hnan : ∃ s p, FloatKind.f32.decode r = .nan s p := by
      cases hd : FloatKind.f32.decode r with
      | nan s p => exact ⟨s, p, rfl⟩
      | infinity s =>
        exfalso
        unfold floatToFloatBits at hu
        rw [if_neg (by decide), hd] at hu
        cases hu
      | number s m e =>
        exfalso
        by_cases hs : r < 2147483648
        · have hl : r < 2139095040 := by
            refine Classical.byContradiction fun hc => ?_
            by_cases he : r = 2139095040
            · subst he; revert hd; show Ieee.single.read 2139095040 = _ → _
              have : Ieee.single.read 2139095040 = .infinity false := by decide
              rw [this]; intro h; cases h
            · obtain ⟨p, hp⟩ := read_snan (s := r) (by omega) hs
              rw [hp] at hd; cases hd
          by_cases hz : r = 0
          · subst hz
            have e : floatToFloatBits .f32 0 .f64 = some 0 := by decide
            rw [e] at hu; cases hu
          · obtain ⟨u', hu', _⟩ := wid_value (r := r) (by omega) hl
            rw [hu'] at hu; cases hu
        · obtain ⟨s', rfl⟩ : ∃ s', r = 2147483648 + s' := ⟨r - 2147483648, by omega⟩
          have hl : s' < 2139095040 := by
            refine Classical.byContradiction fun hc => ?_
            revert hd
            show Ieee.single.read (2147483648 + s') = _ → _
            unfold Ieee.Format.read
            rw [swS, infS, binS]
            have e2 : (2147483648 + s') % 2147483648 = s' := by omega
            simp only [e2]
            rw [if_neg (by omega), if_neg (by omega)]
            split <;> intro h <;> cases h
          by_cases hz : s' = 0
          · subst hz
            have e : floatToFloatBits .f32 2147483648 .f64 = some 9223372036854775808 := by decide
            rw [e] at hu; cases hu
          · obtain ⟨u', hu', _, hlt, _⟩ := wid_value (r := s') (by omega) hl
            have hp : floatToFloatBits .f32 s' .f64 = some (Ieee.double.nearest false (sigW 23 s') (plW 23 (-149) s')) := by
              unfold floatToFloatBits at hu' ⊢
              rw [if_neg (by decide), rd32 hl] at hu' ⊢
              simp only at hu' ⊢
              split at hu'
              · cases hu'
              · rename_i hi
                rw [if_neg hi]
                rfl
            rw [hp] at hu'
            obtain rfl := Option.some.inj hu'
            have hdec : FloatKind.f32.decode (2147483648 + s') = .number true (sigW 23 s') (plW 23 (-149) s') := read_negS' hl
            have hrd : ∃ a b, FloatKind.f64.decode (Ieee.double.nearest true (sigW 23 s') (plW 23 (-149) s')) = .number true a b := by
              rw [near_neg']
              exact ⟨_, _, read_neg hlt⟩
            obtain ⟨a, b, hrd⟩ := hrd
            unfold floatToFloatBits at hu
            rw [if_neg (by decide), hdec] at hu
            have hu2 : (if (FloatKind.f64.decode (Ieee.double.nearest true (sigW 23 s') (plW 23 (-149) s'))).isInfinity = true then none else some (Ieee.double.nearest true (sigW 23 s') (plW 23 (-149) s'))) = none := hu
            rw [hrd] at hu2
            cases hu2
    obtain ⟨s, p, hd⟩ := hnan
    obtain ⟨u, h1, h2⟩ := run_widen_nan hd W
    exact ⟨u, W.drew, .inr rfl, h1 V, h2⟩
end Go.Proofs.Qxb6606417aGreatDoor
