import Derived.Test.Qxb6606417aGreatDoorWalkFF
import Derived.Test.Qxb6606417aGreatDoorWalkLD
namespace Go.Proofs.Qxb6606417aGreatDoor
open Go.RowKit Go.PlainAid
set_option linter.unusedVariables false
set_option linter.unusedSimpArgs false
set_option maxRecDepth 100000

/-- The text of a number above zero begins with no sign, and is short. -/
theorem ff_text {V : Nat} {bt : Int} {M : Nat} {q : Int} {nar : Bool} {sho : Nat × Int} {fix : Nat → Nat × Int} {num : Nat → Int → Nat} (H : Num V bt M q nar sho fix num) (sd ed : Int) (hsd1 : 6 ≤ sd) (hsd2 : sd ≤ 15) :
    (∃ c r, ffTxt sd V M q nar sho fix num ed = c :: r ∧ c ≠ 45) ∧ (ffTxt sd V M q nar sho fix num ed).length ≤ 3000 := by
  unfold ffTxt
  split
  · obtain ⟨D, L⟩ := shortest_ok H
    have d1 := D.k1
    have d2 := D.k2
    exact ⟨lay_first _ _ _ D.pos, Nat.le_trans (lay_len _ _ _ D.pos D.lt (by omega) (by omega)) (by omega)⟩
  · obtain ⟨D, _⟩ := H.dF (max (sd + ed) 1).toNat (by omega) (by omega)
    have d1 := D.k1
    have d2 := D.k2
    exact ⟨lay_first _ _ _ D.pos, Nat.le_trans (lay_len _ _ _ D.pos D.lt (by omega) (by omega)) (by omega)⟩
theorem zz_pos {V : Nat} {bt : Int} {M : Nat} {q : Int} {nar : Bool} {sho : Nat × Int} {fix : Nat → Nat × Int} {num : Nat → Int → Nat} (H : Num V bt M q nar sho fix num) (sd ed : Int) (w : World) (EF : EnvF w)
    (h0 : 0 < V) (h1 : V < 9218868437227405312) (hsd : sd = if bt = 32 then 6 else 15) (hsd1 : 6 ≤ sd) (hsd2 : sd ≤ 15) (he1 : -9223372036854775808 ≤ ed) (he2 : ed ≤ 9223372036854775807) :
    Calls Tryz.prog 4 #[.float .f64 V, .int .i64 bt, .int .i64 ed] w fun e w' => e = .returned (.string ⟨(ffTxt sd V M q nar sho fix num ed).toArray⟩) ∧ Below w.heap.size w w' := by
  refine zz_walk V bt ed _ w ?_
  by_cases hed : 0 < ed
  · exact ff_pos_short V bt sd ed M q nar sho fix num w EF H h0 h1 hsd hsd1 hsd2 he1 he2 hed
  · exact ff_pos_fixed V bt sd ed M q nar sho fix num w EF H h0 h1 hsd hsd1 hsd2 he1 he2 hed
theorem zz_neg {V : Nat} {bt : Int} {M : Nat} {q : Int} {nar : Bool} {sho : Nat × Int} {fix : Nat → Nat × Int} {num : Nat → Int → Nat} (H : Num V bt M q nar sho fix num) (sd ed : Int) (w : World) (EF : EnvF w)
    (h0 : 0 < V) (h1 : V < 9218868437227405312) (hsd : sd = if bt = 32 then 6 else 15) (hsd1 : 6 ≤ sd) (hsd2 : sd ≤ 15) (he1 : -9223372036854775808 ≤ ed) (he2 : ed ≤ 9223372036854775807) :
    Calls Tryz.prog 4 #[.float .f64 (9223372036854775808 + V), .int .i64 bt, .int .i64 ed] w fun e w' => e = .returned (.string ⟨(45 :: ffTxt sd V M q nar sho fix num ed).toArray⟩) ∧ Below w.heap.size w w' := by
  refine zz_walk _ bt ed _ w ?_
  by_cases hed : 0 < ed
  · exact ff_neg_short V bt sd ed M q nar sho fix num w EF H h0 h1 hsd hsd1 hsd2 he1 he2 hed
  · exact ff_neg_fixed V bt sd ed M q nar sho fix num w EF H h0 h1 hsd hsd1 hsd2 he1 he2 hed
theorem ff_up (sd : Int) (V : Nat) (M : Nat) (q : Int) (nar : Bool) (sho : Nat × Int) (fix : Nat → Nat × Int) (num : Nat → Int → Nat) (ed : Int) (h : 0 < ed) : ffTxt sd V M q nar sho fix num 1 = ffTxt sd V M q nar sho fix num ed := by
  unfold ffTxt
  rw [if_pos (by omega), if_pos h]
/-- The law at a number above zero. -/
theorem law_num {V : Nat} {M : Nat} {q : Int} {nar : Bool} {sho : Nat × Int} {fix : Nat → Nat × Int} {num : Nat → Int → Nat} (ed : Int) (w : World) (EF : EnvF w) (h0 : 0 < V) (h1 : V < 9218868437227405312) (he1 : -9223372036854775808 ≤ ed) (he2 : ed ≤ 9223372036854775807) (H : Num V 64 M q nar sho fix num) :
    Calls Tryz.prog 3 #[.float .f64 V, .int .i64 64, .int .i64 ed] w fun e w' => e = .returned (.bool true) ∧ Below w.heap.size w w' := by
  obtain ⟨⟨c, r, hT, hc⟩, hl⟩ := ff_text H 15 ed (by omega) (by omega)
  have hgt : (Ieee.double.order V 0 == some Ordering.gt) = true := by rw [order_zero h0 h1]; rfl
  by_cases hed : 0 < ed
  · refine law_64_up V ed _ c r w hT hc hl (by omega) hgt hed (fun W hb => zz_pos H 15 ed W (EF.later hb) h0 h1 rfl (by omega) (by omega) he1 he2) (fun W hb => zz_neg H 15 ed W (EF.later hb) h0 h1 rfl (by omega) (by omega) he1 he2) (fun W hb => ?_)
    have := zz_pos H 15 1 W (EF.later hb) h0 h1 rfl (by omega) (by omega) (by omega) (by omega)
    rw [ff_up _ _ _ _ _ _ _ _ ed hed] at this
    exact this
  · exact law_64_down V ed _ c r w hT hc hl (by omega) hgt hed (fun W hb => zz_pos H 15 ed W (EF.later hb) h0 h1 rfl (by omega) (by omega) he1 he2) (fun W hb => zz_neg H 15 ed W (EF.later hb) h0 h1 rfl (by omega) (by omega) he1 he2)
theorem law_num32 {V v : Nat} {M : Nat} {q : Int} {nar : Bool} {sho : Nat × Int} {fix : Nat → Nat × Int} {num : Nat → Int → Nat} (ed : Int) (w : World) (EF : EnvF w) (h0 : 0 < V) (h1 : V < 9218868437227405312) (he1 : -9223372036854775808 ≤ ed) (he2 : ed ≤ 9223372036854775807) (H : Num V 32 M q nar sho fix num)
    (c1 : ∀ W : World, (convert 22 23 (.float .f64 V)).run Tryz.prog W = .ok (.float .f32 v) W) (c2 : ∀ W : World, (convert 23 22 (.float .f32 v)).run Tryz.prog W = .ok (.float .f64 V) W) :
    Calls Tryz.prog 3 #[.float .f64 V, .int .i64 32, .int .i64 ed] w fun e w' => e = .returned (.bool true) ∧ Below w.heap.size w w' := by
  obtain ⟨⟨c, r, hT, hc⟩, hl⟩ := ff_text H 6 ed (by omega) (by omega)
  have hgt : (Ieee.double.order V 0 == some Ordering.gt) = true := by rw [order_zero h0 h1]; rfl
  have heq : (Ieee.double.order V V == some Ordering.eq) = true := by rw [order_self h1]; rfl
  by_cases hed : 0 < ed
  · refine law_32_up V ed _ c r w hT hc hl (by omega) hgt hed v c1 c2 heq (fun W hb => zz_pos H 6 ed W (EF.later hb) h0 h1 rfl (by omega) (by omega) he1 he2) (fun W hb => zz_neg H 6 ed W (EF.later hb) h0 h1 rfl (by omega) (by omega) he1 he2) (fun W hb => ?_)
    have := zz_pos H 6 1 W (EF.later hb) h0 h1 rfl (by omega) (by omega) (by omega) (by omega)
    rw [ff_up _ _ _ _ _ _ _ _ ed hed] at this
    exact this
  · exact law_32_down V ed _ c r w hT hc hl (by omega) hgt hed v c1 c2 heq (fun W hb => zz_pos H 6 ed W (EF.later hb) h0 h1 rfl (by omega) (by omega) he1 he2) (fun W hb => zz_neg H 6 ed W (EF.later hb) h0 h1 rfl (by omega) (by omega) he1 he2)
abbrev infT : List UInt8 := [73, 110, 102, 105, 110, 105, 116, 121]
theorem zz_inf (bt ed : Int) (w : World) : Calls Tryz.prog 4 #[.float .f64 9218868437227405312, .int .i64 bt, .int .i64 ed] w fun e w' => e = .returned (.string ⟨infT.toArray⟩) ∧ Below w.heap.size w w' :=
  zz_walk _ bt ed _ w ((ff_inf bt ed w).mono fun e w' h => ⟨h.1, h.2 ▸ Below.refl _ _⟩)
theorem zz_ninf (bt ed : Int) (w : World) : Calls Tryz.prog 4 #[.float .f64 (9223372036854775808 + 9218868437227405312), .int .i64 bt, .int .i64 ed] w fun e w' => e = .returned (.string ⟨(45 :: infT).toArray⟩) ∧ Below w.heap.size w w' :=
  zz_walk _ bt ed _ w ((ff_ninf _ bt ed w rfl).mono fun e w' h => ⟨h.1, h.2 ▸ Below.refl _ _⟩)
theorem inf_pos0 : (Ieee.double.order 9218868437227405312 0 == some Ordering.gt) = true := by decide
theorem inf_same : (Ieee.double.order 9218868437227405312 9218868437227405312 == some Ordering.eq) = true := by decide
theorem inf_nar : floatToFloatBits .f64 9218868437227405312 .f32 = some 2139095040 := by decide
theorem inf_wid : floatToFloatBits .f32 2139095040 .f64 = some 9218868437227405312 := by decide
theorem u22 : (Tryz.prog.underlying 22).isSome = true := by rw [Tryz.underlying22]; rfl
theorem u23 : (Tryz.prog.underlying 23).isSome = true := by rw [Tryz.underlying23]; rfl
theorem law_inf64 (ed : Int) (w : World) : Calls Tryz.prog 3 #[.float .f64 9218868437227405312, .int .i64 64, .int .i64 ed] w fun e w' => e = .returned (.bool true) ∧ Below w.heap.size w w' := by
  by_cases hed : 0 < ed
  · exact law_64_up 9218868437227405312 ed infT 73 _ w rfl (by decide) (by decide) (by omega) inf_pos0 hed (fun W _ => zz_inf 64 ed W) (fun W _ => zz_ninf 64 ed W) (fun W _ => zz_inf 64 1 W)
  · exact law_64_down 9218868437227405312 ed infT 73 _ w rfl (by decide) (by decide) (by omega) inf_pos0 hed (fun W _ => zz_inf 64 ed W) (fun W _ => zz_ninf 64 ed W)
theorem law_inf32 (ed : Int) (w : World) : Calls Tryz.prog 3 #[.float .f64 9218868437227405312, .int .i64 32, .int .i64 ed] w fun e w' => e = .returned (.bool true) ∧ Below w.heap.size w w' := by
  have c1 : ∀ W : World, (convert 22 23 (.float .f64 9218868437227405312)).run Tryz.prog W = .ok (.float .f32 2139095040) W := fun W => run_convert_float_float W 22 23 .f64 .f32 _ _ u22 Tryz.underlying23 inf_nar
  have c2 : ∀ W : World, (convert 23 22 (.float .f32 2139095040)).run Tryz.prog W = .ok (.float .f64 9218868437227405312) W := fun W => run_convert_float_float W 23 22 .f32 .f64 _ _ u23 Tryz.underlying22 inf_wid
  by_cases hed : 0 < ed
  · exact law_32_up 9218868437227405312 ed infT 73 _ w rfl (by decide) (by decide) (by omega) inf_pos0 hed 2139095040 c1 c2 inf_same (fun W _ => zz_inf 32 ed W) (fun W _ => zz_ninf 32 ed W) (fun W _ => zz_inf 32 1 W)
  · exact law_32_down 9218868437227405312 ed infT 73 _ w rfl (by decide) (by decide) (by omega) inf_pos0 hed 2139095040 c1 c2 inf_same (fun W _ => zz_inf 32 ed W) (fun W _ => zz_ninf 32 ed W)
/-- ████ THE LAW, AT EVERY INPUT. ████ -/
theorem law_any (V : Nat) (bt ed : Int) (w : World) (EF : EnvF w) (hV : V < 18446744073709551616) (he1 : -9223372036854775808 ≤ ed) (he2 : ed ≤ 9223372036854775807) :
    Calls Tryz.prog 3 #[.float .f64 V, .int .i64 bt, .int .i64 ed] w fun e w' => e = .returned (.bool true) ∧ Below w.heap.size w w' := by
  by_cases hb : bt = 32 ∨ bt = 64
  · cases hgt : (Ieee.double.order V 0 == some Ordering.gt) with
    | false => exact law_low V bt ed w hgt hb
    | true =>
      obtain ⟨h0, h1⟩ := order_pos hV hgt
      by_cases hi : V = 9218868437227405312
      · subst hi
        rcases hb with rfl | rfl
        · exact law_inf32 ed w
        · exact law_inf64 ed w
      · have h2 : V < 9218868437227405312 := by omega
        rcases hb with rfl | rfl
        · cases hn : floatToFloatBits .f64 V .f32 with
          | none =>
            obtain ⟨r, hr, c1⟩ := run_narrow_drawn h0 h2 hn w
            obtain ⟨u, W', hW, hne, c2⟩ := run_widen h0 h2 hr hn w.drew
            refine law_not32 V r u ed w w.drew W' hgt ?_ hne c1 c2
            rcases hW with rfl | rfl
            · exact (Below.refl _ _).drew
            · exact (Below.refl _ _).drew.drew
          | some v =>
            have hv := nar_some h0 h2 hn
            have hwd := wid_ok v (by omega)
            have c1 : ∀ W : World, (convert 22 23 (.float .f64 V)).run Tryz.prog W = .ok (.float .f32 v) W := fun W => run_convert_float_float W 22 23 .f64 .f32 _ _ u22 Tryz.underlying23 hn
            have c2 : ∀ W : World, (convert 23 22 (.float .f32 v)).run Tryz.prog W = .ok (.float .f64 (widW v)) W := fun W => run_convert_float_float W 23 22 .f32 .f64 _ _ u23 Tryz.underlying22 hwd
            cases hq : (Ieee.double.order (widW v) V == some Ordering.eq) with
            | false => exact law_not32 V v (widW v) ed w w w hgt (Below.refl _ _) hq (c1 w) (c2 w)
            | true =>
              have hv0 : 0 < v := by
                refine Nat.pos_of_ne_zero fun hz => ?_
                subst hz
                have e : widW 0 = 0 := by decide
                rw [e] at hq
                have h' := eq_of_beq hq
                unfold Ieee.Format.order at h'
                rw [read_zero, read_pos h2] at h'
                have hsg := sig_pos (mb := 52) h0
                simp only [Ieee.Datum.order, Ieee.signed, Option.some.injEq, Bool.false_eq_true, if_false] at h'
                rw [Int.compare_eq_eq, shl_eq, shl_eq, Nat.zero_mul] at h'
                have : 0 < sigW 52 V * 2 ^ (plW 52 (-1074) V - min (-1074) (plW 52 (-1074) V)).toNat := Nat.mul_pos hsg (Nat.pow_pos (by omega))
                omega
              obtain ⟨u, hu, u0, u1, _⟩ := wid_value hv0 hv
              have hue : u = widW v := Option.some.inj (hu.symm.trans hwd)
              subst hue
              have hw : widW v = V := order_eq_word okD u0 (show widW v < Ieee.double.infRung from u1) h0 (show V < Ieee.double.infRung from h2) (eq_of_beq hq)
              rw [hw] at c2
              exact law_num32 ed w EF h0 h2 he1 he2 (num32 V v c1 hw hv0 hv h2) c1 c2
        · exact law_num ed w EF h0 h2 he1 he2 (num64 V h0 h2)
  · exact law_bits V bt ed w (fun e => hb (.inl e)) (fun e => hb (.inr e))
end Go.Proofs.Qxb6606417aGreatDoor
