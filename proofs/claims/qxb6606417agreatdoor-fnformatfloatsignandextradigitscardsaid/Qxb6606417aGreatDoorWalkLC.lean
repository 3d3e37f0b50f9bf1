import Derived.Test.Qxb6606417aGreatDoorWalkIn
import Derived.Test.Qxb6606417aGreatDoorNum19
import Derived.Test.Qxb6606417aGreatDoorWalkI
import Derived.Lib.Hide
namespace Go.Proofs.Qxb6606417aGreatDoor
open Go.RowKit Go.PlainAid
set_option linter.unusedVariables false
set_option linter.unusedSimpArgs false
set_option maxRecDepth 100000

theorem inf_eq : Ieee.double.order 9218868437227405312 9218868437227405312 = some .eq := by decide
theorem ninf_eq : Ieee.double.order (9223372036854775808 + 9218868437227405312) (9223372036854775808 + 9218868437227405312) = some .eq := by decide
theorem inf_gt : (Ieee.double.order 9218868437227405312 9218868437227405311 == some Ordering.gt) = true := by decide
/-- formatFloat of the infinities. -/
theorem ff_inf (bt ed : Int) (w : World) : Calls Tryz.prog 5 #[.float .f64 9218868437227405312, .int .i64 bt, .int .i64 ed] w fun e w' => e = .returned (.string ⟨#[73, 110, 102, 105, 110, 105, 116, 121]⟩) ∧ w = w' := by
  have k6 : ∀ W : World, Calls Tryz.prog 6 #[.float .f64 9218868437227405312] W fun e w' => e = .returned (.bool false) ∧ W = w' := fun W => isNaN_any _ W inf_eq
  have k7 : ∀ W : World, Calls Tryz.prog 7 #[.float .f64 9218868437227405312, .int .i64 1] W fun e w' => e = .returned (.bool true) ∧ W = w' := fun W => isInf_pos _ true W inf_gt
  have K6 : Hid _ := k6
  have K7 : Hid _ := k7
  clear k6 k7
  go_enter Tryz.func5, Tryz.ntmps5
  go_wp2_with (first
    | (go_at_call 6; refine (K6.out _).mono ?_; rintro e w' ⟨rfl, hw⟩; subst hw)
    | (go_at_call 7; refine (K7.out _).mono ?_; rintro e w' ⟨rfl, hw⟩; subst hw))
  go_ret
  exact ⟨rfl, rfl⟩
set_option maxHeartbeats 2000000 in
theorem ff_ninf (F : Nat) (bt ed : Int) (w : World) (hF : F = 9223372036854775808 + 9218868437227405312) : Calls Tryz.prog 5 #[.float .f64 F, .int .i64 bt, .int .i64 ed] w fun e w' => e = .returned (.string ⟨#[45, 73, 110, 102, 105, 110, 105, 116, 121]⟩) ∧ w = w' := by
  have k6 : ∀ W : World, Calls Tryz.prog 6 #[.float .f64 F] W fun e w' => e = .returned (.bool false) ∧ W = w' := fun W => isNaN_any F W (by rw [hF]; exact ninf_eq)
  have k7 : ∀ W : World, Calls Tryz.prog 7 #[.float .f64 F, .int .i64 1] W fun e w' => e = .returned (.bool false) ∧ W = w' := fun W => isInf_pos F false W (by rw [hF]; exact neg_not_gt (by omega) (by omega))
  have k7b : ∀ W : World, Calls Tryz.prog 7 #[.float .f64 F, .int .i64 (-1)] W fun e w' => e = .returned (.bool true) ∧ W = w' := fun W => isInf_neg F 9218868437227405312 true W (by rw [hF]; exact neg_neg' (by omega)) inf_gt
  have K6 : Hid _ := k6
  have K7 : Hid _ := k7
  have K7b : Hid _ := k7b
  clear k6 k7 k7b hF
  go_enter Tryz.func5, Tryz.ntmps5
  go_upto_region 5 with (first
    | (go_at_call 6; refine (K6.out _).mono ?_; rintro e w' ⟨rfl, hw⟩; subst hw)
    | (go_at_call 7; refine (K7.out _).mono ?_; rintro e w' ⟨rfl, hw⟩; subst hw))
  go_wp2_with (go_at_call 7; refine (K7b.out _).mono ?_; rintro e w' ⟨rfl, hw⟩; subst hw)
  go_ret
  exact ⟨rfl, rfl⟩
/-- The wrapper. -/
theorem zz_walk (F : Nat) (bt ed : Int) (s : ByteArray) (w : World) (k : Calls Tryz.prog 5 #[.float .f64 F, .int .i64 bt, .int .i64 ed] w fun e w' => e = .returned (.string s) ∧ Below w.heap.size w w') :
    Calls Tryz.prog 4 #[.float .f64 F, .int .i64 bt, .int .i64 ed] w fun e w' => e = .returned (.string s) ∧ Below w.heap.size w w' := by
  have K := Lib.hid k
  clear k
  go_enter Tryz.func4, Tryz.ntmps4
  go_wp2_with (go_at_call 5; refine K.out.mono ?_; rintro e w2 ⟨rfl, hB⟩; have B2 : Hid (Below w.heap.size w w2) := hB; clear hB)
  go_ret
  exact ⟨rfl, B2.out⟩
/-- The law, where the type is none of the two. -/
theorem law_bits (V : Nat) (bt ed : Int) (w : World) (h1 : bt ≠ 32) (h2 : bt ≠ 64) : Calls Tryz.prog 3 #[.float .f64 V, .int .i64 bt, .int .i64 ed] w fun e w' => e = .returned (.bool true) ∧ Below w.heap.size w w' := by
  have g1 : (bt != 32) = true := by simp; exact h1
  have g2 : (bt != 64) = true := by simp; exact h2
  go_enter Tryz.func3, Tryz.ntmps3
  go_wp2_with fail
  go_ret
  exact ⟨rfl, Below.refl _ _⟩
theorem law_low (V : Nat) (bt ed : Int) (w : World) (h : (Ieee.double.order V 0 == some Ordering.gt) = false) (hb : bt = 32 ∨ bt = 64) : Calls Tryz.prog 3 #[.float .f64 V, .int .i64 bt, .int .i64 ed] w fun e w' => e = .returned (.bool true) ∧ Below w.heap.size w w' := by
  have h' : (FloatKind.f64.format.order V 0 == some Ordering.gt) = false := h
  rcases hb with rfl | rfl <;>
  · go_enter Tryz.func3, Tryz.ntmps3
    go_wp2_with fail
    go_ret
    exact ⟨rfl, Below.refl _ _⟩
/-- The law at 32 bits, where the number is not of the type. -/
theorem law_not32 (V r u : Nat) (ed : Int) (w W1 W2 : World) (h : (Ieee.double.order V 0 == some Ordering.gt) = true) (hb1 : Below w.heap.size w W2) (hne : (Ieee.double.order u V == some Ordering.eq) = false)
    (c1 : (convert 22 23 (.float .f64 V)).run Tryz.prog w = .ok (.float .f32 r) W1) (c2 : (convert 23 22 (.float .f32 r)).run Tryz.prog W1 = .ok (.float .f64 u) W2) : Calls Tryz.prog 3 #[.float .f64 V, .int .i64 32, .int .i64 ed] w fun e w' => e = .returned (.bool true) ∧ Below w.heap.size w w' := by
  have h' : (FloatKind.f64.format.order V 0 == some Ordering.gt) = true := h
  have hne' : (FloatKind.f64.format.order u V == some Ordering.eq) = false := hne
  have hne2 : (Ieee.double.order u V != some Ordering.eq) = true := by simp [bne, hne]
  have hne3 : (FloatKind.f64.format.order u V != some Ordering.eq) = true := hne2
  have HB := Lib.hid hb1
  clear hb1
  go_enter Tryz.func3, Tryz.ntmps3
  go_wp2_with (first | simp only [c1] | simp only [c2])
  go_ret
  exact ⟨rfl, HB.out⟩
end Go.Proofs.Qxb6606417aGreatDoor
