import Derived.Test.Qxb6606417aGreatDoorNum17
namespace Go.Proofs.Qxb6606417aGreatDoor
open Go.RowKit Go.PlainAid
set_option linter.unusedVariables false
set_option linter.unusedSimpArgs false
set_option maxRecDepth 100000

theorem isInf_pos (V : Nat) (b : Bool) (w : World) (hb : (Ieee.double.order V 9218868437227405311 == some Ordering.gt) = b) : Calls Tryz.prog 7 #[.float .f64 V, .int .i64 1] w fun e w' => e = .returned (.bool b) ∧ w = w' := by
  have hb' : (FloatKind.f64.format.order V 9218868437227405311 == some Ordering.gt) = b := hb
  go_enter Tryz.func7, Tryz.ntmps7
  go_wp2
  go_ret
  exact ⟨rfl, rfl⟩
theorem run_neg {V U : Nat} (hU : Op.negFloat .f64 V = U) (W : World) : (Op.unary .neg (.float .f64 V)).run Tryz.prog W = .ok (.float .f64 U) W := by
  subst hU
  rfl
theorem isInf_neg (V U : Nat) (b : Bool) (w : World) (hU : Op.negFloat .f64 V = U) (hb : (Ieee.double.order U 9218868437227405311 == some Ordering.gt) = b) : Calls Tryz.prog 7 #[.float .f64 V, .int .i64 (-1)] w fun e w' => e = .returned (.bool b) ∧ w = w' := by
  have hb' : (FloatKind.f64.format.order U 9218868437227405311 == some Ordering.gt) = b := hb
  have hn := run_neg hU
  go_enter Tryz.func7, Tryz.ntmps7
  go_wp2_with (simp only [hn])
  go_ret
  exact ⟨rfl, rfl⟩
end Go.Proofs.Qxb6606417aGreatDoor
