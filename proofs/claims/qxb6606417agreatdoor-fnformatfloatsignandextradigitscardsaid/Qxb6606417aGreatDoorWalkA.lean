import Derived.Test.Qxb6606417aGreatDoorRows
import Derived.Test.Qxb6606417aGreatDoorNum8
import Derived.WalkKit
import Derived.WalkSpells
import Derived.WalkLawsBesides
import Derived.Handy
import Derived.PlainAid
import Derived.Below
import Derived.Deep.Light
import Derived.LoopTactic
import Derived.WalkSmall
import Derived.Deep.QuietTactic
import Derived.BigQuiet
import Derived.Laws.FloatArith
import Derived.Laws.BitsAllLaws
namespace Go.Proofs.Qxb6606417aGreatDoor
open Go.RowKit Go.PlainAid
set_option linter.unusedVariables false

theorem sig_any (n : Int) (w : World) : Calls Tryz.prog 12 #[.int .i64 n] w fun e w' => e = .returned (.int .i64 (if n = 32 then 6 else 15)) ∧ w = w' := by
  by_cases h : n = 32
  · subst h
    go_enter Tryz.func12, Tryz.ntmps12
    go_wp2
    go_ret
    exact ⟨rfl, rfl⟩
  · have e : (n == 32) = false := beq_eq_false_iff_ne.2 h
    rw [if_neg h]
    go_enter Tryz.func12, Tryz.ntmps12
    go_wp2
    go_ret
    exact ⟨rfl, rfl⟩
theorem isNaN_any (x : Nat) (w : World) (h : Ieee.double.order x x = some .eq) : Calls Tryz.prog 6 #[.float .f64 x] w fun e w' => e = .returned (.bool false) ∧ w = w' := by
  go_enter Tryz.func6, Tryz.ntmps6
  go_wp2
  go_ret
  refine ⟨?_, rfl⟩
  show Ending.returned (.bool (Ieee.double.order x x != some Ordering.eq)) = _
  rw [h]; rfl
theorem call15 (x : Nat) (w : World) : (callFunc 15 #[.float .f64 x]).run Tryz.prog w = .ok (.value (.int .u64 (x : Int))) w := by kernel_rfl
theorem call76 (x : Nat) (w : World) : (callFunc 76 #[.float .f64 x]).run Tryz.prog w = .ok (.value (.int .u64 (x : Int))) w := by kernel_rfl
theorem call64 (x : Nat) (w : World) : (callFunc 64 #[.float .f32 x]).run Tryz.prog w = .ok (.value (.int .u32 (x : Int))) w := by kernel_rfl
theorem call75 (x : Nat) (w : World) : (callFunc 75 #[.float .f32 x]).run Tryz.prog w = .ok (.value (.int .u32 (x : Int))) w := by kernel_rfl
theorem call25 (x : Nat) (w : World) : (callFunc 25 #[.int .u64 (x : Int)]).run Tryz.prog w = .ok (.value (.float .f64 x)) w := by kernel_rfl
theorem call152 (x : Nat) (w : World) : (callFunc 152 #[.int .u64 (x : Int)]).run Tryz.prog w = .ok (.value (.float .f64 x)) w := by kernel_rfl
theorem call147 (x : Nat) (w : World) : (callFunc 147 #[.int .u32 (x : Int)]).run Tryz.prog w = .ok (.value (.float .f32 x)) w := by kernel_rfl
set_option maxRecDepth 100000 in
theorem abs_any (x : Nat) (w : World) (hx : x < 18446744073709551616) : Calls Tryz.prog 11 #[.float .f64 x] w fun e w' => e = .returned (.float .f64 (x % 9223372036854775808)) ∧ w = w' := by
  have h1 := call15
  have h2 := call25
  have h3 : bits .andNot .u64 (x : Int) 9223372036854775808 = ((x % 9223372036854775808 : Nat) : Int) := by
    have := u64_andNot_nat x 9223372036854775808 hx (by omega)
    rw [show (18446744073709551615 - 9223372036854775808 : Nat) = 2 ^ 63 - 1 from rfl, Nat.and_two_pow_sub_one_eq_mod] at this
    exact this
  obtain ⟨y, hy⟩ : ∃ y, x % 9223372036854775808 = y := ⟨_, rfl⟩
  rw [hy] at h3
  rw [hy]
  clear hy
  go_enter Tryz.func11, Tryz.ntmps11
  go_wp2
  go_ret
  exact ⟨rfl, rfl⟩
theorem conv_u64_i64 (x : Nat) (hx : x < 18446744073709551616) : (9223372036854775808 ≤ x → wrap64 (x : Int) < 0) ∧ (x < 9223372036854775808 → wrap64 (x : Int) = x) := by
  constructor
  · intro h
    unfold wrap64
    omega
  · intro h
    unfold wrap64
    omega
set_option maxRecDepth 100000 in
theorem signbit_any (x : Nat) (w : World) (hx : x < 18446744073709551616) : Calls Tryz.prog 8 #[.float .f64 x] w fun e w' => e = .returned (.bool (decide (9223372036854775808 ≤ x))) ∧ w = w' := by
  have h1 := call15
  obtain ⟨c1, c2⟩ := conv_u64_i64 x hx
  go_enter Tryz.func8, Tryz.ntmps8
  go_wp2
  go_ret
  refine ⟨?_, rfl⟩
  show Ending.returned (.bool (decide (wrap64 (x : Int) < 0))) = _
  by_cases h : 9223372036854775808 ≤ x
  · rw [decide_eq_true (c1 h), decide_eq_true h]
  · rw [c2 (by omega), decide_eq_false h, decide_eq_false (by omega)]

/-! Comparisons of words. -/
theorem infD : Ieee.double.infRung = 9218868437227405312 := by decide
theorem swD : Ieee.double.signWeight = 9223372036854775808 := by decide
theorem read_neg {v : Nat} (h : v < 9218868437227405312) : Ieee.double.read (9223372036854775808 + v) = .number true (sigW 52 v) (plW 52 (-1074) v) := by
  unfold Ieee.Format.read
  rw [swD]
  have e1 : (9223372036854775808 + v) / 9223372036854775808 % 2 = 1 := by omega
  have e2 : (9223372036854775808 + v) % 9223372036854775808 = v := by omega
  simp only [e1, e2]
  have hb : Ieee.double.binade = 2 ^ 52 := rfl
  have hl : Ieee.double.leastPlace = -1074 := by decide
  rw [hb, hl, infD]
  unfold sigW plW
  by_cases h5 : v < 2 ^ 52
  · simp [h5]
  · simp [h5, h]
theorem read_pos {v : Nat} (h : v < 9218868437227405312) : Ieee.double.read v = .number false (sigW 52 v) (plW 52 (-1074) v) := read_word okD (by rw [infD]; exact h)
theorem order_self {v : Nat} (h : v < 9218868437227405312) : Ieee.double.order v v = some .eq := by
  unfold Ieee.Format.order
  rw [read_pos h]
  simp [Ieee.Datum.order]
theorem order_neg_self {v : Nat} (h : v < 9218868437227405312) : Ieee.double.order (9223372036854775808 + v) (9223372036854775808 + v) = some .eq := by
  unfold Ieee.Format.order
  rw [read_neg h]
  simp [Ieee.Datum.order]
theorem read_zero : Ieee.double.read 0 = .number false 0 (-1074) := by decide
theorem order_zero {v : Nat} (h0 : 0 < v) (h : v < 9218868437227405312) : Ieee.double.order v 0 = some .gt := by
  unfold Ieee.Format.order
  rw [read_pos h, read_zero]
  have hs := sig_pos (mb := 52) h0
  simp only [Ieee.Datum.order, Ieee.signed]
  have : 0 < sigW 52 v <<< (plW 52 (-1074) v - min (plW 52 (-1074) v) (-1074)).toNat := by
    rw [Nat.shiftLeft_eq]; exact Nat.mul_pos hs (Nat.pow_pos (by omega))
  generalize sigW 52 v <<< (plW 52 (-1074) v - min (plW 52 (-1074) v) (-1074)).toNat = n at this
  simp
  have : compare (n : Int) 0 = .gt := by rw [Int.compare_eq_gt]; omega
  simpa using this
theorem order_neg_zero {v : Nat} (h0 : 0 < v) (h : v < 9218868437227405312) : Ieee.double.order (9223372036854775808 + v) 0 = some .lt := by
  unfold Ieee.Format.order
  rw [read_neg h, read_zero]
  have hs := sig_pos (mb := 52) h0
  simp only [Ieee.Datum.order, Ieee.signed]
  have : 0 < sigW 52 v <<< (plW 52 (-1074) v - min (plW 52 (-1074) v) (-1074)).toNat := by
    rw [Nat.shiftLeft_eq]; exact Nat.mul_pos hs (Nat.pow_pos (by omega))
  generalize sigW 52 v <<< (plW 52 (-1074) v - min (plW 52 (-1074) v) (-1074)).toNat = n at this
  simp
  have : compare (-(n : Int)) 0 = .lt := by rw [Int.compare_eq_lt]; omega
  simpa using this
end Go.Proofs.Qxb6606417aGreatDoor
