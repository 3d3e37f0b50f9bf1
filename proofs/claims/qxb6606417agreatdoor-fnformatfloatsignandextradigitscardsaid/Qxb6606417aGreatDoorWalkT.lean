import Derived.Test.Qxb6606417aGreatDoorWalkD
import Derived.Test.Qxb6606417aGreatDoorNum12
namespace Go.Proofs.Qxb6606417aGreatDoor
open Go.RowKit Go.PlainAid
set_option linter.unusedVariables false
set_option linter.unusedSimpArgs false
set_option maxRecDepth 100000

/-- The error beside an overflow. -/
def errV (b : Bool) : Value := if b then .iface 94 (.int .i64 1) else .nilIface
theorem or_le_add (a b : Nat) (hb : b ≤ 1) : a ||| b ≤ a + 1 := (or_bit a b hb).2
theorem uscale_le (x hi lo s B : Nat) (h : x * hi / 18446744073709551616 / 2 ^ s ≤ B) : uscaleN x hi lo s ≤ B + 1 := by
  rw [uscale_cases x hi lo s _ _ _ _ _ _ rfl rfl rfl rfl rfl rfl]
  have hq1 : (x * hi / 18446744073709551616 - 1) / 2 ^ s ≤ B := Nat.le_trans (Nat.div_le_div_right (Nat.sub_le _ _)) h
  split
  · exact Nat.le_trans (or_le_add _ 1 (by omega)) (by omega)
  · split
    · refine Nat.le_trans (or_le_add _ _ ?_) (by omega)
      split <;> omega
    · refine Nat.le_trans (or_le_add _ _ ?_) (by omega)
      split <;> omega
theorem or_self_bit (u : Nat) : u ||| u % 2 = u := by
  rw [or_mod u (u % 2) (by omega)]
  split <;> omega

set_option maxHeartbeats 1000000 in
theorem pack64_walk (m : Nat) (e : Int) (w : World) (hm : m < 9223372036854775808) (he1 : -1074 ≤ e) (he2 : e ≤ 3000) :
    Calls Tryz.prog 160 #[.int .u64 m, .int .i64 e] w fun en w' => en = .returned (.tuple #[.float .f64 (packW 52 64 (-1074) 971 9218868437227405312 m e).1, errV (packW 52 64 (-1074) 971 9218868437227405312 m e).2]) ∧ w' = w := by
  have c1 := call152
  have a1 : bits BinOp.and IntKind.u64 (m : Int) 4503599627370496 = ((m &&& 4503599627370496 : Nat) : Int) := u64_and_nat m 4503599627370496 (by omega) (by omega)
  unfold packW
  have e52 : (2 : Nat) ^ 52 = 4503599627370496 := by decide
  have e64 : (2 : Nat) ^ 64 = 18446744073709551616 := by decide
  rw [e52, e64]
  by_cases h1 : m &&& 4503599627370496 = 0
  · rw [if_pos h1]
    rw [h1] at a1
    clear h1
    go_enter Tryz.func160, Tryz.ntmps160
    go_wp2
    go_ret2
    exact ⟨rfl, rfl⟩
  · rw [if_neg h1]
    obtain ⟨a, ha⟩ : ∃ a, m &&& 4503599627370496 = a := ⟨_, rfl⟩
    rw [ha] at a1 h1
    have hne : ((a : Int) == 0) = false := by simp; omega
    clear ha
    by_cases h2 : 971 < e
    · rw [if_pos h2]
      have hge : decide (e ≥ 972) = true := decide_eq_true (by omega)
      have a2 : bits BinOp.and IntKind.u64 (m : Int) 9223372036854775808 = 0 := by
        have := u64_and_nat m 9223372036854775808 (by omega) (by omega)
        have e63 : (2 : Nat) ^ 63 = 9223372036854775808 := by decide
        have hz := and_pow_low (m := m) (mb := 63) (by rw [e63]; exact hm)
        rw [e63] at hz
        rw [hz] at this
        exact this
      have c2 : ∀ W : World, (callFunc 152 #[.int .u64 9218868437227405312]).run Tryz.prog W = .ok (.value (.float .f64 9218868437227405312)) W := fun W => call152 9218868437227405312 W
      have o2 : bits BinOp.or IntKind.u64 0 9218868437227405312 = 9218868437227405312 := by
        have := u64_or_nat 0 9218868437227405312 (by omega) (by omega)
        exact this
      clear h1 h2
      go_enter Tryz.func160, Tryz.ntmps160
      go_wp2
      go_ret2
      exact ⟨rfl, rfl⟩
    · rw [if_neg h2]
      have hge : decide (e ≥ 972) = false := decide_eq_false (by omega)
      obtain ⟨t, ht⟩ : ∃ t : Nat, (e + 1 - (-1074)).toNat = t := ⟨_, rfl⟩
      have ht' : 1075 + e = (t : Int) := by omega
      have htl : t ≤ 2046 := by omega
      have a3 : bits BinOp.andNot IntKind.u64 (m : Int) 4503599627370496 = ((m &&& (18446744073709551616 - 1 - 4503599627370496) : Nat) : Int) := u64_andNot_nat m 4503599627370496 (by omega) (by omega)
      obtain ⟨y, hy⟩ : ∃ y, m &&& (18446744073709551616 - 1 - 4503599627370496) = y := ⟨_, rfl⟩
      have hyl : y < 18446744073709551616 := by rw [← hy]; exact Nat.lt_of_le_of_lt Nat.and_le_left (by omega)
      rw [ht, hy]
      rw [hy] at a3
      have o3 : bits BinOp.or IntKind.u64 (y : Int) ((t : Int) * 4503599627370496) = ((y ||| t * 4503599627370496 : Nat) : Int) := by
        have := u64_or_nat y (t * 4503599627370496) hyl (by omega)
        have hc : ((t * 4503599627370496 : Nat) : Int) = (t : Int) * 4503599627370496 := by omega
        rw [hc] at this
        exact this
      clear h1 h2 hy ht
      go_enter Tryz.func160, Tryz.ntmps160
      go_wp2
      go_ret2
      exact ⟨rfl, rfl⟩

set_option maxHeartbeats 1000000 in
theorem pack32_walk (m : Nat) (e : Int) (w : World) (hm : m < 2147483648) (he1 : -149 ≤ e) (he2 : e ≤ 3000) :
    Calls Tryz.prog 158 #[.int .u32 m, .int .i64 e] w fun en w' => en = .returned (.tuple #[.float .f32 (packW 23 32 (-149) 104 2139095040 m e).1, errV (packW 23 32 (-149) 104 2139095040 m e).2]) ∧ w' = w := by
  have c1 := call147
  have a1 : bits BinOp.and IntKind.u32 (m : Int) 8388608 = ((m &&& 8388608 : Nat) : Int) := u32_and_nat m 8388608 (by omega) (by omega)
  unfold packW
  have e52 : (2 : Nat) ^ 23 = 8388608 := by decide
  have e64 : (2 : Nat) ^ 32 = 4294967296 := by decide
  rw [e52, e64]
  by_cases h1 : m &&& 8388608 = 0
  · rw [if_pos h1]
    rw [h1] at a1
    clear h1
    go_enter Tryz.func158, Tryz.ntmps158
    go_wp2
    go_ret2
    exact ⟨rfl, rfl⟩
  · rw [if_neg h1]
    obtain ⟨a, ha⟩ : ∃ a, m &&& 8388608 = a := ⟨_, rfl⟩
    rw [ha] at a1 h1
    have hne : ((a : Int) == 0) = false := by simp; omega
    clear ha
    by_cases h2 : 104 < e
    · rw [if_pos h2]
      have hge : decide (e ≥ 105) = true := decide_eq_true (by omega)
      have a2 : bits BinOp.and IntKind.u32 (m : Int) 2147483648 = 0 := by
        have := u32_and_nat m 2147483648 (by omega) (by omega)
        have e63 : (2 : Nat) ^ 31 = 2147483648 := by decide
        have hz := and_pow_low (m := m) (mb := 31) (by rw [e63]; exact hm)
        rw [e63] at hz
        rw [hz] at this
        exact this
      have c2 : ∀ W : World, (callFunc 147 #[.int .u32 2139095040]).run Tryz.prog W = .ok (.value (.float .f32 2139095040)) W := fun W => call147 2139095040 W
      have o2 : bits BinOp.or IntKind.u32 0 2139095040 = 2139095040 := by
        have := u32_or_nat 0 2139095040 (by omega) (by omega)
        exact this
      clear h1 h2
      go_enter Tryz.func158, Tryz.ntmps158
      go_wp2
      go_ret2
      exact ⟨rfl, rfl⟩
    · rw [if_neg h2]
      have hge : decide (e ≥ 105) = false := decide_eq_false (by omega)
      obtain ⟨t, ht⟩ : ∃ t : Nat, (e + 1 - (-149)).toNat = t := ⟨_, rfl⟩
      have ht' : 150 + e = (t : Int) := by omega
      have htl : t ≤ 254 := by omega
      have a3 : bits BinOp.andNot IntKind.u32 (m : Int) 8388608 = ((m &&& (4294967296 - 1 - 8388608) : Nat) : Int) := u32_andNot_nat m 8388608 (by omega) (by omega)
      obtain ⟨y, hy⟩ : ∃ y, m &&& (4294967296 - 1 - 8388608) = y := ⟨_, rfl⟩
      have hyl : y < 4294967296 := by rw [← hy]; exact Nat.lt_of_le_of_lt Nat.and_le_left (by omega)
      rw [ht, hy]
      rw [hy] at a3
      have o3 : bits BinOp.or IntKind.u32 (y : Int) ((t : Int) * 8388608) = ((y ||| t * 8388608 : Nat) : Int) := by
        have := u32_or_nat y (t * 8388608) hyl (by omega)
        have hc : ((t * 8388608 : Nat) : Int) = (t : Int) * 8388608 := by omega
        rw [hc] at this
        exact this
      clear h1 h2 hy ht
      go_enter Tryz.func158, Tryz.ntmps158
      go_wp2
      go_ret2
      exact ⟨rfl, rfl⟩
end Go.Proofs.Qxb6606417aGreatDoor
