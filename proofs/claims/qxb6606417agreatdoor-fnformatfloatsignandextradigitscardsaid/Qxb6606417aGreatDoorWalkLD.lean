import Derived.Test.Qxb6606417aGreatDoorWalkLC
namespace Go.Proofs.Qxb6606417aGreatDoor
open Go.RowKit Go.PlainAid
set_option linter.unusedVariables false
set_option linter.unusedSimpArgs false
set_option maxRecDepth 100000

theorem cat_neg (T : List UInt8) : (⟨#[45]⟩ : ByteArray) ++ ⟨T.toArray⟩ = ⟨(45 :: T).toArray⟩ := by
  apply ByteArray.ext
  rw [ByteArray.data_append]
  simp

set_option maxHeartbeats 2000000 in
theorem law_64_up (V : Nat) (ed : Int) (T : List UInt8) (c : UInt8) (r : List UInt8) (w : World) (hT : T = c :: r) (hc : c ≠ 45) (hl : T.length ≤ 3000) (hV : V < 9223372036854775808) (hgt : (Ieee.double.order V 0 == some Ordering.gt) = true) (hed : 0 < ed)
    (kp : ∀ W : World, Below w.heap.size w W → Calls Tryz.prog 4 #[.float .f64 V, .int .i64 64, .int .i64 ed] W fun e w' => e = .returned (.string ⟨T.toArray⟩) ∧ Below W.heap.size W w')
    (kn : ∀ W : World, Below w.heap.size w W → Calls Tryz.prog 4 #[.float .f64 (9223372036854775808 + V), .int .i64 64, .int .i64 ed] W fun e w' => e = .returned (.string ⟨(45 :: T).toArray⟩) ∧ Below W.heap.size W w') (k1 : ∀ W : World, Below w.heap.size w W → Calls Tryz.prog 4 #[.float .f64 V, .int .i64 64, .int .i64 1] W fun e w' => e = .returned (.string ⟨T.toArray⟩) ∧ Below W.heap.size W w') :
    Calls Tryz.prog 3 #[.float .f64 V, .int .i64 64, .int .i64 ed] w fun e w' => e = .returned (.bool true) ∧ Below w.heap.size w w' := by
  have hgt' : (FloatKind.f64.format.order V 0 == some Ordering.gt) = true := hgt
  have hneg := run_neg (neg_pos hV)
  obtain ⟨F, hF⟩ : ∃ F, 9223372036854775808 + V = F := ⟨_, rfl⟩
  rw [hF] at hneg kn
  obtain ⟨s, hs⟩ : ∃ s : ByteArray, s = ⟨T.toArray⟩ := ⟨_, rfl⟩
  obtain ⟨s2, hs2⟩ : ∃ s2 : ByteArray, s2 = ⟨(45 :: T).toArray⟩ := ⟨_, rfl⟩
  have hcat : (⟨#[45]⟩ : ByteArray) ++ s = s2 := by rw [hs, hs2]; exact cat_neg T
  have hsz : s.size ≤ 3000 := by rw [hs]; simpa [ByteArray.size] using hl
  have hsz0 : 0 < s.size := by rw [hs, hT]; simp [ByteArray.size]
  have hem : s.toList.isEmpty = false := by rw [hs, hT]; simp
  obtain ⟨x, hx⟩ : ∃ x : Nat, c.toNat = x := ⟨_, rfl⟩
  have hxl : x < 256 := by rw [← hx]; exact c.toNat_lt
  have hx45 : x ≠ 45 := by rw [← hx]; intro e; exact hc (UInt8.toNat_inj.1 e)
  have hbx : ((x : Int) == 45) = false := by simp; omega
  have hidx : ∀ h : 0 < s.size, (s[0]'h).toNat = x := fun h => by
    subst hs hT
    exact hx
  rw [← hs] at kp k1
  rw [← hs2] at kn
  have KP : Hid _ := kp
  have KN : Hid _ := kn
  have K1 : Hid _ := k1
  have hge : decide (ed > 0) = true := decide_eq_true hed
  clear kp kn k1 hs hs2 hT hx hc hed hF
  go_enter Tryz.func3, Tryz.ntmps3
  go_upto_region 8 with (first
    | (go_at_call 4; refine (KP.out _ (Below.refl _ _)).mono ?_; rintro e w2 ⟨rfl, hB⟩; have B2 : Hid (Below w.heap.size w w2) := hB; clear hB))
  go_upto_region 11 with (first
    | (go_at_call 4; refine (KN.out _ B2.out).mono ?_; rintro e w3 ⟨rfl, hB⟩; have B3 : Hid (Below w.heap.size w w3) := B2.out.trans (hB.mono B2.out.size); clear hB)
    | simp only [hneg])
  go_wp2_with (go_at_call 4; refine (K1.out _ B3.out).mono ?_; rintro e w4 ⟨rfl, hB⟩; have B4 : Hid (Below w.heap.size w w4) := B3.out.trans (hB.mono B3.out.size); clear hB)
  go_ret
  exact ⟨rfl, B4.out⟩

set_option maxHeartbeats 2000000 in
theorem law_64_down (V : Nat) (ed : Int) (T : List UInt8) (c : UInt8) (r : List UInt8) (w : World) (hT : T = c :: r) (hc : c ≠ 45) (hl : T.length ≤ 3000) (hV : V < 9223372036854775808) (hgt : (Ieee.double.order V 0 == some Ordering.gt) = true) (hed : ¬ 0 < ed)
    (kp : ∀ W : World, Below w.heap.size w W → Calls Tryz.prog 4 #[.float .f64 V, .int .i64 64, .int .i64 ed] W fun e w' => e = .returned (.string ⟨T.toArray⟩) ∧ Below W.heap.size W w')
    (kn : ∀ W : World, Below w.heap.size w W → Calls Tryz.prog 4 #[.float .f64 (9223372036854775808 + V), .int .i64 64, .int .i64 ed] W fun e w' => e = .returned (.string ⟨(45 :: T).toArray⟩) ∧ Below W.heap.size W w') :
    Calls Tryz.prog 3 #[.float .f64 V, .int .i64 64, .int .i64 ed] w fun e w' => e = .returned (.bool true) ∧ Below w.heap.size w w' := by
  have hgt' : (FloatKind.f64.format.order V 0 == some Ordering.gt) = true := hgt
  have hneg := run_neg (neg_pos hV)
  obtain ⟨F, hF⟩ : ∃ F, 9223372036854775808 + V = F := ⟨_, rfl⟩
  rw [hF] at hneg kn
  obtain ⟨s, hs⟩ : ∃ s : ByteArray, s = ⟨T.toArray⟩ := ⟨_, rfl⟩
  obtain ⟨s2, hs2⟩ : ∃ s2 : ByteArray, s2 = ⟨(45 :: T).toArray⟩ := ⟨_, rfl⟩
  have hcat : (⟨#[45]⟩ : ByteArray) ++ s = s2 := by rw [hs, hs2]; exact cat_neg T
  have hsz : s.size ≤ 3000 := by rw [hs]; simpa [ByteArray.size] using hl
  have hsz0 : 0 < s.size := by rw [hs, hT]; simp [ByteArray.size]
  have hem : s.toList.isEmpty = false := by rw [hs, hT]; simp
  obtain ⟨x, hx⟩ : ∃ x : Nat, c.toNat = x := ⟨_, rfl⟩
  have hxl : x < 256 := by rw [← hx]; exact c.toNat_lt
  have hx45 : x ≠ 45 := by rw [← hx]; intro e; exact hc (UInt8.toNat_inj.1 e)
  have hbx : ((x : Int) == 45) = false := by simp; omega
  have hidx : ∀ h : 0 < s.size, (s[0]'h).toNat = x := fun h => by
    subst hs hT
    exact hx
  rw [← hs] at kp
  rw [← hs2] at kn
  have KP : Hid _ := kp
  have KN : Hid _ := kn
  have hge : decide (ed > 0) = false := decide_eq_false hed
  clear kp kn hs hs2 hT hx hc hed hF
  go_enter Tryz.func3, Tryz.ntmps3
  go_upto_region 8 with (first
    | (go_at_call 4; refine (KP.out _ (Below.refl _ _)).mono ?_; rintro e w2 ⟨rfl, hB⟩; have B2 : Hid (Below w.heap.size w w2) := hB; clear hB))
  go_upto_region 11 with (first
    | (go_at_call 4; refine (KN.out _ B2.out).mono ?_; rintro e w3 ⟨rfl, hB⟩; have B3 : Hid (Below w.heap.size w w3) := B2.out.trans (hB.mono B2.out.size); clear hB)
    | simp only [hneg])
  go_wp2_with fail
  go_ret
  exact ⟨rfl, B3.out⟩

set_option maxHeartbeats 2000000 in
theorem law_32_up (V : Nat) (ed : Int) (T : List UInt8) (c : UInt8) (r : List UInt8) (w : World) (hT : T = c :: r) (hc : c ≠ 45) (hl : T.length ≤ 3000) (hV : V < 9223372036854775808) (hgt : (Ieee.double.order V 0 == some Ordering.gt) = true) (hed : 0 < ed) (v : Nat) (c1 : ∀ W : World, (convert 22 23 (.float .f64 V)).run Tryz.prog W = .ok (.float .f32 v) W) (c2 : ∀ W : World, (convert 23 22 (.float .f32 v)).run Tryz.prog W = .ok (.float .f64 V) W) (heq : (Ieee.double.order V V == some Ordering.eq) = true)
    (kp : ∀ W : World, Below w.heap.size w W → Calls Tryz.prog 4 #[.float .f64 V, .int .i64 32, .int .i64 ed] W fun e w' => e = .returned (.string ⟨T.toArray⟩) ∧ Below W.heap.size W w')
    (kn : ∀ W : World, Below w.heap.size w W → Calls Tryz.prog 4 #[.float .f64 (9223372036854775808 + V), .int .i64 32, .int .i64 ed] W fun e w' => e = .returned (.string ⟨(45 :: T).toArray⟩) ∧ Below W.heap.size W w') (k1 : ∀ W : World, Below w.heap.size w W → Calls Tryz.prog 4 #[.float .f64 V, .int .i64 32, .int .i64 1] W fun e w' => e = .returned (.string ⟨T.toArray⟩) ∧ Below W.heap.size W w') :
    Calls Tryz.prog 3 #[.float .f64 V, .int .i64 32, .int .i64 ed] w fun e w' => e = .returned (.bool true) ∧ Below w.heap.size w w' := by
  have hgt' : (FloatKind.f64.format.order V 0 == some Ordering.gt) = true := hgt
  have hneg := run_neg (neg_pos hV)
  obtain ⟨F, hF⟩ : ∃ F, 9223372036854775808 + V = F := ⟨_, rfl⟩
  rw [hF] at hneg kn
  obtain ⟨s, hs⟩ : ∃ s : ByteArray, s = ⟨T.toArray⟩ := ⟨_, rfl⟩
  obtain ⟨s2, hs2⟩ : ∃ s2 : ByteArray, s2 = ⟨(45 :: T).toArray⟩ := ⟨_, rfl⟩
  have hcat : (⟨#[45]⟩ : ByteArray) ++ s = s2 := by rw [hs, hs2]; exact cat_neg T
  have hsz : s.size ≤ 3000 := by rw [hs]; simpa [ByteArray.size] using hl
  have hsz0 : 0 < s.size := by rw [hs, hT]; simp [ByteArray.size]
  have hem : s.toList.isEmpty = false := by rw [hs, hT]; simp
  obtain ⟨x, hx⟩ : ∃ x : Nat, c.toNat = x := ⟨_, rfl⟩
  have hxl : x < 256 := by rw [← hx]; exact c.toNat_lt
  have hx45 : x ≠ 45 := by rw [← hx]; intro e; exact hc (UInt8.toNat_inj.1 e)
  have hbx : ((x : Int) == 45) = false := by simp; omega
  have hidx : ∀ h : 0 < s.size, (s[0]'h).toNat = x := fun h => by
    subst hs hT
    exact hx
  rw [← hs] at kp k1
  rw [← hs2] at kn
  have KP : Hid _ := kp
  have KN : Hid _ := kn
  have K1 : Hid _ := k1
  have heq' : (FloatKind.f64.format.order V V == some Ordering.eq) = true := heq
  have heq2 : (Ieee.double.order V V != some Ordering.eq) = false := by simp [bne, heq]
  have heq3 : (FloatKind.f64.format.order V V != some Ordering.eq) = false := heq2
  have hge : decide (ed > 0) = true := decide_eq_true hed
  clear kp kn k1 hs hs2 hT hx hc hed hF
  go_enter Tryz.func3, Tryz.ntmps3
  go_upto_region 8 with (first
    | (go_at_call 4; refine (KP.out _ (Below.refl _ _)).mono ?_; rintro e w2 ⟨rfl, hB⟩; have B2 : Hid (Below w.heap.size w w2) := hB; clear hB)
    | simp only [c1]
    | simp only [c2])
  go_upto_region 11 with (first
    | (go_at_call 4; refine (KN.out _ B2.out).mono ?_; rintro e w3 ⟨rfl, hB⟩; have B3 : Hid (Below w.heap.size w w3) := B2.out.trans (hB.mono B2.out.size); clear hB)
    | simp only [hneg])
  go_wp2_with (go_at_call 4; refine (K1.out _ B3.out).mono ?_; rintro e w4 ⟨rfl, hB⟩; have B4 : Hid (Below w.heap.size w w4) := B3.out.trans (hB.mono B3.out.size); clear hB)
  go_ret
  exact ⟨rfl, B4.out⟩

set_option maxHeartbeats 2000000 in
theorem law_32_down (V : Nat) (ed : Int) (T : List UInt8) (c : UInt8) (r : List UInt8) (w : World) (hT : T = c :: r) (hc : c ≠ 45) (hl : T.length ≤ 3000) (hV : V < 9223372036854775808) (hgt : (Ieee.double.order V 0 == some Ordering.gt) = true) (hed : ¬ 0 < ed) (v : Nat) (c1 : ∀ W : World, (convert 22 23 (.float .f64 V)).run Tryz.prog W = .ok (.float .f32 v) W) (c2 : ∀ W : World, (convert 23 22 (.float .f32 v)).run Tryz.prog W = .ok (.float .f64 V) W) (heq : (Ieee.double.order V V == some Ordering.eq) = true)
    (kp : ∀ W : World, Below w.heap.size w W → Calls Tryz.prog 4 #[.float .f64 V, .int .i64 32, .int .i64 ed] W fun e w' => e = .returned (.string ⟨T.toArray⟩) ∧ Below W.heap.size W w')
    (kn : ∀ W : World, Below w.heap.size w W → Calls Tryz.prog 4 #[.float .f64 (9223372036854775808 + V), .int .i64 32, .int .i64 ed] W fun e w' => e = .returned (.string ⟨(45 :: T).toArray⟩) ∧ Below W.heap.size W w') :
    Calls Tryz.prog 3 #[.float .f64 V, .int .i64 32, .int .i64 ed] w fun e w' => e = .returned (.bool true) ∧ Below w.heap.size w w' := by
  have hgt' : (FloatKind.f64.format.order V 0 == some Ordering.gt) = true := hgt
  have hneg := run_neg (neg_pos hV)
  obtain ⟨F, hF⟩ : ∃ F, 9223372036854775808 + V = F := ⟨_, rfl⟩
  rw [hF] at hneg kn
  obtain ⟨s, hs⟩ : ∃ s : ByteArray, s = ⟨T.toArray⟩ := ⟨_, rfl⟩
  obtain ⟨s2, hs2⟩ : ∃ s2 : ByteArray, s2 = ⟨(45 :: T).toArray⟩ := ⟨_, rfl⟩
  have hcat : (⟨#[45]⟩ : ByteArray) ++ s = s2 := by rw [hs, hs2]; exact cat_neg T
  have hsz : s.size ≤ 3000 := by rw [hs]; simpa [ByteArray.size] using hl
  have hsz0 : 0 < s.size := by rw [hs, hT]; simp [ByteArray.size]
  have hem : s.toList.isEmpty = false := by rw [hs, hT]; simp
  obtain ⟨x, hx⟩ : ∃ x : Nat, c.toNat = x := ⟨_, rfl⟩
  have hxl : x < 256 := by rw [← hx]; exact c.toNat_lt
  have hx45 : x ≠ 45 := by rw [← hx]; intro e; exact hc (UInt8.toNat_inj.1 e)
  have hbx : ((x : Int) == 45) = false := by simp; omega
  have hidx : ∀ h : 0 < s.size, (s[0]'h).toNat = x := fun h => by
    subst hs hT
    exact hx
  rw [← hs] at kp
  rw [← hs2] at kn
  have KP : Hid _ := kp
  have KN : Hid _ := kn
  have heq' : (FloatKind.f64.format.order V V == some Ordering.eq) = true := heq
  have heq2 : (Ieee.double.order V V != some Ordering.eq) = false := by simp [bne, heq]
  have heq3 : (FloatKind.f64.format.order V V != some Ordering.eq) = false := heq2
  have hge : decide (ed > 0) = false := decide_eq_false hed
  clear kp kn hs hs2 hT hx hc hed hF
  go_enter Tryz.func3, Tryz.ntmps3
  go_upto_region 8 with (first
    | (go_at_call 4; refine (KP.out _ (Below.refl _ _)).mono ?_; rintro e w2 ⟨rfl, hB⟩; have B2 : Hid (Below w.heap.size w w2) := hB; clear hB)
    | simp only [c1]
    | simp only [c2])
  go_upto_region 11 with (first
    | (go_at_call 4; refine (KN.out _ B2.out).mono ?_; rintro e w3 ⟨rfl, hB⟩; have B3 : Hid (Below w.heap.size w w3) := B2.out.trans (hB.mono B2.out.size); clear hB)
    | simp only [hneg])
  go_wp2_with fail
  go_ret
  exact ⟨rfl, B3.out⟩
end Go.Proofs.Qxb6606417aGreatDoor
