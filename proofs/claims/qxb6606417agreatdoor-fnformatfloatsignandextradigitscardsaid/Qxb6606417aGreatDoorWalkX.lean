import Derived.Test.Qxb6606417aGreatDoorWalkS
import Derived.WalkMore
namespace Go.Proofs.Qxb6606417aGreatDoor
open Go.RowKit Go.PlainAid
set_option linter.unusedVariables false
set_option linter.unusedSimpArgs false
set_option maxRecDepth 100000
theorem special_walk (s : ByteArray) (B : Nat → Nat) (w : World) (hidx : ∀ i (h : i < s.size), s[i].toNat = B i) (h0 : 0 < s.size) (hb1 : 49 ≤ B 0) (hb2 : B 0 ≤ 57) : Calls Tryz.prog 143 #[.string s] w fun e w' => e = .returned (.tuple #[.float .f64 0, .int .i64 0, .bool false]) ∧ w' = w := by
  have hne : ((s.size : Int) == 0) = false := beq_eq_false_iff_ne.2 (by omega)
  obtain ⟨b, hb⟩ : ∃ b, B 0 = b := ⟨_, rfl⟩
  have hi0 := hidx 0 h0
  rw [hb] at hi0 hb1 hb2
  clear hidx hb
  have e1 : ((b : Int) == 43) = false := by simp; omega
  have e2 : ((b : Int) == 45) = false := by simp; omega
  have e3 : ((b : Int) == 105) = false := by simp; omega
  have e4 : ((b : Int) == 73) = false := by simp; omega
  have e5 : ((b : Int) == 110) = false := by simp; omega
  have e6 : ((b : Int) == 78) = false := by simp; omega
  go_enter Tryz.func143, Tryz.ntmps143
  go_wp2
  go_ret3
  exact ⟨rfl, rfl⟩
theorem lower_e (w : World) : Calls Tryz.prog 110 #[.int .u8 101] w fun e w' => e = .returned (.int .u8 101) ∧ w = w' := by
  have h : bits BinOp.or IntKind.u8 101 32 = 101 := by decide
  go_enter Tryz.func110, Tryz.ntmps110
  go_wp2
  go_ret
  exact ⟨rfl, rfl⟩

set_option maxHeartbeats 4000000 in
theorem readFloat_pos (s : ByteArray) (B : Nat → Nat) (w : World) (n1 m2 sz : Nat) (P G : Nat → Nat) (hidx : ∀ i (h : i < s.size), s[i].toNat = B i) (hsze : s.size = sz) (hszo : sz = n1 + 1 + m2) (hn1 : 1 ≤ n1) (hn2 : n1 ≤ 18) (hm1 : 1 ≤ m2) (hm2 : m2 ≤ 18)
    (hB1 : ∀ i, i < n1 → 48 ≤ B i ∧ B i ≤ 57) (hB0 : B 0 ≠ 48) (hBe : B n1 = 101) (hB2 : ∀ j, j < m2 → 48 ≤ B (n1 + 1 + j) ∧ B (n1 + 1 + j) ≤ 57)
    (hP0 : P 0 = 0) (hPs : ∀ i, i < n1 → P (i + 1) = P i * 10 + (B i - 48)) (hPl : ∀ i, i ≤ n1 → P i < 1000000000000000000) (hPn : 0 < P n1)
    (hG0 : G 0 = 0) (hGs : ∀ j, j < m2 → G (j + 1) = G j * 10 + (B (n1 + 1 + j) - 48)) (hGl : ∀ j, j ≤ m2 → G j ≤ 1000) :
    Calls Tryz.prog 144 #[.string s] w fun e w' => e = .returned (.tuple #[.int .u64 (P n1), .int .i64 (G m2 : Int), .bool false, .bool false, .bool false, .int .i64 (sz : Int), .bool true]) ∧ w' = w := by
  have HI : Hid (∀ i (h : i < s.size), s[i].toNat = B i) := hidx
  have hi0 := hidx 0 (by omega)
  have hb0 := hB1 0 (by omega)
  obtain ⟨b0, hb0e⟩ : ∃ b, B 0 = b := ⟨_, rfl⟩
  rw [hb0e] at hi0 hb0 hB0
  have H1 : Hid (∀ i, i < n1 → 48 ≤ B i ∧ B i ≤ 57) := hB1
  have H2 : Hid (∀ j, j < m2 → 48 ≤ B (n1 + 1 + j) ∧ B (n1 + 1 + j) ≤ 57) := hB2
  have HP : Hid (∀ i, i < n1 → P (i + 1) = P i * 10 + (B i - 48)) := hPs
  have HPL : Hid (∀ i, i ≤ n1 → P i < 1000000000000000000) := hPl
  have HG : Hid (∀ j, j < m2 → G (j + 1) = G j * 10 + (B (n1 + 1 + j) - 48)) := hGs
  have HGL : Hid (∀ j, j ≤ m2 → G j ≤ 1000) := hGl
  have HBE : Hid (B n1 = 101) := hBe
  have HPN : Hid (0 < P n1) := hPn
  have HP0 : Hid (P 0 = 0) := hP0
  have HG0 : Hid (G 0 = 0) := hG0
  have HB00 : Hid (B 0 = b0) := hb0e

  have HSZ : Hid (s.size = sz) := hsze
  have f1 : ((b0 : Int) == 43) = false := by simp; omega
  have f2 : ((b0 : Int) == 45) = false := by simp; omega
  have f3 : ((b0 : Int) == 48) = false := by simp; omega
  have f4 : decide ((0 : Int) ≥ (sz : Int)) = false := decide_eq_false (by omega)
  have f5 : decide ((2 : Int) < (sz : Int)) = true := decide_eq_true (by omega)
  clear hidx hB1 hB2 hPs hPl hGs hGl hBe hPn hP0 hG0 hb0e 
  go_enter Tryz.func144, Tryz.ntmps144
  go_wp2_with fail
  go_step3
  go_wp2_with fail
  go_step3
  go_wp2_with fail
  go_loop [2, 5, 7, 9, 13, 14, 15, 16, 17] (fun v2 v5 v7 v9 v13 v14 v15 v16 v17 => ∃ i : Nat, i ≤ n1 ∧ v2 = .int .u64 (P i) ∧ v5 = .bool false ∧ v7 = .int .i64 i ∧ v9 = .bool false ∧ v13 = .bool false ∧ v14 = .bool (decide (0 < i)) ∧ v15 = .int .i64 i ∧ v16 = .int .i64 i ∧ v17 = .int .i64 0) (fun _ _ v7 _ _ _ _ _ _ => sz - (intOf v7).toNat)
  case atStart => exact ⟨0, Nat.zero_le _, by rw [HP0.out]; rfl, rfl, rfl, rfl, rfl, rfl, rfl, rfl, rfl⟩
  case round =>
    obtain ⟨i, hi, rfl, rfl, rfl, rfl, rfl, rfl, rfl, rfl, rfl⟩ := hrel
    have hil : decide ((i : Int) < (sz : Int)) = true := decide_eq_true (by omega)
    have hii : i < s.size := by rw [HSZ.out]; omega
    have hix := HI.out i hii
    by_cases hlt : i < n1
    · have hBi := H1.out i hlt
      have hPi := HP.out i hlt
      have hpl := HPL.out i hi
      have hpl2 := HPL.out (i + 1) hlt
      have hz : i = 0 → B i ≠ 48 := fun h => by subst h; rw [HB00.out]; exact hB0
      obtain ⟨b, hb⟩ : ∃ b, B i = b := ⟨_, rfl⟩
      rw [hb] at hix hBi hPi hz
      obtain ⟨y, hy⟩ : ∃ y, P i = y := ⟨_, rfl⟩
      rw [hy] at hpl hPi ⊢
      have HY : Hid (P (i + 1) = y * 10 + (b - 48)) := hPi
      rw [hPi] at hpl2
      have g1 : ((b : Int) == 95) = false := by simp; omega
      have g2 : ((b : Int) == 46) = false := by simp; omega
      have g3 : decide ((48 : Int) ≤ (b : Int)) = true := decide_eq_true (by omega)
      have g4 : decide ((b : Int) ≤ 57) = true := decide_eq_true (by omega)
      have g6 : decide ((i : Int) < 19) = true := decide_eq_true (by omega)
      clear hPi hb hy
      by_cases h48 : b = 48
      · have g5 : ((b : Int) == 48) = true := by simp; omega
        have g7 : ((i : Int) == 0) = false := by simp; intro h; exact hz h h48
        go_wp2_with fail
        refine ⟨⟨i + 1, hlt, ?_, rfl, by go_num, rfl, rfl, ?_, by go_num, by go_num, rfl⟩, ?_⟩
        all_goals go_light
        · rw [HY.out]; show Value.int _ _ = Value.int _ _; congr 1; omega
        · simp
        · simp [intOf]; omega
      · have g5 : ((b : Int) == 48) = false := by simp; omega
        go_wp2_with fail
        refine ⟨⟨i + 1, hlt, ?_, rfl, by go_num, rfl, rfl, ?_, by go_num, by go_num, rfl⟩, ?_⟩
        all_goals go_light
        · rw [HY.out]; show Value.int _ _ = Value.int _ _; congr 1; omega
        · simp
        · simp [intOf]; omega
    · obtain rfl : i = n1 := by omega
      rw [HBE.out] at hix
      have hdec : decide (0 < i) = true := decide_eq_true (by omega)
      rw [hdec]
      have hbx := HI.out (i + 1) (by rw [HSZ.out]; omega)
      have hil1 : decide ((i : Int) + 1 ≥ (sz : Int)) = false := decide_eq_false (by omega)
      have K110 : Hid (∀ W : World, Calls Tryz.prog 110 #[.int .u8 101] W fun e w' => e = .returned (.int .u8 101) ∧ W = w') := lower_e
      obtain ⟨y, hy⟩ : ∃ y, P i = y := ⟨_, rfl⟩
      have hyl := HPL.out i (Nat.le_refl _)
      have hy0 := HPN.out
      rw [hy] at hyl hy0
      rw [hy]
      have hyn : ((y : Int) != 0) = true := by simp; omega
      have hb2 := H2.out 0 (by omega)
      rw [Nat.add_zero] at hb2
      obtain ⟨bx, hbxe⟩ : ∃ b, B (i + 1) = b := ⟨_, rfl⟩
      rw [hbxe] at hbx hb2
      have r1 : ((bx : Int) == 43) = false := by simp; omega
      have r2 : ((bx : Int) == 45) = false := by simp; omega
      have r3 : decide ((bx : Int) < 48) = false := decide_eq_false (by omega)
      have r4 : decide ((bx : Int) > 57) = false := decide_eq_false (by omega)
      clear hbxe
      go_wp2_with (go_at_call 110; refine (K110.out _).mono ?_; rintro e w' ⟨rfl, hw⟩; subst hw)
      go_loop [7, 9, 20] (fun v7 v9 v20 => ∃ j : Nat, j ≤ m2 ∧ v7 = .int .i64 ((i : Int) + 1 + j) ∧ v9 = .bool false ∧ v20 = .int .i64 (G j)) (fun v7 _ _ => sz - (intOf v7).toNat)
      case atStart => exact ⟨0, Nat.zero_le _, by apply congrArg (Value.int IntKind.i64); omega, rfl, by rw [HG0.out]; rfl⟩
      case round =>
        obtain ⟨j, hj, rfl, rfl, rfl⟩ := hrel
        by_cases hlt2 : j < m2
        · have hbj := H2.out j hlt2
          have hGj := HG.out j hlt2
          have hgl := HGL.out j hj
          have hixj := HI.out (i + 1 + j) (by rw [HSZ.out]; omega)
          obtain ⟨b, hb⟩ : ∃ b, B (i + 1 + j) = b := ⟨_, rfl⟩
          rw [hb] at hbj hGj hixj
          obtain ⟨g, hg⟩ : ∃ g, G j = g := ⟨_, rfl⟩
          rw [hg] at hGj hgl ⊢
          have HGJ : Hid (G (j + 1) = g * 10 + (b - 48)) := hGj
          have q1 : decide ((i : Int) + 1 + j < (sz : Int)) = true := decide_eq_true (by omega)
          have q2 : decide ((48 : Int) ≤ (b : Int)) = true := decide_eq_true (by omega)
          have q3 : decide ((b : Int) ≤ 57) = true := decide_eq_true (by omega)
          have q4 : ((b : Int) == 95) = false := by simp; omega
          have q5 : decide ((g : Int) < 10000) = true := decide_eq_true (by omega)
          clear hGj hb hg
          go_wp2_with fail
          refine ⟨⟨j + 1, hlt2, ?_, rfl, ?_⟩, ?_⟩
          all_goals go_light
          · show Value.int _ _ = Value.int _ _; congr 1
          · rw [HGJ.out]; show Value.int _ _ = Value.int _ _; congr 1; omega
          · simp [intOf]; omega
        · obtain rfl : j = m2 := by omega
          have q1 : decide ((i : Int) + 1 + j < (sz : Int)) = false := decide_eq_false (by omega)
          obtain ⟨g, hg⟩ : ∃ g, G j = g := ⟨_, rfl⟩
          have hgl := HGL.out j (Nat.le_refl _)
          rw [hg] at hgl
          rw [hg]
          go_wp2_with fail
          go_returns
          refine ⟨?_, rfl⟩
          rw [hy, hg, show ((i : Int) + (g : Int) - (i : Int)) = (g : Int) from by omega, show ((i : Int) + 1 + (j : Int)) = (sz : Int) from by omega]

set_option maxHeartbeats 4000000 in
theorem readFloat_neg (s : ByteArray) (B : Nat → Nat) (w : World) (n1 m2 sz : Nat) (P G : Nat → Nat) (hidx : ∀ i (h : i < s.size), s[i].toNat = B i) (hsze : s.size = sz) (hszo : sz = n1 + 2 + m2) (hn1 : 1 ≤ n1) (hn2 : n1 ≤ 18) (hm1 : 1 ≤ m2) (hm2 : m2 ≤ 18)
    (hB1 : ∀ i, i < n1 → 48 ≤ B i ∧ B i ≤ 57) (hB0 : B 0 ≠ 48) (hBe : B n1 = 101) (hBn : B (n1 + 1) = 45) (hB2 : ∀ j, j < m2 → 48 ≤ B (n1 + 2 + j) ∧ B (n1 + 2 + j) ≤ 57)
    (hP0 : P 0 = 0) (hPs : ∀ i, i < n1 → P (i + 1) = P i * 10 + (B i - 48)) (hPl : ∀ i, i ≤ n1 → P i < 1000000000000000000) (hPn : 0 < P n1)
    (hG0 : G 0 = 0) (hGs : ∀ j, j < m2 → G (j + 1) = G j * 10 + (B (n1 + 2 + j) - 48)) (hGl : ∀ j, j ≤ m2 → G j ≤ 1000) :
    Calls Tryz.prog 144 #[.string s] w fun e w' => e = .returned (.tuple #[.int .u64 (P n1), .int .i64 (-(G m2 : Int)), .bool false, .bool false, .bool false, .int .i64 (sz : Int), .bool true]) ∧ w' = w := by
  have HI : Hid (∀ i (h : i < s.size), s[i].toNat = B i) := hidx
  have hi0 := hidx 0 (by omega)
  have hb0 := hB1 0 (by omega)
  obtain ⟨b0, hb0e⟩ : ∃ b, B 0 = b := ⟨_, rfl⟩
  rw [hb0e] at hi0 hb0 hB0
  have H1 : Hid (∀ i, i < n1 → 48 ≤ B i ∧ B i ≤ 57) := hB1
  have H2 : Hid (∀ j, j < m2 → 48 ≤ B (n1 + 2 + j) ∧ B (n1 + 2 + j) ≤ 57) := hB2
  have HP : Hid (∀ i, i < n1 → P (i + 1) = P i * 10 + (B i - 48)) := hPs
  have HPL : Hid (∀ i, i ≤ n1 → P i < 1000000000000000000) := hPl
  have HG : Hid (∀ j, j < m2 → G (j + 1) = G j * 10 + (B (n1 + 2 + j) - 48)) := hGs
  have HGL : Hid (∀ j, j ≤ m2 → G j ≤ 1000) := hGl
  have HBE : Hid (B n1 = 101) := hBe
  have HPN : Hid (0 < P n1) := hPn
  have HP0 : Hid (P 0 = 0) := hP0
  have HG0 : Hid (G 0 = 0) := hG0
  have HB00 : Hid (B 0 = b0) := hb0e
  have HBN : Hid (B (n1 + 1) = 45) := hBn
  have HSZ : Hid (s.size = sz) := hsze
  have f1 : ((b0 : Int) == 43) = false := by simp; omega
  have f2 : ((b0 : Int) == 45) = false := by simp; omega
  have f3 : ((b0 : Int) == 48) = false := by simp; omega
  have f4 : decide ((0 : Int) ≥ (sz : Int)) = false := decide_eq_false (by omega)
  have f5 : decide ((2 : Int) < (sz : Int)) = true := decide_eq_true (by omega)
  clear hidx hB1 hB2 hPs hPl hGs hGl hBe hPn hP0 hG0 hb0e hBn
  go_enter Tryz.func144, Tryz.ntmps144
  go_wp2_with fail
  go_step3
  go_wp2_with fail
  go_step3
  go_wp2_with fail
  go_loop [2, 5, 7, 9, 13, 14, 15, 16, 17] (fun v2 v5 v7 v9 v13 v14 v15 v16 v17 => ∃ i : Nat, i ≤ n1 ∧ v2 = .int .u64 (P i) ∧ v5 = .bool false ∧ v7 = .int .i64 i ∧ v9 = .bool false ∧ v13 = .bool false ∧ v14 = .bool (decide (0 < i)) ∧ v15 = .int .i64 i ∧ v16 = .int .i64 i ∧ v17 = .int .i64 0) (fun _ _ v7 _ _ _ _ _ _ => sz - (intOf v7).toNat)
  case atStart => exact ⟨0, Nat.zero_le _, by rw [HP0.out]; rfl, rfl, rfl, rfl, rfl, rfl, rfl, rfl, rfl⟩
  case round =>
    obtain ⟨i, hi, rfl, rfl, rfl, rfl, rfl, rfl, rfl, rfl, rfl⟩ := hrel
    have hil : decide ((i : Int) < (sz : Int)) = true := decide_eq_true (by omega)
    have hii : i < s.size := by rw [HSZ.out]; omega
    have hix := HI.out i hii
    by_cases hlt : i < n1
    · have hBi := H1.out i hlt
      have hPi := HP.out i hlt
      have hpl := HPL.out i hi
      have hpl2 := HPL.out (i + 1) hlt
      have hz : i = 0 → B i ≠ 48 := fun h => by subst h; rw [HB00.out]; exact hB0
      obtain ⟨b, hb⟩ : ∃ b, B i = b := ⟨_, rfl⟩
      rw [hb] at hix hBi hPi hz
      obtain ⟨y, hy⟩ : ∃ y, P i = y := ⟨_, rfl⟩
      rw [hy] at hpl hPi ⊢
      have HY : Hid (P (i + 1) = y * 10 + (b - 48)) := hPi
      rw [hPi] at hpl2
      have g1 : ((b : Int) == 95) = false := by simp; omega
      have g2 : ((b : Int) == 46) = false := by simp; omega
      have g3 : decide ((48 : Int) ≤ (b : Int)) = true := decide_eq_true (by omega)
      have g4 : decide ((b : Int) ≤ 57) = true := decide_eq_true (by omega)
      have g6 : decide ((i : Int) < 19) = true := decide_eq_true (by omega)
      clear hPi hb hy
      by_cases h48 : b = 48
      · have g5 : ((b : Int) == 48) = true := by simp; omega
        have g7 : ((i : Int) == 0) = false := by simp; intro h; exact hz h h48
        go_wp2_with fail
        refine ⟨⟨i + 1, hlt, ?_, rfl, by go_num, rfl, rfl, ?_, by go_num, by go_num, rfl⟩, ?_⟩
        all_goals go_light
        · rw [HY.out]; show Value.int _ _ = Value.int _ _; congr 1; omega
        · simp
        · simp [intOf]; omega
      · have g5 : ((b : Int) == 48) = false := by simp; omega
        go_wp2_with fail
        refine ⟨⟨i + 1, hlt, ?_, rfl, by go_num, rfl, rfl, ?_, by go_num, by go_num, rfl⟩, ?_⟩
        all_goals go_light
        · rw [HY.out]; show Value.int _ _ = Value.int _ _; congr 1; omega
        · simp
        · simp [intOf]; omega
    · obtain rfl : i = n1 := by omega
      rw [HBE.out] at hix
      have hdec : decide (0 < i) = true := decide_eq_true (by omega)
      rw [hdec]
      have hbx := HI.out (i + 1) (by rw [HSZ.out]; omega)
      have hil1 : decide ((i : Int) + 1 ≥ (sz : Int)) = false := decide_eq_false (by omega)
      have K110 : Hid (∀ W : World, Calls Tryz.prog 110 #[.int .u8 101] W fun e w' => e = .returned (.int .u8 101) ∧ W = w') := lower_e
      obtain ⟨y, hy⟩ : ∃ y, P i = y := ⟨_, rfl⟩
      have hyl := HPL.out i (Nat.le_refl _)
      have hy0 := HPN.out
      rw [hy] at hyl hy0
      rw [hy]
      have hyn : ((y : Int) != 0) = true := by simp; omega
      rw [HBN.out] at hbx
      have hbx2 := HI.out (i + 1 + 1) (by rw [HSZ.out]; omega)
      have hb2 := H2.out 0 (by omega)
      rw [show i + 2 + 0 = i + 1 + 1 from by omega] at hb2
      obtain ⟨bx, hbxe⟩ : ∃ b, B (i + 1 + 1) = b := ⟨_, rfl⟩
      rw [hbxe] at hbx2 hb2
      have r3 : decide ((bx : Int) < 48) = false := decide_eq_false (by omega)
      have r4 : decide ((bx : Int) > 57) = false := decide_eq_false (by omega)
      have hil2 : decide ((i : Int) + 1 + 1 ≥ (sz : Int)) = false := decide_eq_false (by omega)
      clear hbxe
      go_wp2_with (go_at_call 110; refine (K110.out _).mono ?_; rintro e w' ⟨rfl, hw⟩; subst hw)
      go_loop [7, 9, 20] (fun v7 v9 v20 => ∃ j : Nat, j ≤ m2 ∧ v7 = .int .i64 ((i : Int) + 2 + j) ∧ v9 = .bool false ∧ v20 = .int .i64 (G j)) (fun v7 _ _ => sz - (intOf v7).toNat)
      case atStart => exact ⟨0, Nat.zero_le _, by apply congrArg (Value.int IntKind.i64); omega, rfl, by rw [HG0.out]; rfl⟩
      case round =>
        obtain ⟨j, hj, rfl, rfl, rfl⟩ := hrel
        by_cases hlt2 : j < m2
        · have hbj := H2.out j hlt2
          have hGj := HG.out j hlt2
          have hgl := HGL.out j hj
          have hixj := HI.out (i + 2 + j) (by rw [HSZ.out]; omega)
          obtain ⟨b, hb⟩ : ∃ b, B (i + 2 + j) = b := ⟨_, rfl⟩
          rw [hb] at hbj hGj hixj
          obtain ⟨g, hg⟩ : ∃ g, G j = g := ⟨_, rfl⟩
          rw [hg] at hGj hgl ⊢
          have HGJ : Hid (G (j + 1) = g * 10 + (b - 48)) := hGj
          have q1 : decide ((i : Int) + 2 + j < (sz : Int)) = true := decide_eq_true (by omega)
          have q2 : decide ((48 : Int) ≤ (b : Int)) = true := decide_eq_true (by omega)
          have q3 : decide ((b : Int) ≤ 57) = true := decide_eq_true (by omega)
          have q4 : ((b : Int) == 95) = false := by simp; omega
          have q5 : decide ((g : Int) < 10000) = true := decide_eq_true (by omega)
          clear hGj hb hg
          go_wp2_with fail
          refine ⟨⟨j + 1, hlt2, ?_, rfl, ?_⟩, ?_⟩
          all_goals go_light
          · show Value.int _ _ = Value.int _ _; congr 1
          · rw [HGJ.out]; show Value.int _ _ = Value.int _ _; congr 1; omega
          · simp [intOf]; omega
        · obtain rfl : j = m2 := by omega
          have q1 : decide ((i : Int) + 2 + j < (sz : Int)) = false := decide_eq_false (by omega)
          obtain ⟨g, hg⟩ : ∃ g, G j = g := ⟨_, rfl⟩
          have hgl := HGL.out j (Nat.le_refl _)
          rw [hg] at hgl
          rw [hg]
          go_wp2_with fail
          go_returns
          refine ⟨?_, rfl⟩
          rw [hy, hg, show ((i : Int) + -(g : Int) - (i : Int)) = -(g : Int) from by omega, show ((i : Int) + 2 + (j : Int)) = (sz : Int) from by omega]
end Go.Proofs.Qxb6606417aGreatDoor
