import Derived.Test.Qxb6612590aDoorRows
import Derived.Test.Qxb6612590aDoorPlain
import Derived.WalkKit
import Derived.WalkSpells
import Derived.WalkLawsBesides
import Derived.Handy
import Derived.PlainAid
import Derived.Deep.Light
import Derived.LoopTactic
import Derived.WalkSmall
import Derived.Deep.QuietTactic
import Derived.BigQuiet
namespace Go.Proofs.Qxb6612590aDoor
open Go.RowKit Go.PlainAid
set_option linter.unusedVariables false

/-! ### zzRuneLen -/
theorem bt_getD (s : ByteArray) (k : Nat) (h : k < s.size) : bt s k = ((s.data.toList.getD k 0).toNat : Int) := by
  unfold bt
  rw [dif_pos h, List.getD, Array.getElem?_toList, Array.getElem?_eq_getElem (show k < s.data.size from h)]
  rfl
/-- A well-formed sequence of k bytes stands at i. -/
def RlOk (s : ByteArray) (i k : Nat) : Prop :=
  0 < k ∧ i + k ≤ s.size ∧ (Lib.decodeL (s.data.toList.drop i)).2 = k ∧ ¬ ((Lib.decodeL (s.data.toList.drop i)).1 = 65533 ∧ (Lib.decodeL (s.data.toList.drop i)).2 = 1)
def RlPost (s : ByteArray) (i : Nat) (w : World) (e : Ending) (w' : World) : Prop := ∃ k : Nat, e = .returned (.int .i64 k) ∧ w' = w ∧ (k = 0 ∨ RlOk s i k)

theorem drop_getD (l : List UInt8) (i j : Nat) : (l.drop i).getD j 0 = l.getD (i + j) 0 := by
  rw [List.getD, List.getD, List.getElem?_drop]
theorem dec_at (s : ByteArray) (i : Nat) (b0 b1 b2 b3 : Nat) (h0 : (s.data.toList.getD i 0).toNat = b0) (h1 : (s.data.toList.getD (i + 1) 0).toNat = b1) (h2 : (s.data.toList.getD (i + 2) 0).toNat = b2) (h3 : (s.data.toList.getD (i + 3) 0).toNat = b3) :
    Lib.decodeL (s.data.toList.drop i) = Lib.decodeN (s.size - i) b0 b1 b2 b3 := by
  rw [Pl.decodeL_N, drop_getD, drop_getD, drop_getD, drop_getD, List.length_drop, Nat.add_zero, h0, h1, h2, h3]
  simp
theorem rl_one (s : ByteArray) (i : Nat) (hi : i < s.size) (h : bt s i < 128) : RlOk s i 1 := by
  rw [bt_getD s i hi] at h
  have e := dec_at s i _ _ _ _ rfl rfl rfl rfl
  unfold Lib.decodeN at e
  rw [if_pos (by omega)] at e
  refine ⟨by omega, by omega, by rw [e], ?_⟩
  rw [e]; simp only; omega
theorem rl_two (s : ByteArray) (i : Nat) (hi : i + 1 < s.size) (h0 : 194 ≤ bt s i) (h0' : bt s i < 224) (h1 : 128 ≤ bt s (i + 1)) (h1' : bt s (i + 1) ≤ 191) : RlOk s i 2 := by
  rw [bt_getD s i (by omega)] at h0 h0'
  rw [bt_getD s (i + 1) hi] at h1 h1'
  have e := dec_at s i _ _ _ _ rfl rfl rfl rfl
  unfold Lib.decodeN at e
  rw [if_neg (by omega), if_pos (by omega), if_pos (by omega)] at e
  refine ⟨by omega, by omega, by rw [e], ?_⟩
  rw [e]; simp only; omega
theorem rl_three (s : ByteArray) (i : Nat) (hi : i + 2 < s.size) (h0 : 224 ≤ bt s i) (h0' : bt s i < 240) (h1 : 128 ≤ bt s (i + 1)) (h1' : bt s (i + 1) ≤ 191) (ha : bt s i = 224 → 160 ≤ bt s (i + 1)) (hb : bt s i = 237 → bt s (i + 1) ≤ 159)
    (h2 : 128 ≤ bt s (i + 2)) (h2' : bt s (i + 2) ≤ 191) : RlOk s i 3 := by
  rw [bt_getD s i (by omega)] at h0 h0' ha hb
  rw [bt_getD s (i + 1) (by omega)] at h1 h1' ha hb
  rw [bt_getD s (i + 2) hi] at h2 h2'
  have e := dec_at s i _ _ _ _ rfl rfl rfl rfl
  unfold Lib.decodeN at e
  rw [if_neg (by omega), if_neg (by omega), if_pos (by omega), if_pos (by omega)] at e
  refine ⟨by omega, by omega, by rw [e], ?_⟩
  rw [e]; simp only; omega
theorem rl_four (s : ByteArray) (i : Nat) (hi : i + 3 < s.size) (h0 : 240 ≤ bt s i) (h0' : bt s i ≤ 244) (h1 : 128 ≤ bt s (i + 1)) (h1' : bt s (i + 1) ≤ 191) (ha : bt s i = 240 → 144 ≤ bt s (i + 1)) (hb : bt s i = 244 → bt s (i + 1) ≤ 143)
    (h2 : 128 ≤ bt s (i + 2)) (h2' : bt s (i + 2) ≤ 191) (h3 : 128 ≤ bt s (i + 3)) (h3' : bt s (i + 3) ≤ 191) : RlOk s i 4 := by
  rw [bt_getD s i (by omega)] at h0 h0' ha hb
  rw [bt_getD s (i + 1) (by omega)] at h1 h1' ha hb
  rw [bt_getD s (i + 2) (by omega)] at h2 h2'
  rw [bt_getD s (i + 3) hi] at h3 h3'
  have e := dec_at s i _ _ _ _ rfl rfl rfl rfl
  unfold Lib.decodeN at e
  rw [if_neg (by omega), if_neg (by omega), if_neg (by omega), if_pos (by omega), if_pos (by omega)] at e
  refine ⟨by omega, by omega, by rw [e], ?_⟩
  rw [e]; simp only; omega

set_option maxHeartbeats 4000000 in
theorem runeLen_any (s : ByteArray) (i : Nat) (w : World) (hi : i < s.size) (hs : s.size ≤ 1048576) :
    Calls Tryd.prog 20 #[.string s, .int .i64 (i : Int)] w fun e w' => RlPost s i w e w' := by
  have hb := get_bt s
  have hn := bt_nonneg s i
  have hx := bt_le s i
  have hI : (i : Int) < (s.size : Int) := by omega
  by_cases hA : bt s i < 128
  · go_enter Tryd.func20, Tryd.ntmps20
    go_wp2
    go_ret
    exact ⟨1, rfl, rfl, Or.inr (rl_one s i hi hA)⟩
  by_cases hB : bt s i < 194
  · go_enter Tryd.func20, Tryd.ntmps20
    go_wp2
    go_ret
    exact ⟨0, rfl, rfl, Or.inl rfl⟩
  by_cases hC : 244 < bt s i
  · go_enter Tryd.func20, Tryd.ntmps20
    go_wp2
    go_ret
    exact ⟨0, rfl, rfl, Or.inl rfl⟩
  by_cases hD : bt s i < 224
  · by_cases h1 : i + 1 < s.size
    · go_enter Tryd.func20, Tryd.ntmps20
      go_wp2
      all_goals go_ret
      all_goals first | exact ⟨0, rfl, rfl, Or.inl rfl⟩ | exact ⟨2, rfl, rfl, Or.inr (rl_two s i (by omega) (by omega) (by omega) (by omega) (by omega))⟩
    · go_enter Tryd.func20, Tryd.ntmps20
      go_wp2
      go_ret
      exact ⟨0, rfl, rfl, Or.inl rfl⟩
  by_cases h1 : i + 1 < s.size
  case neg =>
    go_enter Tryd.func20, Tryd.ntmps20
    go_wp2
    all_goals go_ret
    all_goals exact ⟨0, rfl, rfl, Or.inl rfl⟩
  by_cases hE : bt s i < 240
  · by_cases hF : bt s i = 224
    · have hG : (bt s i == 224) = true := by simp; omega
      have hH : (bt s i == 237) = false := by simp; omega
      have hJ : (bt s i == 240) = false := by simp; omega
      have hK : (bt s i == 244) = false := by simp; omega
      have HF : Hid (bt s i = 224) := hF
      clear hF
      go_enter Tryd.func20, Tryd.ntmps20
      go_wp2
      all_goals (try go_rounds 3)
      all_goals go_ret
      all_goals go_light
      all_goals have hF := HF.out
      all_goals first | exact ⟨0, rfl, rfl, Or.inl rfl⟩ | exact ⟨3, rfl, rfl, Or.inr (rl_three s i (by omega) (by omega) (by omega) (by omega) (by omega) (by omega) (by omega) (by omega) (by omega))⟩
    by_cases hF2 : bt s i = 237
    · have hG : (bt s i == 224) = false := by simp; omega
      have hH : (bt s i == 237) = true := by simp; omega
      have hJ : (bt s i == 240) = false := by simp; omega
      have hK : (bt s i == 244) = false := by simp; omega
      have HF : Hid (bt s i = 237) := hF2
      clear hF2
      go_enter Tryd.func20, Tryd.ntmps20
      go_wp2
      all_goals (try go_rounds 3)
      all_goals go_ret
      all_goals go_light
      all_goals have hF := HF.out
      all_goals first | exact ⟨0, rfl, rfl, Or.inl rfl⟩ | exact ⟨3, rfl, rfl, Or.inr (rl_three s i (by omega) (by omega) (by omega) (by omega) (by omega) (by omega) (by omega) (by omega) (by omega))⟩
    have hG : (bt s i == 224) = false := by simp; omega
    have hH : (bt s i == 237) = false := by simp; omega
    have hJ : (bt s i == 240) = false := by simp; omega
    have hK : (bt s i == 244) = false := by simp; omega
    go_enter Tryd.func20, Tryd.ntmps20
    go_wp2
    all_goals (try go_rounds 3)
    all_goals go_ret
    all_goals go_light
    all_goals first | exact ⟨0, rfl, rfl, Or.inl rfl⟩ | exact ⟨3, rfl, rfl, Or.inr (rl_three s i (by omega) (by omega) (by omega) (by omega) (by omega) (by omega) (by omega) (by omega) (by omega))⟩
  · by_cases hF : bt s i = 240
    · have hG : (bt s i == 224) = false := by simp; omega
      have hH : (bt s i == 237) = false := by simp; omega
      have hJ : (bt s i == 240) = true := by simp; omega
      have hK : (bt s i == 244) = false := by simp; omega
      have HF : Hid (bt s i = 240) := hF
      clear hF
      go_enter Tryd.func20, Tryd.ntmps20
      go_wp2
      all_goals (try go_rounds 4)
      all_goals go_ret
      all_goals go_light
      all_goals have hF := HF.out
      all_goals first | exact ⟨0, rfl, rfl, Or.inl rfl⟩ | exact ⟨4, rfl, rfl, Or.inr (rl_four s i (by omega) (by omega) (by omega) (by omega) (by omega) (by omega) (by omega) (by omega) (by omega) (by omega) (by omega))⟩
    by_cases hF2 : bt s i = 244
    · have hG : (bt s i == 224) = false := by simp; omega
      have hH : (bt s i == 237) = false := by simp; omega
      have hJ : (bt s i == 240) = false := by simp; omega
      have hK : (bt s i == 244) = true := by simp; omega
      have HF : Hid (bt s i = 244) := hF2
      clear hF2
      go_enter Tryd.func20, Tryd.ntmps20
      go_wp2
      all_goals (try go_rounds 4)
      all_goals go_ret
      all_goals go_light
      all_goals have hF := HF.out
      all_goals first | exact ⟨0, rfl, rfl, Or.inl rfl⟩ | exact ⟨4, rfl, rfl, Or.inr (rl_four s i (by omega) (by omega) (by omega) (by omega) (by omega) (by omega) (by omega) (by omega) (by omega) (by omega) (by omega))⟩
    have hG : (bt s i == 224) = false := by simp; omega
    have hH : (bt s i == 237) = false := by simp; omega
    have hJ : (bt s i == 240) = false := by simp; omega
    have hK : (bt s i == 244) = false := by simp; omega
    go_enter Tryd.func20, Tryd.ntmps20
    go_wp2
    all_goals (try go_rounds 4)
    all_goals go_ret
    all_goals go_light
    all_goals first | exact ⟨0, rfl, rfl, Or.inl rfl⟩ | exact ⟨4, rfl, rfl, Or.inr (rl_four s i (by omega) (by omega) (by omega) (by omega) (by omega) (by omega) (by omega) (by omega) (by omega) (by omega) (by omega))⟩
end Go.Proofs.Qxb6612590aDoor
