import Derived.Test.Qxb6612590aDoorWalkA
import Derived.Test.Qxb6612590aDoorWalkK
namespace Go.Proofs.Qxb6612590aDoor
open Go.RowKit Go.PlainAid
set_option linter.unusedVariables false

theorem ret_bool {a b : Bool} (h : a = b) : Ending.returned (.bool a) = .returned (.bool b) := by rw [h]
def BytesOk (a b : ByteArray) : Bool := decide (a.size + b.size ≤ 1048576)
set_option maxHeartbeats 400000 in
theorem zzBytes_any (a b : ByteArray) (w : World) (h1 : a.size ≤ maxLen) (h2 : b.size ≤ maxLen) :
    Calls Tryd.prog 5 #[.string a, .string b] w fun e w' => e = .returned (.bool (BytesOk a b)) ∧ w = w' := by
  unfold maxLen at h1 h2
  by_cases ha : a.size ≤ 1048576
  · by_cases hb : a.size + b.size ≤ 1048576
    · go_enter Tryd.func5, Tryd.ntmps5
      go_wp2
      all_goals go_ret
      all_goals exact ⟨ret_bool (by simp [BytesOk]; omega), rfl⟩
    · go_enter Tryd.func5, Tryd.ntmps5
      go_wp2
      all_goals go_ret
      all_goals exact ⟨ret_bool (by simp [BytesOk]; omega), rfl⟩
  · go_enter Tryd.func5, Tryd.ntmps5
    go_wp2
    all_goals go_ret
    all_goals exact ⟨ret_bool (by simp [BytesOk]; omega), rfl⟩

def ValPost (s : ByteArray) (w : World) (e : Ending) (w' : World) : Prop := ∃ r : Bool, e = .returned (.bool r) ∧ w = w' ∧ (r = true → Lib.validD s.data.toList = true)
def ValAt (s : ByteArray) (i : Nat) : Prop := Lib.validD s.data.toList = Lib.validD (s.data.toList.drop i)
theorem valAt_step {s : ByteArray} {i k : Nat} (h : ValAt s i) (hi : i < s.size) (hk : RlOk s i k) : ValAt s (i + k) := by
  unfold ValAt at h ⊢
  obtain ⟨h0, h1, h2, h3⟩ := hk
  have hne : s.data.toList.drop i ≠ [] := by
    intro e
    have := congrArg List.length e
    simp at this
    omega
  rw [h, Lib.validD_step _ hne, if_neg h3, h2, List.drop_drop]

set_option maxHeartbeats 400000 in
theorem valid_any (s : ByteArray) (w : World) (hs : s.size ≤ 1048576) :
    Calls Tryd.prog 6 #[.string s] w fun e w' => ValPost s w e w' := by
  go_enter Tryd.func6, Tryd.ntmps6
  go_wp2
  go_loop [3] (fun i => ∃ k : Nat, k ≤ s.size ∧ i = .int .i64 k ∧ ValAt s k) (fun i => s.size - (intOf i).toNat)
  case atStart => exact ⟨0, Nat.zero_le _, rfl, by unfold ValAt; rfl⟩
  case round =>
    obtain ⟨k, hk, rfl, hV⟩ := hrel
    have HV : Hid (ValAt s k) := hV
    clear hV
    by_cases hlt : k < s.size
    · go_wp2_with fail
      refine (runeLen_any s k w hlt hs).mono ?_
      rintro e w1 ⟨n, rfl, hw, hn⟩
      subst hw
      by_cases hn0 : n = 0
      · subst hn0
        go_wp2_with fail
        go_ret
        exact ⟨false, rfl, rfl, fun h => by cases h⟩
      · have hok : RlOk s k n := hn.resolve_left hn0
        have HOK : Hid (RlOk s k n) := hok
        have hnb : k + n ≤ s.size := hok.2.1
        clear hok hn
        have hz : ((n : Int) == 0) = false := beq_eq_false_iff_ne.2 (by omega)
        go_wp2_with fail
        go_round
        case rel => exact ⟨k + n, hnb, by go_num, valAt_step HV.out hlt HOK.out⟩
        case measure => simp [intOf]; omega
    · go_wp2_with fail
      go_ret
      refine ⟨true, rfl, rfl, fun _ => ?_⟩
      have h1 := HV.out
      unfold ValAt at h1
      rw [h1, List.drop_of_length_le (by simp; omega)]
      rfl

theorem make_nc (n c : Nat) (hnc : n ≤ c) (hc : c ≤ 10000000) : ∃ M : Array Value, M.size = c ∧ ∀ W : World, (Instr.makeSlice 24 (.int .i64 (n : Int)) (.int .i64 (c : Int))).run Tryd.prog W = .ok (.slice (some ⟨W.heap.size, 0, none⟩) n c) (W.alloc (.cells M 5)) := by
  obtain ⟨i0, hi, hz0, hz1, hz2⟩ := info_parts info5
  refine ⟨madeCells (Value.int .u8 0).cells ((c : Int).toNat * i0.size), by rw [size_madeCells, hz1]; simp, fun W => ?_⟩
  have h := run_makeSlice (P := Tryd.prog) W 24 5 i0 (.int .u8 0) Tryd.underlying24 hi hz0 .i64 .i64 (n : Int) (c : Int) (by omega) (by omega) (by rw [hz1]; simp; omega) (by rw [hz2]; omega) (by omega)
  simpa using h

/-- The first k bytes are laid. -/
def CrAt (s : ByteArray) (k : Nat) (A : Array Value) : Prop := A.size = s.size ∧ A.toList.take k = bytesV ((s.data.toList.take k).map Pl.crB)
theorem crAt_step {s : ByteArray} {k : Nat} {A : Array Value} (h : CrAt s k A) (hk : k < s.size) : CrAt s (k + 1) (A.setIfInBounds k (byteV (Pl.crB s[k]))) := by
  refine ⟨by simpa using h.1, ?_⟩
  have hl : A.toList.length = s.size := by simpa using h.1
  have e : s.data.toList.take (k + 1) = s.data.toList.take k ++ [s[k]] := by
    rw [List.take_succ_eq_append_getElem (by simpa using hk)]; rfl
  have hlen : (bytesV ((s.data.toList.take k).map Pl.crB)).length = k := by
    rw [bytesV_len, List.length_map, List.length_take, ba_size]; omega
  rw [Array.toList_setIfInBounds, List.take_set, List.take_succ_eq_append_getElem (by omega), h.2, List.set_append_right _ _ (by omega), hlen, Nat.sub_self, e]
  simp [bytesV]

set_option maxHeartbeats 1000000 in
set_option maxRecDepth 100000 in
theorem crlf_any (s : ByteArray) (w : World) (hs : s.size ≤ 1048576) :
    Calls Tryd.prog 7 #[.string s] w fun e w' => e = .returned (.slice (some ⟨w.heap.size, 0, none⟩) s.size s.size) ∧ ∃ A, w' = w.alloc (.cells A 5) ∧ CrAt s s.size A := by
  obtain ⟨M, hM, hmk⟩ := make_nc s.size s.size (Nat.le_refl _) (by omega)
  have HM : Hid (M.size = s.size) := hM
  clear hM
  go_enter Tryd.func7, Tryd.ntmps7
  go_wp2
  clear hmk
  go_loopw [4] (fun i wr => ∃ (k : Nat) (A : Array Value), k ≤ s.size ∧ i = .int .i64 k ∧ wr = w.alloc (.cells A 5) ∧ CrAt s k A) (fun i _ => s.size - (intOf i).toNat)
  case atStart => exact ⟨0, M, Nat.zero_le _, rfl, rfl, HM.out, by simp [bytesV]⟩
  case round =>
    obtain ⟨k, A, hk, rfl, rfl, hC⟩ := hrel
    have HC : Hid (CrAt s k A) := hC
    clear hC
    by_cases hlt : k < s.size
    · have hx : ∃ v, (w.alloc (.cells A 5)).cell? ⟨w.heap.size, k, none⟩ = some v := by
        rw [World.cell?_alloc_at _ _ _ _ rfl]
        exact ⟨_, Array.getElem?_eq_getElem (by rw [HC.out.1]; exact hlt)⟩
      obtain ⟨v, hv⟩ := hx
      have HS : Hid (CrAt s (k + 1) (A.setIfInBounds k (byteV (Pl.crB s[k])))) := crAt_step HC.out hlt
      by_cases h13 : s[k].toNat = 13
      · have e : byteV (Pl.crB s[k]) = .int .u8 32 := by
          rw [Pl.crB, if_pos (Or.inl (UInt8.toNat_inj.1 h13))]; rfl
        rw [e] at HS
        have g : ((s[k].toNat : Int) == 13) = true := beq_iff_eq.2 (by omega)
        go_wp2
        exact ⟨⟨k + 1, _, by omega, by go_num, rfl, HS.out⟩, by simp [intOf]; omega⟩
      · have g : ((s[k].toNat : Int) == 13) = false := beq_eq_false_iff_ne.2 (by omega)
        by_cases h10 : s[k].toNat = 10
        · have e : byteV (Pl.crB s[k]) = .int .u8 32 := by
            rw [Pl.crB, if_pos (Or.inr (UInt8.toNat_inj.1 h10))]; rfl
          rw [e] at HS
          have g2 : ((s[k].toNat : Int) == 10) = true := beq_iff_eq.2 (by omega)
          go_wp2
          exact ⟨⟨k + 1, _, by omega, by go_num, rfl, HS.out⟩, by simp [intOf]; omega⟩
        · have g2 : ((s[k].toNat : Int) == 10) = false := beq_eq_false_iff_ne.2 (by omega)
          have e : byteV (Pl.crB s[k]) = .int .u8 s[k].toNat := by
            rw [Pl.crB, if_neg (by rintro (h | h); exact h13 (congrArg UInt8.toNat h); exact h10 (congrArg UInt8.toNat h))]; rfl
          rw [e] at HS
          go_wp2
          exact ⟨⟨k + 1, _, by omega, by go_num, rfl, HS.out⟩, by simp [intOf]; omega⟩
    · go_wp2
      go_ret
      have hke : k = s.size := by omega
      subst hke
      exact ⟨rfl, A, rfl, HC.out⟩
end Go.Proofs.Qxb6612590aDoor
