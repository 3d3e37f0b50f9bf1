import Derived.Test.Qxb6606157aDoorRows
import Derived.WalkKit
import Derived.WalkSpells
import Derived.WalkLawsBesides
import Derived.Handy
import Derived.PlainAid
import Derived.Deep.QuietTactic
import Derived.BigQuiet
import Derived.Deep.Light
namespace Go.Proofs.Qxb6606157aDoor
open Go.RowKit Go.PlainAid

def sp3 (a b c : Int) : Bool :=
  if a == 225 then b == 154 && c == 128
  else if a == 226 && b == 128 then (decide (128 ≤ c) && decide (c ≤ 138)) || c == 168 || c == 169 || c == 175
  else if a == 226 && b == 129 then c == 159
  else if a == 227 then b == 128 && c == 128
  else false

theorem ret_bool {a b : Bool} (h : a = b) : Ending.returned (.bool a) = .returned (.bool b) := by rw [h]
set_option maxHeartbeats 400000 in
theorem isSpace3_any (a b c : Int) (w : World) :
    Calls Tryd.prog 29 #[.int .u8 a, .int .u8 b, .int .u8 c] w fun e w' => e = .returned (.bool (sp3 a b c)) ∧ w' = w := by
  go_enter Tryd.func29, Tryd.ntmps29
  go_wp2
  all_goals go_ret
  all_goals refine ⟨ret_bool ?_, rfl⟩
  all_goals (unfold sp3; simp_all)
  all_goals (have h9 : decide (128 ≤ c) = false := by simp; omega
             simp [h9])


/-- No white-space character stands at the head: in the bytes' own words. -/
def NoHead (s : ByteArray) : Prop :=
  ¬ (1 ≤ s.size ∧ (bt s 0 = 32 ∨ (9 ≤ bt s 0 ∧ bt s 0 ≤ 13))) ∧ ¬ (2 ≤ s.size ∧ bt s 0 = 194 ∧ (bt s 1 = 133 ∨ bt s 1 = 160)) ∧
  (3 ≤ s.size → sp3 (bt s 0) (bt s 1) (bt s 2) = false)
def PreOk (s : ByteArray) (k : Nat) : Prop := k ≤ s.size ∧ (k = 0 → NoHead s)


/-- .. at the end. -/
def NoTail (s : ByteArray) : Prop :=
  ¬ (1 ≤ s.size ∧ (bt s (s.size - 1) = 32 ∨ (9 ≤ bt s (s.size - 1) ∧ bt s (s.size - 1) ≤ 13))) ∧ ¬ (2 ≤ s.size ∧ bt s (s.size - 2) = 194 ∧ (bt s (s.size - 1) = 133 ∨ bt s (s.size - 1) = 160)) ∧
  (3 ≤ s.size → sp3 (bt s (s.size - 3)) (bt s (s.size - 2)) (bt s (s.size - 1)) = false)
def SufOk (s : ByteArray) (k : Nat) : Prop := k ≤ s.size ∧ (k = 0 → NoTail s)
/-- What the two length functions hand back, and that the world has only drawn. -/
def LenPost (Ok : ByteArray → Nat → Prop) (s : ByteArray) (w : World) (e : Ending) (w' : World) : Prop :=
  ∃ k : Nat, e = .returned (.int .i64 k) ∧ (∃ n, w' = w.drewN n) ∧ Ok s k

theorem pre_pos {s : ByteArray} {k : Nat} (h : k + 1 ≤ s.size) : PreOk s (k + 1) := ⟨h, fun e => by omega⟩
theorem suf_pos {s : ByteArray} {k : Nat} (h : k + 1 ≤ s.size) : SufOk s (k + 1) := ⟨h, fun e => by omega⟩

set_option maxHeartbeats 1000000 in
theorem prefixLen_any (s : ByteArray) (w : World) (hs : s.size ≤ maxLen) :
    Calls Tryd.prog 19 #[.string s] w fun e w' => LenPost PreOk s w e w' := by
  unfold maxLen at hs
  by_cases h3 : 3 ≤ s.size
  · have h3i : (3 : Int) ≤ (s.size : Int) := by omega
    have h2i : (2 : Int) < (s.size : Int) := by omega
    have hb := get_bt s
    cases hsp : sp3 (bt s 0) (bt s 1) (bt s 2)
    · have HS : Hid (sp3 (bt s 0) (bt s 1) (bt s 2) = false) := hsp
      go_enter Tryd.func19, Tryd.ntmps19
      go_wp2
      all_goals (try (go_quiet ((go_at_call 29; exact Calls.quiet_of_same (isSpace3_any _ _ _ _))); go_wp2))
      all_goals go_ret
      all_goals go_light
      all_goals first | exact ⟨1, rfl, ⟨0, rfl⟩, pre_pos (by omega)⟩ | exact ⟨2, rfl, ⟨0, rfl⟩, pre_pos (by omega)⟩ | (refine ⟨0, rfl, ⟨_, rfl⟩, Nat.zero_le _, fun _ => ⟨?_, ?_, fun _ => HS.out⟩⟩ <;> (simp only [beq_eq_false_iff_ne, ne_eq] at * <;> omega))
    · have HS : Hid (sp3 (bt s 0) (bt s 1) (bt s 2) = true) := hsp
      go_enter Tryd.func19, Tryd.ntmps19
      go_wp2
      all_goals (try (go_quiet ((go_at_call 29; exact Calls.quiet_of_same (isSpace3_any _ _ _ _))); go_wp2))
      all_goals go_ret
      all_goals go_light
      all_goals first | exact ⟨1, rfl, ⟨0, rfl⟩, pre_pos (by omega)⟩ | exact ⟨2, rfl, ⟨0, rfl⟩, pre_pos (by omega)⟩ | exact ⟨3, rfl, ⟨_, rfl⟩, pre_pos (by omega)⟩ | (exfalso; have hq := HS.out; simp_all; done)
  · have hd : decide ((3 : Int) ≤ (s.size : Int)) = false := by simp; omega
    have hb := get_bt s
    go_enter Tryd.func19, Tryd.ntmps19
    go_wp2
    all_goals (try (go_quiet ((go_at_call 29; exact Calls.quiet_of_same (isSpace3_any _ _ _ _))); go_wp2))
    all_goals go_ret
    all_goals go_light
    all_goals first | exact ⟨1, rfl, ⟨0, rfl⟩, pre_pos (by omega)⟩ | exact ⟨2, rfl, ⟨0, rfl⟩, pre_pos (by omega)⟩ | (refine ⟨0, rfl, ⟨_, rfl⟩, Nat.zero_le _, fun _ => ⟨?_, ?_, fun h => absurd h h3⟩⟩ <;> (simp only [beq_eq_false_iff_ne, ne_eq] at * <;> omega))

set_option maxHeartbeats 1000000 in
theorem suffixLen_any (s : ByteArray) (w : World) (hs : s.size ≤ maxLen) :
    Calls Tryd.prog 20 #[.string s] w fun e w' => LenPost SufOk s w e w' := by
  unfold maxLen at hs
  by_cases h3 : 3 ≤ s.size
  · have h3i : (3 : Int) ≤ (s.size : Int) := by omega
    have h2i : (2 : Int) < (s.size : Int) := by omega
    have hb := get_bt s
    cases hsp : sp3 (bt s (s.size - 3)) (bt s (s.size - 2)) (bt s (s.size - 1))
    · have HS : Hid (sp3 (bt s (s.size - 3)) (bt s (s.size - 2)) (bt s (s.size - 1)) = false) := hsp
      go_enter Tryd.func20, Tryd.ntmps20
      go_wp2
      all_goals (try (go_quiet ((go_at_call 29; exact Calls.quiet_of_same (isSpace3_any _ _ _ _))); go_wp2))
      all_goals go_ret
      all_goals go_light
      all_goals first | exact ⟨1, rfl, ⟨0, rfl⟩, suf_pos (by omega)⟩ | exact ⟨2, rfl, ⟨0, rfl⟩, suf_pos (by omega)⟩ | exact ⟨3, rfl, ⟨_, rfl⟩, suf_pos (by omega)⟩ | (refine ⟨0, rfl, ⟨_, rfl⟩, Nat.zero_le _, fun _ => ⟨?_, ?_, fun _ => HS.out⟩⟩ <;> (simp only [beq_eq_false_iff_ne, ne_eq] at * <;> omega))
    · have HS : Hid (sp3 (bt s (s.size - 3)) (bt s (s.size - 2)) (bt s (s.size - 1)) = true) := hsp
      go_enter Tryd.func20, Tryd.ntmps20
      go_wp2
      all_goals (try (go_quiet ((go_at_call 29; exact Calls.quiet_of_same (isSpace3_any _ _ _ _))); go_wp2))
      all_goals go_ret
      all_goals go_light
      all_goals first | exact ⟨1, rfl, ⟨0, rfl⟩, suf_pos (by omega)⟩ | exact ⟨2, rfl, ⟨0, rfl⟩, suf_pos (by omega)⟩ | exact ⟨3, rfl, ⟨_, rfl⟩, suf_pos (by omega)⟩ | (exfalso; have hq := HS.out; simp_all; done)
  · have hd : decide ((3 : Int) ≤ (s.size : Int)) = false := by simp; omega
    have hb := get_bt s
    go_enter Tryd.func20, Tryd.ntmps20
    go_wp2
    all_goals (try (go_quiet ((go_at_call 29; exact Calls.quiet_of_same (isSpace3_any _ _ _ _))); go_wp2))
    all_goals go_ret
    all_goals go_light
    all_goals first | exact ⟨1, rfl, ⟨0, rfl⟩, suf_pos (by omega)⟩ | exact ⟨2, rfl, ⟨0, rfl⟩, suf_pos (by omega)⟩ | (refine ⟨0, rfl, ⟨_, rfl⟩, Nat.zero_le _, fun _ => ⟨?_, ?_, fun h => absurd h h3⟩⟩ <;> (simp only [beq_eq_false_iff_ne, ne_eq] at * <;> omega))

def noB (l : List UInt8) (c : Int) : Prop := ∀ b ∈ l, (b.toNat : Int) ≠ c
def IdxPost (s : ByteArray) (c : Int) (w : World) (e : Ending) (w' : World) : Prop := ∃ r : Int, e = .returned (.int .i64 r) ∧ w' = w ∧ (0 ≤ r ∨ (r = -1 ∧ noB s.data.toList c))

theorem noB_snoc {s : ByteArray} {k : Nat} {c : Int} (h : noB (s.data.toList.take k) c) (hk : k < s.size) (hc : ((s[k].toNat : Int) == c) = false) : noB (s.data.toList.take (k + 1)) c := by
  intro b hb
  rw [List.take_succ_eq_append_getElem (by simpa using hk)] at hb
  rcases List.mem_append.1 hb with hb | hb
  · exact h b hb
  · have : b = s[k] := by simp at hb; exact hb
    subst this
    simpa using hc

set_option maxHeartbeats 400000 in
theorem indexByte_any (s : ByteArray) (c : Int) (w : World) (hs : s.size ≤ maxLen) :
    Calls Tryd.prog 11 #[.string s, .int .u8 c] w fun e w' => IdxPost s c w e w' := by
  unfold maxLen at hs
  go_enter Tryd.func11, Tryd.ntmps11
  go_wp2
  go_loop [5] (fun i => ∃ k : Nat, k ≤ s.size ∧ i = .int .i64 k ∧ noB (s.data.toList.take k) c) (fun i => s.size - (intOf i).toNat)
  case atStart => exact ⟨0, Nat.zero_le _, rfl, by simp [noB]⟩
  case round =>
    obtain ⟨k, hk, rfl, hall⟩ := hrel
    have HA : Hid (noB (s.data.toList.take k) c) := hall
    clear hall
    by_cases hlt : k < s.size
    · go_wp2
      · go_ret
        exact ⟨_, rfl, rfl, Or.inl (by omega)⟩
      · go_round
        case rel => exact ⟨k + 1, by omega, by go_num, noB_snoc HA.out hlt (by assumption)⟩
        case measure => simp [intOf]; omega
    · go_wp2
      go_ret
      refine ⟨-1, rfl, rfl, Or.inr ⟨rfl, ?_⟩⟩
      have := HA.out
      rwa [List.take_of_length_le (by simp; omega)] at this

def BytesOk (id state : ByteArray) : Bool := decide (id.size + state.size ≤ 1048576)
set_option maxHeartbeats 400000 in
theorem zzBytes_any (id state : ByteArray) (n : Int) (w : World) (h1 : id.size ≤ maxLen) (h2 : state.size ≤ maxLen) :
    Calls Tryd.prog 13 #[.string id, .int .i64 n, .string state] w fun e w' => e = .returned (.bool (BytesOk id state)) ∧ w' = w := by
  unfold maxLen at h1 h2
  by_cases ha : id.size ≤ 1048576
  · by_cases hb : id.size + state.size ≤ 1048576
    · go_enter Tryd.func13, Tryd.ntmps13
      go_wp2
      all_goals go_ret
      all_goals exact ⟨ret_bool (by simp [BytesOk]; omega), rfl⟩
    · go_enter Tryd.func13, Tryd.ntmps13
      go_wp2
      all_goals go_ret
      all_goals exact ⟨ret_bool (by simp [BytesOk]; omega), rfl⟩
  · go_enter Tryd.func13, Tryd.ntmps13
    go_wp2
    all_goals go_ret
    all_goals exact ⟨ret_bool (by simp [BytesOk]; omega), rfl⟩
end Go.Proofs.Qxb6606157aDoor
