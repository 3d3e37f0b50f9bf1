import Derived.Test.Qxb6609503aFmtRows
import Derived.Test.Qxb6609503aFmtPlain
import Derived.WalkKit
import Derived.WalkSpells
import Derived.WalkLawsBesides
import Derived.Handy
import Derived.PlainAid
import Derived.Below
import Derived.Deep.Light
import Derived.LoopTactic
import Derived.WalkSmall
import Derived.Deep.QuietTactic
import Derived.BigQuiet
namespace Go.Proofs.Qxb6609503aFmt
open Go.RowKit Go.PlainAid
set_option linter.unusedVariables false

theorem ret_bool {a b : Bool} (h : a = b) : Ending.returned (.bool a) = .returned (.bool b) := by rw [h]

set_option maxHeartbeats 400000 in
theorem ends_any (b : UInt8) (w : World) : Calls Tryf.prog 16 #[.int .u8 b.toNat] w fun e w' => e = .returned (.bool (Pl.endsB b)) ∧ w = w' := by
  go_enter Tryf.func16, Tryf.ntmps16
  go_wp2
  all_goals go_ret
  all_goals refine ⟨ret_bool ?_, rfl⟩
  all_goals unfold Pl.endsB
  all_goals (generalize b.toNat = x at *; rw [Bool.eq_iff_iff]; simp; omega)

set_option maxHeartbeats 400000 in
theorem isItem_any (b : UInt8) (w : World) : Calls Tryf.prog 28 #[.int .u8 b.toNat] w fun e w' => e = .returned (.bool (Pl.itemB b)) ∧ w = w' := by
  go_enter Tryf.func28, Tryf.ntmps28
  go_wp2
  all_goals go_ret
  all_goals refine ⟨ret_bool ?_, rfl⟩
  all_goals unfold Pl.itemB
  all_goals (generalize b.toNat = x at *; rw [Bool.eq_iff_iff]; simp; omega)

set_option maxHeartbeats 400000 in
theorem notItem_any (b : UInt8) (w : World) : Calls Tryf.prog 8 #[.int .u8 b.toNat] w fun e w' => e = .returned (.bool (Pl.itemB b)) ∧ w = w' := by
  go_enter Tryf.func8, Tryf.ntmps8
  go_wp2
  all_goals go_ret
  all_goals refine ⟨ret_bool ?_, rfl⟩
  all_goals unfold Pl.itemB
  all_goals (generalize b.toNat = x at *; rw [Bool.eq_iff_iff]; simp; omega)

/-- n elements lie behind the slice's address, the j-th the value f j. -/
def Elems (w : World) (oa : Option Addr) (n : Nat) (f : Nat → Value) : Prop := ∀ j, j < n → ∃ a, oa = some a ∧ w.cell? (a.add j) = some (f j)

def BoolPost (w : World) (e : Ending) (w' : World) : Prop := ∃ r, e = .returned (.bool r) ∧ w = w'
set_option maxHeartbeats 400000 in
theorem zzBytes_any (oa ob oc : Option Addr) (n1 n2 n3 c1 c2 c3 : Nat) (ss : Nat → ByteArray) (w : World) (h1 : n1 ≤ maxLen) (h2 : n2 ≤ maxLen) (h3 : n3 ≤ maxLen) (hs : ∀ j, (ss j).size ≤ maxLen) (hc : Elems w oc n3 (fun j => .string (ss j))) :
    Calls Tryf.prog 4 #[.slice oa n1 c1, .slice ob n2 c2, .slice oc n3 c3] w fun e w' => BoolPost w e w' := by
  unfold maxLen at h1 h2 h3 hs
  have HC : Hid (Elems w oc n3 (fun j => .string (ss j))) := hc
  clear hc
  by_cases g1 : n1 ≤ 1048576
  case neg =>
    go_enter Tryf.func4, Tryf.ntmps4
    go_wp2
    all_goals go_ret
    all_goals exact ⟨_, rfl, rfl⟩
  by_cases g2 : n2 ≤ 1048576
  case neg =>
    go_enter Tryf.func4, Tryf.ntmps4
    go_wp2
    all_goals go_ret
    all_goals exact ⟨_, rfl, rfl⟩
  by_cases g3 : n3 ≤ 1048576
  case neg =>
    go_enter Tryf.func4, Tryf.ntmps4
    go_wp2
    all_goals go_ret
    all_goals exact ⟨_, rfl, rfl⟩
  by_cases g4 : n1 + n2 ≤ 1048576
  case neg =>
    go_enter Tryf.func4, Tryf.ntmps4
    go_wp2
    all_goals go_ret
    all_goals exact ⟨_, rfl, rfl⟩
  by_cases g5 : n1 + n2 + n3 ≤ 1048576
  case neg =>
    go_enter Tryf.func4, Tryf.ntmps4
    go_wp2
    all_goals go_ret
    all_goals exact ⟨_, rfl, rfl⟩
  go_enter Tryf.func4, Tryf.ntmps4
  go_wp2
  go_loop [7, 8] (fun z i => ∃ m k : Nat, k ≤ n3 ∧ m ≤ 1048576 ∧ z = .int .i64 m ∧ i = .int .i64 k) (fun _ i => n3 - (intOf i).toNat)
  case atStart => exact ⟨n1 + n2 + n3, 0, Nat.zero_le _, g5, by go_num, rfl⟩
  case round =>
    obtain ⟨m, k, hk, hm, rfl, rfl⟩ := hrel
    by_cases hlt : k < n3
    · obtain ⟨ac, rfl, hcell⟩ := HC.out k hlt
      have hsz := hs k
      replace hcell : w.cell? (ac.add k) = some (.string (ss k)) := hcell
      generalize ss k = s at hcell hsz
      by_cases hs1 : s.size ≤ 1048576
      · by_cases hs2 : m + s.size ≤ 1048576
        · go_wp2
          go_round
          case rel => exact ⟨m + s.size, k + 1, by omega, by omega, by go_num, by go_num⟩
          case measure => simp [intOf]; omega
        · go_wp2
          go_ret
          exact ⟨_, rfl, rfl⟩
      · go_wp2
        go_ret
        exact ⟨_, rfl, rfl⟩
    · go_wp2
      go_ret
      exact ⟨_, rfl, rfl⟩
end Go.Proofs.Qxb6609503aFmt
