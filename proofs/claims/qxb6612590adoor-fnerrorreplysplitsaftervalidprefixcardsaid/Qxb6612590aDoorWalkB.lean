import Derived.Test.Qxb6612590aDoorShelf
import Derived.Test.Qxb6612590aDoorRows
import Derived.WalkKit
import Derived.WalkSpells
import Derived.WalkLawsBesides
import Derived.Handy
import Derived.Deep.Light
import Derived.Deep.RegionWith
import Derived.RegionTactic
import Derived.Deep.Draws
import Derived.Lib.Buffer
import Derived.Lib.BufferMore
import Derived.Lib.BufferGrow
import Derived.Lib.BufferOwn
import Derived.Lib.Hide
import Derived.Lib.Walk
namespace Go.Proofs.Qxb6612590aDoor
open Go.RowKit
set_option linter.unusedVariables false

def byteV (b : UInt8) : Value := .int .u8 (b.toNat : Int)
def bytesV (l : List UInt8) : List Value := l.map byteV
theorem bytesV_one (l : List UInt8) : ∀ v ∈ bytesV l, v.oneCell' = true := by
  intro v hv
  obtain ⟨x, _, rfl⟩ := List.mem_map.1 hv
  rfl
theorem bytesV_len (l : List UInt8) : (bytesV l).length = l.length := List.length_map _

/-- What grow leaves: the buffer b over a new row. -/
def GrowPost (b l n : Nat) (lr : Int) (old : List Value) (w : World) (e : Ending) (w' : World) : Prop :=
  e = .returned (.int .i64 (l : Int)) ∧ ∃ G cap2 cells, w.heap.size ≤ G ∧ w'.heap[b]? = some (.cells #[.slice (some ⟨G, 0, none⟩) (l + n) cap2, .int .i64 0, .int .i8 lr] 45 (0, 0)) ∧
    w'.heap[G]? = some (.cells cells 5 (0, 0)) ∧ cells.size = cap2 ∧ cells.toList.take l = old ∧ l + n ≤ cap2 ∧ cap2 ≤ maxLen ∧ w.grownBy w' (some b)

theorem setB_heap {w : World} {b : Nat} {c : Array Value} {T : TypeId} (i : Nat) (v : Value) (h : w.heap[b]? = some (.cells c T (0, 0))) : (w.setCell ⟨b, i, none⟩ v).heap[b]? = some (.cells (c.setIfInBounds i v) T (0, 0)) := by
  rw [setCell_eq_setRow w b i c T (0, 0) v h]
  exact setRow_heap w b c _ T (0, 0) h

set_option maxHeartbeats 4000000 in
set_option maxRecDepth 100000 in
theorem grow_row (b g l cap n : Nat) (lr : Int) (cur : Array Value) (w : World)
    (hbk : w.heap[b]? = some (.cells #[.slice (some ⟨g, 0, none⟩) l cap, .int .i64 0, .int .i8 lr] 45 (0, 0)))
    (hl0 : 1 ≤ l) (hg : w.heap[g]? = some (.cells cur 5 (0, 0))) (hlc : l ≤ cap) (hcm : cap ≤ maxLen) (hcs : cur.size = cap) (hgb : g ≠ b)
    (h1 : ∀ v ∈ cur.toList.take l, v.oneCell' = true) (hn : 1 ≤ n) (hroom : cap - l < n) (hlim : l + n ≤ 140737488355328) :
    Calls Tryd.prog 84 #[.pointer (some ⟨b, 0, none⟩), .int .i64 n] w fun e w' => GrowPost b l n lr (cur.toList.take l) w e w' := by
  have hIs : Lib.IsBuffer 45 5 0 b (cur.toList.take l) w := ⟨Nat.zero_le _, _, _, hbk, ⟨by simp, .inr ⟨g, cap, cur, by simp; omega, Nat.zero_le _, hg, by simp; omega, hcm, by omega, by simp⟩⟩, by simp [Value.ownBlock]; exact hgb⟩
  have hll : (cur.toList.take l).length = l := by simp; omega
  have hnil : ∀ W, (binOp .eql 24 (.slice (some ⟨g, 0, none⟩) l cap) (.slice none 0 0)).run Tryd.prog W = .ok (.bool false) W := fun W => Lib.run_eql_slice_some_nil W _ _ _ Tryd.underlying24
  have hLen := Tryd.Buffer_Len 0 b _ w hIs
  rw [hll] at hLen
  clear hIs
  go_enter Tryd.func84, Tryd.ntmps84
  go_wp2_with fail
  refine hLen.mono ?_
  rintro e W0 ⟨rfl, k, hW0⟩
  have hbk0 : W0.heap[b]? = some (.cells #[.slice (some ⟨g, 0, none⟩) l cap, .int .i64 0, .int .i8 lr] 45 (0, 0)) := by rw [hW0]; exact hbk
  have hg0 : W0.heap[g]? = some (.cells cur 5 (0, 0)) := by rw [hW0]; exact hg
  have c0 : W0.cell? ⟨b, 0, none⟩ = some (.slice (some ⟨g, 0, none⟩) l cap) := by rw [Lib.cell_of_heap hbk0]; rfl
  have c1 : W0.cell? ⟨b, 1, none⟩ = some (.int .i64 0) := by rw [Lib.cell_of_heap hbk0]; rfl
  have f0 : W0.frozen? ⟨b, 0, none⟩ = false := Lib.frozen_of_heap hbk0 0
  have f1 : W0.frozen? ⟨b, 1, none⟩ = false := Lib.frozen_of_heap hbk0 1
  have HW0 : Hid (W0 = w.drewN k) := hW0
  clear hW0 hLen
  have hcm' := hcm
  unfold maxLen at hcm'
  go_wp2_with fail
  refine (Tryd.Buffer_tryGrow_none b _ l cap n _ c0 hlc hcm hroom).mono ?_
  rintro e w' ⟨rfl, hw'⟩
  rw [hw']
  clear hw' w'
  have hc2 : cap ≤ 140737488355328 := by omega
  have hbW := Lib.lt_of_heap hbk0
  have hwn : IntKind.i64.wrap (n : Int) = n := by rw [IntKind.wrap_i64]; omega
  go_wp2_with fail
  go_region_with (
      go_at_call 86
      refine (Tryd.bytes_growSlice_row g l cap n cur _ ?_ hcs hlc hn hlim hc2 h1).mono ?_
      exact hg0
      rintro e w2 ⟨cap2, cells, rfl, hN, hcsz, htk, hcap2, hcm2, hbel⟩
      have hbk2 : w2.heap[b]? = some (.cells #[.slice (some ⟨g, 0, none⟩) l cap, .int .i64 0, .int .i8 lr] 45 (0, 0)) := (hbel.block b hbW).trans hbk0
      have d0 : w2.cell? ⟨b, 0, none⟩ = some (.slice (some ⟨g, 0, none⟩) l cap) := by rw [Lib.cell_of_heap hbk2]; rfl
      have d1 : w2.cell? ⟨b, 1, none⟩ = some (.int .i64 0) := by rw [Lib.cell_of_heap hbk2]; rfl
      have e0 : w2.frozen? ⟨b, 0, none⟩ = false := Lib.frozen_of_heap hbk2 0
      have e1 : w2.frozen? ⟨b, 1, none⟩ = false := Lib.frozen_of_heap hbk2 1)
  all_goals (
    go_wp2
    go_ret
    have hg2 : w.grownBy w2 (some b) := Lib.grownBy_below (w := W0.drew) (by rw [HW0.out]; exact ⟨rfl, rfl, rfl, Nat.le_refl _, fun _ _ _ => rfl⟩) hbel
    have hGw : w.heap.size ≤ W0.heap.size := by rw [HW0.out]; exact Nat.le_refl _
    have hGb : W0.heap.size ≠ b := by omega
    refine ⟨rfl, W0.heap.size, cap2, cells, hGw, ?_, ?_, hcsz, htk, hcap2, hcm2, Lib.grownBy_setB (Lib.grownBy_setB (Lib.grownBy_setB hg2 0 _) 1 _) 0 _⟩
    · rw [setB_heap 0 _ (setB_heap 1 _ (setB_heap 0 _ hbk2))]; rfl
    · rw [Below.heap_setCell _ _ _ _ (by exact hGb), Below.heap_setCell _ _ _ _ (by exact hGb), Below.heap_setCell _ _ _ _ (by exact hGb)]; exact hN)
end Go.Proofs.Qxb6612590aDoor
