import Derived.Test.Qxb6609503aFmtWalkG
import Derived.Deep.RegionWith
import Derived.RegionTactic
import Derived.Deep.Draws
import Derived.Lib.Buffer
import Derived.Lib.BufferMore
import Derived.Lib.BufferGrow
import Derived.Lib.BufferOwn
import Derived.Lib.BufferWrite
import Derived.Lib.Hide
import Derived.Lib.Walk
import Derived.Laws.CopyRow
import Derived.Laws.IdiomCopy
namespace Go.Proofs.Qxb6609503aFmt
open Go.RowKit Go.PlainAid
set_option linter.unusedVariables false

theorem sz5 : (Tryf.prog.info? 5).map (·.size) = some 1 := by kernel_rfl
theorem setB_heap {w : World} {b : Nat} {c : Array Value} {T : TypeId} (i : Nat) (v : Value) (h : w.heap[b]? = some (.cells c T (0, 0))) : (w.setCell ⟨b, i, none⟩ v).heap[b]? = some (.cells (c.setIfInBounds i v) T (0, 0)) := by
  rw [setCell_eq_setRow w b i c T (0, 0) v h]
  exact setRow_heap w b c _ T (0, 0) h
theorem copy_str (w : World) (g o dLen dCap m : Nat) (s : ByteArray) (cur : Array Value) (hg : w.heap[g]? = some (.cells cur 5 (0, 0))) (hm : Nat.min s.size dLen = m) (hfit : o + m ≤ cur.size) :
    (Builtin.copy_ #[22, 9] 3 #[.slice (some ⟨g, o, none⟩) dLen dCap, .string s]).run Tryf.prog w =
      .ok (goInt m) (w.setRow g (cur.toList.take o ++ bytesV (s.data.toList.take m) ++ cur.toList.drop (o + m)).toArray) := by
  have hms : m ≤ s.size := by rw [← hm]; exact Nat.min_le_left _ _
  have hsz : s.data.toList.length = s.size := by simp
  have hlen : (bytesV (s.data.toList.take m)).length = m := by rw [bytesV_len, List.length_take, hsz]; omega
  have hst := run_storeCells_at Tryf.prog g o 5 (bytesV (s.data.toList.take m)) 0 cur w hg (by rw [hlen]; simpa using hfit) (bytesV_one _)
  rw [hlen] at hst
  simp only [Nat.add_zero] at hst
  have htk : List.take m (List.map (fun b : UInt8 => Value.int IntKind.u8 (b.toNat : Int)) s.data.toList) = bytesV (s.data.toList.take m) := by
    rw [← List.map_take]; rfl
  have hs := sz5
  cases hq : Tryf.prog.info? 5 with
  | none => simp [hq] at hs
  | some i =>
    simp [Builtin.copy_, run_underlying Tryf.underlying22, Builtin.lenOf, Builtin.firstCells, sizeOf, typeInfo, hq, hm]
    rw [htk, hst]
    simp [Result.andThen]

/-- w' is w but for two blocks. -/
structure Fr2 (w w' : World) (a b : Nat) : Prop where
  os : w'.os = w.os
  tape : w'.tape = w.tape
  output : w'.output = w.output
  size : w'.heap.size = w.heap.size
  block : ∀ k, k ≠ a → k ≠ b → w'.heap[k]? = w.heap[k]?
def srCells (s : ByteArray) (pos : Nat) (pr : Int) : Obj := .cells #[.string s, .int .i64 pos, .int .i64 pr] 61

def ReadPost (sb bb pos : Nat) (s : ByteArray) (w : World) (e : Ending) (w' : World) : Prop :=
  ∃ n M, n = Nat.min (s.size - pos) 65536 ∧ e = .returned (.tuple #[.int .i64 n, .nilIface]) ∧ w'.heap[sb]? = some (srCells s (pos + n) (-1)) ∧ w'.heap[bb]? = some (.cells M 5) ∧ M.size = 65536 ∧ M.toList.take n = bytesV ((s.data.toList.drop pos).take n) ∧ Fr2 w w' sb bb

set_option maxHeartbeats 2000000 in
set_option maxRecDepth 100000 in
theorem read_end (sb pos : Nat) (pr : Int) (v E : Value) (s : ByteArray) (w : World) (hsr : w.heap[sb]? = some (srCells s pos pr)) (hE : w.cell? ⟨0, 0, none⟩ = some E) (hp : s.size ≤ pos) (hpm : pos ≤ 10000000) :
    Calls Tryf.prog 65 #[.pointer (some ⟨sb, 0, none⟩), v] w fun e w' => e = .returned (.tuple #[.int .i64 0, E]) ∧ Dr w w' := by
  have c0 : w.cell? ⟨sb, 0, none⟩ = some (.string s) := by rw [Lib.cell_of_heap hsr]; rfl
  have c1 : w.cell? ⟨sb, 1, none⟩ = some (.int .i64 pos) := by rw [Lib.cell_of_heap hsr]; rfl
  clear hsr
  go_enter Tryf.func65, Tryf.ntmps65
  go_wp2_with fail
  go_quiet (fail)
  go_wp2_with fail
  go_quiet (fail)
  go_wp2_with fail
  go_ret2
  exact ⟨rfl, ⟨_, World.drewN_drewN _ _ _⟩⟩
end Go.Proofs.Qxb6609503aFmt
