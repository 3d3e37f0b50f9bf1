import Derived.Test.Qxb6609503aFmtWalkF
namespace Go.Proofs.Qxb6609503aFmt
open Go.RowKit Go.PlainAid
set_option linter.unusedVariables false

theorem newReader_any (s : ByteArray) (w : World) :
    Calls Tryf.prog 10 #[.string s] w fun e w' => e = .returned (.pointer (some ⟨w.heap.size, 0, none⟩)) ∧ w' = w.alloc (.cells #[.string s, .int .i64 0, .int .i64 (-1)] 61) := by
  go_enter Tryf.func10, Tryf.ntmps10
  go_wp2
  go_ret
  exact ⟨rfl, rfl⟩

theorem assert_rd (sb : Nat) (w : World) : (Instr.typeAssert (.iface 49 (.pointer (some ⟨sb, 0, none⟩))) 53 55 true).run Tryf.prog w = .ok (.tuple #[.pointer none, .bool false]) w := by kernel_rfl

def rdCells (sb bb r k : Nat) (lb : Int) : Obj := .cells #[.slice (some ⟨bb, 0, none⟩) 65536 65536, .iface 49 (.pointer (some ⟨sb, 0, none⟩)), .int .i64 r, .int .i64 k, .nilIface, .int .i64 lb, .int .i64 (-1)] 65

set_option maxHeartbeats 1000000 in
set_option maxRecDepth 100000 in
theorem newRd_any (sb : Nat) (w : World) :
    Calls Tryf.prog 12 #[.iface 49 (.pointer (some ⟨sb, 0, none⟩)), .int .i64 65536] w fun e w' => e = .returned (.pointer (some ⟨w.heap.size, 0, none⟩)) ∧ ∃ M, M.size = 65536 ∧ w' = (w.alloc (rdCells sb (w.heap.size + 1) 0 0 (-1))).alloc (.cells M 5) := by
  obtain ⟨i0, hi, hz0, hz1, hz2⟩ := info_parts info5
  have hmk : ∃ M : Array Value, M.size = 65536 ∧ ∀ W : World, (Instr.makeSlice 22 (.int .i64 65536) (.int .i64 65536)).run Tryf.prog W = .ok (.slice (some ⟨W.heap.size, 0, none⟩) 65536 65536) (W.alloc (.cells M 5)) := by
    refine ⟨madeCells (Value.int .u8 0).cells ((65536 : Int).toNat * i0.size), by rw [size_madeCells, hz1]; rfl, fun W => ?_⟩
    have h := run_makeSlice (P := Tryf.prog) W 22 5 i0 (.int .u8 0) Tryf.underlying22 hi hz0 .i64 .i64 65536 65536 (by omega) (by omega) (by rw [hz1]; decide) (by rw [hz2]; decide) (by decide)
    simpa using h
  obtain ⟨M, hM, hmk⟩ := hmk
  have has := assert_rd sb
  go_enter Tryf.func12, Tryf.ntmps12
  go_wp2
  go_ret
  exact ⟨rfl, M, hM, rfl⟩
end Go.Proofs.Qxb6609503aFmt
