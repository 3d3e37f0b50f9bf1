import Derived.Test.Qxb6609503aFmtWalkQ
import Derived.Test.Qxb6609503aFmtTie
import Derived.Stop.LaidErr
import Derived.ProofKit
import Derived.SizedLaws
import Derived.OpenShut
import Derived.ChangeSlices
import Derived.SliceStrings
import Derived.MakeChecks
import Derived.LaidMore
import Derived.Lay
namespace Go.Proofs.Qxb6609503aFmt
open Go.ChangeShapes Go.WideShapes Go.ChangeAt Go.RowKit
set_option linter.unusedVariables false

abbrev laidL : List (String × DataW Unit) := Rows.fnParseReadsBackWrittenOpsRow.laid
theorem star : "*" ++ "errors.errorString" = "*errors.errorString" := by decide
theorem row108 (u : TypeId) (h : Tryf.prog.typeName? 3 u = some "*errors.errorString") : u = 108 :=
  typeName_ptr_named (nm := "errors.errorString") (by rw [star]; kernel_rfl) (by kernel_rfl) (by decide) u (by rw [star]; exact h)

theorem eof_of {W : World} (hL : laidMetH Tryf.prog laidL W) : ∃ pE : Addr, W.cell? ⟨0, 0, none⟩ = some (.iface 108 (.pointer (some pE))) := by
  rw [MakeChecks.laidMetH_plain _ _ _ (by kernel_rfl)] at hL
  obtain ⟨a, s, hv, _⟩ := laid_sentinel (g := 0) (n := "io.EOF") (nm := "*errors.errorString") (text := [69, 79, 70]) (ti := 28) (tp := 108) (te := 128) (ts := 9) (laidMet.tail hL) (by kernel_rfl) (by kernel_rfl) Tryf.underlying28 row108 Tryf.underlying108 Tryf.underlying128 rfl rfl Tryf.underlying9 (by kernel_rfl) (by kernel_rfl)
  refine ⟨a, ?_⟩
  exact World.var?_cell (P := Tryf.prog) (n := "io.EOF") (by kernel_rfl) hv 0

/-- A slice of small integers, opened. -/
theorem open_k {H : Type} {enc : TypeId × Value → H} {W : World} {t e : TypeId} {k : IntKind} {b : Nat} (hk : ∀ z : Int, (Lit.int k z).wf = true → 0 ≤ z ∧ z < (b : Int)) (hb : 0 < b) {oa : Option Addr} {len cap : Nat} {x : DataW H × List MemPlace} {fuel : Nat} {sp : Nat → Bool} {base : Nat} {held : Bool}
    (ht : Tryf.prog.underlying t = some (.slice e)) (he : Tryf.prog.underlying e = some (.int k)) (hc : Tryf.prog.cellsOf e = 1)
    (hsp : ∀ n, sp n = true) (h : DataW.trod enc Tryf.prog W base sp held fuel t (Value.slice oa len cap).cells.toList = some x) :
    len ≤ maxLen ∧ ∃ ks : Nat → Nat, (∀ j, ks j < b) ∧ Elems W oa len (fun j => .int k (ks j)) := by
  rcases open_ints ht he hc h with ⟨hcs, _⟩ | ⟨a, len', cap', zs, hcs, _, hl, hm, hz, _, hcell, hw⟩
  · simp [Value.cells] at hcs
    obtain ⟨rfl, rfl, rfl⟩ := hcs
    exact ⟨Nat.zero_le _, fun _ => 0, fun _ => hb, fun j hj => absurd hj (Nat.not_lt_zero _)⟩
  · simp [Value.cells] at hcs
    obtain ⟨rfl, rfl, rfl⟩ := hcs
    rw [hsp, if_pos rfl] at hz
    have hin : ∀ j, j < zs.length → 0 ≤ zs.getD j 0 ∧ zs.getD j 0 < (b : Int) := fun j hj => by
      rw [List.getD_eq_getElem?_getD, List.getElem?_eq_getElem hj]
      exact hk _ (hw _ (List.getElem_mem hj))
    have hall : ∀ j, 0 ≤ zs.getD j 0 ∧ zs.getD j 0 < (b : Int) := fun j => by
      by_cases hj : j < zs.length
      · exact hin j hj
      · rw [List.getD_eq_getElem?_getD, List.getElem?_eq_none (by omega)]
        exact ⟨Int.le_refl _, by simp; omega⟩
    refine ⟨by omega, fun j => (zs.getD j 0).toNat, fun j => by have := hall j; show (zs.getD j 0).toNat < b; omega, fun j hj => ⟨a, rfl, ?_⟩⟩
    rw [hcell j (by omega)]
    show some (Value.int k (zs.getD j 0)) = some (Value.int k (((zs.getD j 0).toNat : Nat) : Int))
    rw [Int.toNat_of_nonneg (hall j).1]
theorem open_s {H : Type} {enc : TypeId × Value → H} {W : World} {oa : Option Addr} {len cap : Nat} {x : DataW H × List MemPlace} {fuel : Nat} {sp : Nat → Bool} {base : Nat} {held : Bool}
    (hc : Tryf.prog.cellsOf 9 = 1) (hsp : ∀ n, sp n = true) (h : DataW.trod enc Tryf.prog W base sp held fuel 24 (Value.slice oa len cap).cells.toList = some x) :
    len ≤ maxLen ∧ ∃ ss : Nat → ByteArray, (∀ j, (ss j).size ≤ maxLen) ∧ Elems W oa len (fun j => .string (ss j)) := by
  rcases open_strings Tryf.underlying24 Tryf.underlying9 hc h with ⟨hcs, _⟩ | ⟨a, len', cap', ss, hcs, _, hl, hm, hz, _, hcell, hw⟩
  · simp [Value.cells] at hcs
    obtain ⟨rfl, rfl, rfl⟩ := hcs
    exact ⟨Nat.zero_le _, fun _ => ByteArray.empty, fun _ => Nat.zero_le _, fun j hj => absurd hj (Nat.not_lt_zero _)⟩
  · simp [Value.cells] at hcs
    obtain ⟨rfl, rfl, rfl⟩ := hcs
    rw [hsp, if_pos rfl] at hz
    refine ⟨by omega, fun j => ss.getD j ByteArray.empty, fun j => ?_, fun j hj => ⟨a, rfl, hcell j (by omega)⟩⟩
    show (ss.getD j ByteArray.empty).size ≤ maxLen
    by_cases hj : j < ss.length
    · rw [List.getD_eq_getElem?_getD, List.getElem?_eq_getElem hj]
      exact hw _ (List.getElem_mem hj)
    · rw [List.getD_eq_getElem?_getD, List.getElem?_eq_none (by omega)]
      exact Nat.zero_le _
theorem wf8 (z : Int) (h : (Lit.int .u8 z).wf = true) : 0 ≤ z ∧ z < ((256 : Nat) : Int) := by
  simp [Lit.wf, IntKind.min, IntKind.max, IntKind.signed, IntKind.bits] at h
  omega
theorem wf64 (z : Int) (h : (Lit.int .u64 z).wf = true) : 0 ≤ z ∧ z < ((18446744073709551616 : Nat) : Int) := by
  simp [Lit.wf, IntKind.min, IntKind.max, IntKind.signed, IntKind.bits] at h
  omega
end Go.Proofs.Qxb6609503aFmt
