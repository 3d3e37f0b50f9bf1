import Derived.Test.Qxb6606417aGreatDoorNum13
import Derived.Laws.CopyRow
import Derived.Lib.Builder
namespace Go.Proofs.Qxb6606417aGreatDoor
open Go.RowKit Go.PlainAid
set_option linter.unusedVariables false
set_option linter.unusedSimpArgs false
set_option maxRecDepth 100000

theorem setD_heap {w : World} {b : Nat} {c : Array Value} {T : TypeId} (i : Nat) (v : Value) (h : w.heap[b]? = some (.cells c T (0, 0))) : (w.setCell ⟨b, i, none⟩ v).heap[b]? = some (.cells (c.setIfInBounds i v) T (0, 0)) := by
  rw [setCell_eq_setRow w b i c T (0, 0) v h]
  exact setRow_heap w b c _ T (0, 0) h
theorem heap_new' (w : World) (o : Obj) : (w.alloc o).heap[w.heap.size]? = some o := by
  show (w.heap.push o)[w.heap.size]? = some o
  simp
/-- A decimal in block b. -/
def DecIn (w : World) (b : Nat) (y : Nat) (k : Int) : Prop := w.heap[b]? = some (.cells #[.int .u64 y, .int .i64 k] 31 (0, 0))
theorem DecIn.c0 {w : World} {b y : Nat} {k : Int} (h : DecIn w b y k) : w.cell? ⟨b, 0, none⟩ = some (.int .u64 y) := by rw [Lib.cell_of_heap h]; rfl
theorem DecIn.c1 {w : World} {b y : Nat} {k : Int} (h : DecIn w b y k) : w.cell? ⟨b, 1, none⟩ = some (.int .i64 k) := by rw [Lib.cell_of_heap h]; rfl
theorem DecIn.f0 {w : World} {b y : Nat} {k : Int} (h : DecIn w b y k) : w.frozen? ⟨b, 0, none⟩ = false := Lib.frozen_of_heap h 0
theorem DecIn.f1 {w : World} {b y : Nat} {k : Int} (h : DecIn w b y k) : w.frozen? ⟨b, 1, none⟩ = false := Lib.frozen_of_heap h 1
theorem DecIn.set {w : World} {b y y' : Nat} {k k' : Int} (h : DecIn w b y k) : DecIn ((w.setCell ⟨b, 0, none⟩ (.int .u64 y')).setCell ⟨b, 1, none⟩ (.int .i64 k')) b y' k' := setD_heap 1 _ (setD_heap 0 _ h)
theorem DecIn.other {w : World} {b y : Nat} {k : Int} (h : DecIn w b y k) (a : Addr) (v : Value) (hne : b ≠ a.block) : DecIn (w.setCell a v) b y k := by
  unfold DecIn
  rw [Below.heap_setCell w a v b hne]
  exact h

theorem DecIn.ret0 {w : World} {b y : Nat} {k : Int} (h : DecIn w b y k) (v : Value) : (w.setCell ⟨b, 0, none⟩ v).cell? ⟨b, 0, none⟩ = some v := by
  rw [Lib.cell_of_heap (setD_heap 0 v h)]; rfl
theorem DecIn.ret1 {w : World} {b y : Nat} {k : Int} (h : DecIn w b y k) (v u : Value) : ((w.setCell ⟨b, 0, none⟩ v).setCell ⟨b, 1, none⟩ u).cell? ⟨b, 1, none⟩ = some u := by
  rw [Lib.cell_of_heap (setD_heap 1 u (setD_heap 0 v h))]; rfl

set_option maxHeartbeats 1000000 in
theorem trimmed_walk (d : Nat) (k : Int) (w : World) (hd : 0 < d) (hd2 : d < 18446744073709551616) (hk1 : -3000 ≤ k) (hk2 : k ≤ 3000) :
    Calls Tryz.prog 28 #[.agg #[.int .u64 d, .int .i64 k]] w fun e w' => e = .returned (.agg #[.int .u64 ((trimN d k).1 : Nat), .int .i64 (trimN d k).2]) ∧ Below w.heap.size w w' := by
  go_enter Tryz.func28, Tryz.ntmps28
  go_upto_region 1 with fail
  go_loopg [] d (fun n wr => ∃ i : Nat, 0 < n ∧ n * 10 ^ i = d ∧ trimN n (k + i) = trimN d k ∧ DecIn wr w.heap.size n (k + i) ∧ DecIn wr (w.heap.size + 1) 0 0 ∧ Below w.heap.size w wr)
  case atStart =>
    refine ⟨0, hd, by simp, by simp, ?_, ?_, ((Below.refl _ _).alloc (Nat.le_refl _) _).alloc (by simp) _⟩
    · show ((w.alloc _).alloc _).heap[w.heap.size]? = _
      rw [Below.heap_alloc _ _ _ (by simp)]
      have := heap_new' w (.cells #[.int .u64 d, .int .i64 k] 31)
      simpa using this
    · show ((w.alloc _).alloc _).heap[w.heap.size + 1]? = _
      have := heap_new' (w.alloc (.cells #[.int .u64 d, .int .i64 k] 31)) (.cells #[.int .u64 0, .int .i64 0] 31)
      simpa using this
  case round =>
    obtain ⟨i, hy, hyd, htr, D1, D2, hB⟩ := hrel
    have hi19 : i ≤ 19 := by
      have : 10 ^ i ≤ d := by rw [← hyd]; exact Nat.le_mul_of_pos_left _ hy
      have h2 : 10 ^ i < 10 ^ 20 := by omega
      have := (Nat.pow_lt_pow_iff_right (a := 10) (by omega)).1 h2
      omega
    have hyl : gk < 18446744073709551616 := by
      have : gk ≤ d := by rw [← hyd]; exact Nat.le_mul_of_pos_right _ (Nat.pow_pos (by omega))
      omega
    have c0 := D1.c0
    have c1 := D1.c1
    have f0 := D1.f0
    have f1 := D1.f1
    have e0 := D2.c0
    have e1 := D2.c1
    have g0 := D2.f0
    have g1 := D2.f1
    obtain ⟨j, hj⟩ : ∃ j : Int, k + i = j := ⟨_, rfl⟩
    have hj2 : j ≤ 3100 := by omega
    have hj1 : -3000 ≤ j := by omega
    rw [hj] at htr D1 c1
    have HJ : Hid (k + (i : Int) = j) := hj
    have H1 : Hid (DecIn wr w.heap.size gk j) := D1
    have H2 : Hid (DecIn wr (w.heap.size + 1) 0 0) := D2
    have HB : Hid (Below w.heap.size w wr) := hB
    have HT : Hid (trimN gk j = trimN d k) := htr
    have HD : Hid (gk * 10 ^ i = d) := hyd
    clear hj D1 D2 hB htr hyd
    by_cases h0 : gk % 10 = 0
    · have h0' : (((gk : Int) % 10) == 0) = true := by simp; omega
      have htm : (gk : Int).tmod 10 = (gk : Int) % 10 := Int.tmod_eq_emod_of_nonneg (by omega)
      have htd : (gk : Int).tdiv 10 = ((gk / 10 : Nat) : Int) := by rw [Int.tdiv_eq_ediv_of_nonneg (by omega)]; omega
      go_wp2_with fail
      go_roundg (gk / 10)
      case measure => omega
      case rel =>
        have hgd : gk = gk / 10 * 10 := by omega
        have hjj : k + ((i + 1 : Nat) : Int) = j + 1 := by have := HJ.out; omega
        refine ⟨i + 1, by omega, ?_, ?_, ?_, ?_, ?_⟩
        · rw [Nat.pow_succ, Nat.mul_comm (10 ^ i), ← Nat.mul_assoc, ← hgd]; exact HD.out
        · rw [hjj, ← HT.out, trim_step (y := gk) h0 hy]
        · rw [hjj]
          exact H1.out.set
        · exact (H2.out.other _ _ (by simp)).other _ _ (by simp)
        · exact (HB.out.setCell (by simp) _).setCell (by simp) _
    · have h0' : (((gk : Int) % 10) == 0) = false := by simp; omega
      go_wp2_with fail
      have r0 := H2.out.ret0 (.int .u64 gk)
      have r1 := H2.out.ret1 (.int .u64 gk) (.int .i64 j)
      refine bodyPost_ret (v := .agg #[.int .u64 gk, .int .i64 j]) (by simp [results, Tryz.results28, go_sem, Tryz.isAgg31, Tryz.sizeOf31, r0, r1, Result.andThen]) rfl ?_
      refine ⟨?_, (HB.out.setCell (by simp) _).setCell (by simp) _⟩
      rw [← HT.out, trim_stop h0]
end Go.Proofs.Qxb6606417aGreatDoor
