import Derived.Test.Qxb6612590aDoorWalkE
import Derived.Deep.QuietTactic
import Derived.BigQuiet
import Derived.WalkSmall
import Derived.BigRegion
namespace Go.Proofs.Qxb6612590aDoor
open Go.RowKit
set_option linter.unusedVariables false

def Dr (w w' : World) : Prop := ∃ n, w' = w.drewN n
theorem Dr.refl (w : World) : Dr w w := ⟨0, rfl⟩
theorem Dr.trans {a b c : World} (h : Dr a b) (g : Dr b c) : Dr a c := by
  obtain ⟨n, rfl⟩ := h; obtain ⟨m, rfl⟩ := g; exact ⟨n + m, World.drewN_drewN _ _ _⟩
theorem Dr.heap {w w' : World} (h : Dr w w') : w'.heap = w.heap := by obtain ⟨n, rfl⟩ := h; rfl

/-- The cells of a bufio.Writer in block wb: no error, its row db, n bytes pending, the writer behind it the buffer b. -/
def wrCells (db b n : Nat) : Obj := .cells #[.nilIface, .slice (some ⟨db, 0, none⟩) 65536 65536, .int .i64 (n : Int), .iface 41 (.pointer (some ⟨b, 0, none⟩))] 69 (0, 0)

theorem wr0 {w : World} {wb db b n : Nat} (h : w.heap[wb]? = some (wrCells db b n)) : w.cell? ⟨wb, 0, none⟩ = some .nilIface := by rw [Lib.cell_of_heap h]; rfl
theorem wr1 {w : World} {wb db b n : Nat} (h : w.heap[wb]? = some (wrCells db b n)) : w.cell? ⟨wb, 1, none⟩ = some (.slice (some ⟨db, 0, none⟩) 65536 65536) := by rw [Lib.cell_of_heap h]; rfl
theorem wr2 {w : World} {wb db b n : Nat} (h : w.heap[wb]? = some (wrCells db b n)) : w.cell? ⟨wb, 2, none⟩ = some (.int .i64 (n : Int)) := by rw [Lib.cell_of_heap h]; rfl
theorem wr3 {w : World} {wb db b n : Nat} (h : w.heap[wb]? = some (wrCells db b n)) : w.cell? ⟨wb, 3, none⟩ = some (.iface 41 (.pointer (some ⟨b, 0, none⟩))) := by rw [Lib.cell_of_heap h]; rfl
theorem wrf {w : World} {wb db b n : Nat} (h : w.heap[wb]? = some (wrCells db b n)) (i : Nat) : w.frozen? ⟨wb, i, none⟩ = false := Lib.frozen_of_heap h i

set_option maxHeartbeats 400000 in
theorem available_any (wb db b n : Nat) (w : World) (h : w.heap[wb]? = some (wrCells db b n)) (hn : n ≤ 65536) :
    Calls Tryd.prog 33 #[.pointer (some ⟨wb, 0, none⟩)] w fun e w' => e = .returned (.int .i64 (65536 - (n : Int))) ∧ Dr w w' := by
  have c1 := wr1 h
  have c2 := wr2 h
  clear h
  go_enter Tryd.func33, Tryd.ntmps33
  go_wp2
  go_quiet (fail)
  go_wp2
  go_ret
  exact ⟨rfl, ⟨_, rfl⟩⟩
set_option maxHeartbeats 400000 in
theorem buffered_any (wb db b n : Nat) (w : World) (h : w.heap[wb]? = some (wrCells db b n)) :
    Calls Tryd.prog 34 #[.pointer (some ⟨wb, 0, none⟩)] w fun e w' => e = .returned (.int .i64 (n : Int)) ∧ w = w' := by
  have c2 := wr2 h
  clear h
  go_enter Tryd.func34, Tryd.ntmps34
  go_wp2
  go_ret
  exact ⟨rfl, rfl⟩

/-- bufio.Writer (block wb, its row db) over the bytes.Buffer in block b: f has gone through, p is pending. -/
structure Sink (w : World) (b db wb : Nat) (f p : List UInt8) (row : Option Nat) : Prop where
  buf : BufIs w b f row
  wr : w.heap[wb]? = some (wrCells db b p.length)
  rw : ∃ cur : Array Value, w.heap[db]? = some (.cells cur 5 (0, 0)) ∧ cur.size = 65536 ∧ cur.toList.take p.length = bytesV p
  le : p.length ≤ 65536
  ne1 : wb ≠ b
  ne2 : db ≠ b
  ne3 : db ≠ wb
  ne4 : row ≠ some db
  ne5 : row ≠ some wb
/-- What the writer's methods leave alone. -/
structure SFr (w w' : World) (b db wb : Nat) (row row' : Option Nat) : Prop where
  os : w'.os = w.os
  tape : w'.tape = w.tape
  output : w'.output = w.output
  size : w.heap.size ≤ w'.heap.size
  block : ∀ k, k < w.heap.size → k ≠ b → k ≠ db → k ≠ wb → some k ≠ row → w'.heap[k]? = w.heap[k]?
  rows : ∀ g, row' = some g → row = some g ∨ w.heap.size ≤ g
theorem SFr.refl (w : World) (b db wb : Nat) (row : Option Nat) : SFr w w b db wb row row := ⟨rfl, rfl, rfl, Nat.le_refl _, fun _ _ _ _ _ _ => rfl, fun g h => Or.inl h⟩
theorem SFr.trans {a c d : World} {b db wb : Nat} {r1 r2 r3 : Option Nat} (h : SFr a c b db wb r1 r2) (k : SFr c d b db wb r2 r3) : SFr a d b db wb r1 r3 where
  os := k.os.trans h.os
  tape := k.tape.trans h.tape
  output := k.output.trans h.output
  size := Nat.le_trans h.size k.size
  block := fun i hi h1 h2 h3 h4 => by
    have hr : some i ≠ r2 := fun e => by
      rcases h.rows i e.symm with e2 | e2
      · exact h4 e2.symm
      · omega
    exact (k.block i (Nat.lt_of_lt_of_le hi h.size) h1 h2 h3 hr).trans (h.block i hi h1 h2 h3 h4)
  rows := fun g hg => by
    rcases k.rows g hg with e | e
    · exact h.rows g e
    · exact Or.inr (Nat.le_trans h.size e)

theorem cell_row {w : World} {db n : Nat} {cur : Array Value} {p : List UInt8} (h : w.heap[db]? = some (.cells cur 5 (0, 0))) (hp : p.length = n) (ht : cur.toList.take n = bytesV p) :
    ∀ j, j < n → w.cell? ⟨db, 0 + j, none⟩ = some (byteV (p.getD j 0)) := by
  intro j hj
  rw [Nat.zero_add, Lib.cell_of_heap h, ← Array.getElem?_toList]
  have h1 : (cur.toList.take n)[j]? = cur.toList[j]? := by rw [List.getElem?_take, if_pos hj]
  rw [← h1, ht, bytesV, List.getElem?_map, List.getD, List.getElem?_eq_getElem (by omega)]
  rfl

/-- (*bytes.Buffer).Write of what is pending. -/
theorem bufWrite_sink (w : World) (b db wb : Nat) (f p : List UInt8) (row : Option Nat) (h : Sink w b db wb f p row) (hp : 1 ≤ p.length) (hlim : f.length + p.length ≤ 140737488355328) (W : World) (hW : W.heap = w.heap) :
    Calls Tryd.prog 81 #[.pointer (some ⟨b, 0, none⟩), .slice (some ⟨db, 0, none⟩) p.length 65536] W fun e W' => e = .returned (.tuple #[.int .i64 (p.length : Int), .nilIface]) ∧ ∃ r', BufIs W' b (f ++ p) r' ∧ Fr W W' b row r' := by
  obtain ⟨cur, hcur, hsz, htk⟩ := h.rw
  have hcells := cell_row (w := W) (by rw [hW]; exact hcur) rfl htk
  obtain ⟨lr, hB | hB⟩ := h.buf
  · obtain ⟨rfl, rfl, hb⟩ := hB
    exact bufWrite_nil b p.length lr p db 0 65536 W (by rw [hW]; exact hb) rfl hp h.ne2 hcells (by simp at hlim; omega)
  · obtain ⟨g, cap, cu, rfl, hgb, hb, hg, hcs, hl1, hlc, hcm, ht⟩ := hB
    exact bufWrite_row b g f.length cap p.length lr cu f p db 0 65536 W (by rw [hW]; exact hb) rfl hl1 (by rw [hW]; exact hg) hlc hcm hcs hgb ht rfl hp h.ne2 (fun e => h.ne4 (by rw [e])) hcells hlim

set_option maxHeartbeats 1000000 in
theorem flush_none (w : World) (b db wb : Nat) (f : List UInt8) (row : Option Nat) (h : Sink w b db wb f [] row) :
    Calls Tryd.prog 26 #[.pointer (some ⟨wb, 0, none⟩)] w fun e w' => e = .returned .nilIface ∧ w = w' := by
  have c0 := wr0 h.wr
  have c2 : w.cell? ⟨wb, 2, none⟩ = some (.int .i64 0) := wr2 h.wr
  clear h
  go_enter Tryd.func26, Tryd.ntmps26
  go_wp2
  go_ret
  exact ⟨rfl, rfl⟩

theorem setWr {w : World} {wb db b n : Nat} (m : Nat) (h : w.heap[wb]? = some (wrCells db b n)) : (w.setCell ⟨wb, 2, none⟩ (.int .i64 (m : Int))).heap[wb]? = some (wrCells db b m) := setB_heap 2 _ h
theorem BufIs.kept {w w' : World} {b : Nat} {f : List UInt8} {row : Option Nat} (h : BufIs w b f row) (hb : w'.heap[b]? = w.heap[b]?) (hr : ∀ g, row = some g → w'.heap[g]? = w.heap[g]?) : BufIs w' b f row := by
  obtain ⟨lr, h | ⟨g, cap, cur, h1, h2, h3, h4, h5⟩⟩ := h
  · exact ⟨lr, Or.inl ⟨h.1, h.2.1, by rw [hb]; exact h.2.2⟩⟩
  · exact ⟨lr, Or.inr ⟨g, cap, cur, h1, h2, by rw [hb]; exact h3, by rw [hr g h1]; exact h4, h5⟩⟩

set_option maxHeartbeats 4000000 in
set_option maxRecDepth 100000 in
theorem flush_some (w : World) (b db wb : Nat) (f p : List UInt8) (row : Option Nat) (h : Sink w b db wb f p row) (hp : 1 ≤ p.length) (hlim : f.length + p.length ≤ 140737488355328) :
    Calls Tryd.prog 26 #[.pointer (some ⟨wb, 0, none⟩)] w fun e w' => e = .returned .nilIface ∧ ∃ r', Sink w' b db wb (f ++ p) [] r' ∧ SFr w w' b db wb row r' := by
  have c0 := wr0 h.wr
  have c1 := wr1 h.wr
  have c2 := wr2 h.wr
  have c3 := wr3 h.wr
  have hle := h.le
  have hpne : ((p.length : Int) == 0) = false := beq_eq_false_iff_ne.2 (by omega)
  have HC : Hid (∀ W : World, W.heap = w.heap → Calls Tryd.prog 81 #[.pointer (some ⟨b, 0, none⟩), .slice (some ⟨db, 0, none⟩) p.length 65536] W fun e W' => e = .returned (.tuple #[.int .i64 (p.length : Int), .nilIface]) ∧ ∃ r', BufIs W' b (f ++ p) r' ∧ Fr W W' b row r') :=
    bufWrite_sink w b db wb f p row h hp hlim
  have HS : Hid (Sink w b db wb f p row) := h
  clear h
  have hwlt : wb < w.heap.size := Lib.lt_of_heap HS.out.wr
  go_enter Tryd.func26, Tryd.ntmps26
  go_wp2_with fail
  go_region_with (
    go_at_call 81
    refine (HC.out _ ?_).mono ?_
    exact rfl
    rintro e w2 ⟨rfl, r', hB2, hF2⟩
    have hw2 : w2.heap[wb]? = some (wrCells db b p.length) := (hF2.block wb hwlt HS.out.ne1 (Ne.symm HS.out.ne5)).trans HS.out.wr
    have d2 := wr2 hw2
    have e2 := wrf hw2 2)
  all_goals (
    have HB2 : Hid (BufIs w2 b (f ++ p) r') := hB2
    have HF2 : Hid (Fr w.drew w2 b row r') := hF2
    clear hB2 hF2
    go_wp2
    go_ret)
  all_goals (
    obtain ⟨cur, hcur, hsz, htk⟩ := HS.out.rw
    have hdlt : db < w.heap.size := Lib.lt_of_heap hcur
    refine ⟨rfl, r', ?_, ?_⟩
    · refine ⟨HB2.out.kept ?_ ?_, setWr 0 hw2, ⟨cur, ?_, hsz, by simp [bytesV]⟩, by simp, HS.out.ne1, HS.out.ne2, HS.out.ne3, ?_, ?_⟩
      · rw [Below.heap_setCell _ _ _ _ (by exact Ne.symm HS.out.ne1)]
      · intro g hg
        rw [Below.heap_setCell _ _ _ _ (fun e => ?_)]
        rcases HF2.out.rows g hg with h1 | h1
        · exact HS.out.ne5 (by rw [h1, e])
        · have h2 : w.heap.size ≤ g := h1
          have : g = wb := e
          omega
      · rw [Below.heap_setCell _ _ _ _ (by exact HS.out.ne3)]
        exact (HF2.out.block db hdlt HS.out.ne2 (Ne.symm HS.out.ne4)).trans hcur
      · intro e
        rcases HF2.out.rows db e with h1 | h1
        · exact HS.out.ne4 h1
        · have h2 : w.heap.size ≤ db := h1
          omega
      · intro e
        rcases HF2.out.rows wb e with h1 | h1
        · exact HS.out.ne5 h1
        · have h2 : w.heap.size ≤ wb := h1
          omega
    · exact { os := HF2.out.os, tape := HF2.out.tape, output := HF2.out.output, size := by rw [World.size_setCell]; exact HF2.out.size
              block := fun k hk h1 h2 h3 h4 => by rw [Below.heap_setCell _ _ _ _ (by exact h3)]; exact HF2.out.block k hk h1 h4
              rows := HF2.out.rows })
end Go.Proofs.Qxb6612590aDoor
