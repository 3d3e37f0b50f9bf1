import Derived.Test.Qxb6612590aDoorWalkF
namespace Go.Proofs.Qxb6612590aDoor
open Go.RowKit
set_option linter.unusedVariables false

theorem Sink.ofDr {w w' : World} {b db wb : Nat} {f p : List UInt8} {row : Option Nat} (h : Sink w b db wb f p row) (hd : Dr w w') : Sink w' b db wb f p row := by
  obtain ⟨n, rfl⟩ := hd
  exact ⟨h.buf, h.wr, h.rw, h.le, h.ne1, h.ne2, h.ne3, h.ne4, h.ne5⟩
theorem SFr.ofDr {w w' : World} (b db wb : Nat) (row : Option Nat) (hd : Dr w w') : SFr w w' b db wb row row := by
  obtain ⟨n, rfl⟩ := hd
  exact ⟨rfl, rfl, rfl, Nat.le_refl _, fun _ _ _ _ _ _ => rfl, fun g h => Or.inl h⟩

/-- One byte stored behind what is pending. -/
theorem sink_put {w : World} {b db wb : Nat} {f p : List UInt8} {row : Option Nat} (h : Sink w b db wb f p row) (c : UInt8) (hlt : p.length < 65536) :
    Sink ((w.setCell ⟨db, p.length, none⟩ (byteV c)).setCell ⟨wb, 2, none⟩ (.int .i64 ((p.length : Int) + 1))) b db wb f (p ++ [c]) row ∧
    SFr w ((w.setCell ⟨db, p.length, none⟩ (byteV c)).setCell ⟨wb, 2, none⟩ (.int .i64 ((p.length : Int) + 1))) b db wb row row := by
  obtain ⟨cur, hcur, hsz, htk⟩ := h.rw
  have e1 : ((p.length : Int) + 1) = ((p.length + 1 : Nat) : Int) := by omega
  have hw1 : (w.setCell ⟨db, p.length, none⟩ (byteV c)).heap[wb]? = some (wrCells db b p.length) := by rw [Below.heap_setCell _ _ _ _ (by exact Ne.symm h.ne3)]; exact h.wr
  have hlen : (p ++ [c]).length = p.length + 1 := by simp
  have other : ∀ k, k ≠ db → k ≠ wb → ((w.setCell ⟨db, p.length, none⟩ (byteV c)).setCell ⟨wb, 2, none⟩ (.int .i64 ((p.length : Int) + 1))).heap[k]? = w.heap[k]? := fun k h1 h2 => by
    rw [Below.heap_setCell _ _ _ _ (by exact h2), Below.heap_setCell _ _ _ _ (by exact h1)]
  refine ⟨⟨h.buf.kept (other b (Ne.symm h.ne2) (Ne.symm h.ne1)) (fun g hg => other g (fun e => h.ne4 (by rw [hg, e])) (fun e => h.ne5 (by rw [hg, e]))), ?_, ?_, by omega, h.ne1, h.ne2, h.ne3, h.ne4, h.ne5⟩, ?_⟩
  · rw [e1, hlen]; exact setWr _ hw1
  · refine ⟨cur.setIfInBounds p.length (byteV c), ?_, by simpa using hsz, ?_⟩
    · rw [Below.heap_setCell _ _ _ _ (by exact h.ne3)]; exact setB_heap _ _ hcur
    · have hs : cur.toList.length = 65536 := by simpa using hsz
      rw [hlen, Array.toList_setIfInBounds, List.take_set, List.take_succ_eq_append_getElem (by omega), htk]
      have hb : (bytesV p).length = p.length := bytesV_len p
      rw [List.set_append_right _ _ (by omega), hb, Nat.sub_self]
      simp [bytesV]
  · exact ⟨rfl, rfl, rfl, by rw [World.size_setCell, World.size_setCell]; exact Nat.le_refl _, fun k hk h1 h2 h3 h4 => other k h2 h3, fun g hg => Or.inl hg⟩

/-- What a writer leaves: the bytes xs have come behind. -/
def Wrote (w : World) (b db wb : Nat) (f p xs : List UInt8) (row : Option Nat) (w' : World) : Prop :=
  ∃ f' p' r', Sink w' b db wb f' p' r' ∧ f' ++ p' = f ++ p ++ xs ∧ SFr w w' b db wb row r'

set_option maxHeartbeats 4000000 in
set_option maxRecDepth 100000 in
theorem writeByte_room (w : World) (b db wb : Nat) (f p : List UInt8) (row : Option Nat) (c : UInt8) (h : Sink w b db wb f p row) (hlt : p.length < 65536) :
    Calls Tryd.prog 22 #[.pointer (some ⟨wb, 0, none⟩), .int .u8 (c.toNat : Int)] w fun e w' => e = .returned .nilIface ∧ Wrote w b db wb f p [c] row w' := by
  have c0 := wr0 h.wr
  have HS : Hid (Sink w b db wb f p row) := h
  go_enter Tryd.func22, Tryd.ntmps22
  go_wp2_with fail
  refine (available_any wb db b p.length w h.wr h.le).mono ?_
  clear h
  rintro e w1 ⟨rfl, hD⟩
  have HS1 : Hid (Sink w1 b db wb f p row) := HS.out.ofDr hD
  have HF1 : Hid (SFr w w1 b db wb row row) := SFr.ofDr b db wb row hD
  clear hD
  obtain ⟨cur, hcur, hsz, htk⟩ := HS1.out.rw
  have d0 := wr0 HS1.out.wr
  have d1 := wr1 HS1.out.wr
  have d2 := wr2 HS1.out.wr
  have hx : ∃ v, w1.cell? ⟨db, p.length, none⟩ = some v := by
    rw [Lib.cell_of_heap hcur]
    exact ⟨_, Array.getElem?_eq_getElem (by omega)⟩
  obtain ⟨v, hv⟩ := hx
  have hfz : w1.frozen? ⟨db, p.length, none⟩ = false := Lib.frozen_of_heap hcur _
  have hne3 := HS1.out.ne3
  clear hcur hsz htk
  have hwne : ¬ wb = db := fun e => hne3 e.symm
  have hd3 : w1.frozen? ⟨wb, 2, none⟩ = false := wrf HS1.out.wr 2
  go_wp2_with fail
  go_region
  all_goals go_wp2
  all_goals go_ret
  all_goals (
    have hp := sink_put HS1.out c hlt
    have hd : Dr ((w1.setCell ⟨db, p.length, none⟩ (byteV c)).setCell ⟨wb, 2, none⟩ (.int .i64 ((p.length : Int) + 1))) ((w1.setCell ⟨db, p.length, none⟩ (byteV c)).setCell ⟨wb, 2, none⟩ (.int .i64 ((p.length : Int) + 1))).drew := ⟨1, rfl⟩
    exact ⟨rfl, f, p ++ [c], row, hp.1.ofDr hd, by simp, (HF1.out.trans hp.2).trans (SFr.ofDr b db wb row hd)⟩)

set_option maxHeartbeats 4000000 in
set_option maxRecDepth 100000 in
theorem writeByte_full (w : World) (b db wb : Nat) (f p : List UInt8) (row : Option Nat) (c : UInt8) (h : Sink w b db wb f p row) (hfull : p.length = 65536) (hlim : f.length + p.length ≤ 140737488355328) :
    Calls Tryd.prog 22 #[.pointer (some ⟨wb, 0, none⟩), .int .u8 (c.toNat : Int)] w fun e w' => e = .returned .nilIface ∧ Wrote w b db wb f p [c] row w' := by
  have c0 := wr0 h.wr
  have HS : Hid (Sink w b db wb f p row) := h
  have HFull : Hid (p.length = 65536) := hfull
  have hav : Calls Tryd.prog 33 #[.pointer (some ⟨wb, 0, none⟩)] w fun e w' => e = .returned (.int .i64 0) ∧ Dr w w' := by
    have := available_any wb db b p.length w h.wr h.le
    rw [hfull] at this
    exact this
  clear h hfull
  go_enter Tryd.func22, Tryd.ntmps22
  go_wp2_with fail
  refine hav.mono ?_
  clear hav
  rintro e w0 ⟨rfl, hD⟩
  have HS0 : Hid (Sink w0 b db wb f p row) := HS.out.ofDr hD
  have HF0 : Hid (SFr w w0 b db wb row row) := SFr.ofDr b db wb row hD
  clear hD
  go_wp2_with fail
  refine (flush_some w0 b db wb f p row HS0.out (by rw [HFull.out]; omega) hlim).mono ?_
  rintro e w1 ⟨rfl, r', hS1, hF1⟩
  have HS1 : Hid (Sink w1 b db wb (f ++ p) [] r') := hS1
  have HF1 : Hid (SFr w w1 b db wb row r') := HF0.out.trans hF1
  clear hS1 hF1
  obtain ⟨cur, hcur, hsz, htk⟩ := HS1.out.rw
  have d0 := wr0 HS1.out.wr
  have d1 := wr1 HS1.out.wr
  have d2 : w1.cell? ⟨wb, 2, none⟩ = some (.int .i64 0) := wr2 HS1.out.wr
  have hx : ∃ v, w1.cell? ⟨db, 0, none⟩ = some v := by
    rw [Lib.cell_of_heap hcur]
    exact ⟨_, Array.getElem?_eq_getElem (by omega)⟩
  obtain ⟨v, hv⟩ := hx
  have hfz : w1.frozen? ⟨db, 0, none⟩ = false := Lib.frozen_of_heap hcur _
  have hne3 := HS1.out.ne3
  clear hcur hsz htk
  have hwne : ¬ wb = db := fun e => hne3 e.symm
  have hd3 : w1.frozen? ⟨wb, 2, none⟩ = false := wrf HS1.out.wr 2
  go_wp2_with fail
  go_region
  all_goals go_wp2
  all_goals go_ret
  all_goals (
    have hp := sink_put HS1.out c (by simp)
    have hd : Dr ((w1.setCell ⟨db, 0, none⟩ (byteV c)).setCell ⟨wb, 2, none⟩ (.int .i64 1)) ((w1.setCell ⟨db, 0, none⟩ (byteV c)).setCell ⟨wb, 2, none⟩ (.int .i64 1)).drew := ⟨1, rfl⟩
    exact ⟨rfl, f ++ p, [] ++ [c], r', hp.1.ofDr hd, by simp, (HF1.out.trans hp.2).trans (SFr.ofDr b db wb r' hd)⟩)

theorem writeByte_any (w : World) (b db wb : Nat) (f p : List UInt8) (row : Option Nat) (c : UInt8) (h : Sink w b db wb f p row) (hlim : f.length + p.length ≤ 140737488355328) :
    Calls Tryd.prog 22 #[.pointer (some ⟨wb, 0, none⟩), .int .u8 (c.toNat : Int)] w fun e w' => e = .returned .nilIface ∧ Wrote w b db wb f p [c] row w' := by
  by_cases hlt : p.length < 65536
  · exact writeByte_room w b db wb f p row c h hlt
  · exact writeByte_full w b db wb f p row c h (by have := h.le; omega) hlim
end Go.Proofs.Qxb6612590aDoor
