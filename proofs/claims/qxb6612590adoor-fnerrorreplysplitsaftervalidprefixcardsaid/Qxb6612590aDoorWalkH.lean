import Derived.Test.Qxb6612590aDoorWalkG
import Derived.LoopTactic
namespace Go.Proofs.Qxb6612590aDoor
open Go.RowKit
set_option linter.unusedVariables false

def strSize : Value → Nat | .string t => t.size | _ => 0
/-- Are bytes pending? -/
def pend (wb : Nat) (w : World) : Nat := match w.cell? ⟨wb, 2, none⟩ with | some (.int _ n) => if n = 0 then 0 else 1 | _ => 0
def WsPost (w : World) (b db wb : Nat) (f p xs : List UInt8) (row : Option Nat) (e : Ending) (w' : World) : Prop :=
  ∃ k : Int, e = .returned (.tuple #[.int .i64 k, .nilIface]) ∧ Wrote w b db wb f p xs row w'
/-- The loop's relation. -/
def WsRel (w : World) (b db wb : Nat) (f p : List UInt8) (s : ByteArray) (row : Option Nat) (t : ByteArray) (k : Nat) (wr : World) (f' p' : List UInt8) (r' : Option Nat) : Prop :=
  Sink wr b db wb f' p' r' ∧ f' ++ p' ++ t.data.toList = f ++ p ++ s.data.toList ∧ SFr w wr b db wb row r' ∧ k + t.size = s.size

/-- m bytes of t stored behind what is pending. -/
theorem sink_fill {w : World} {b db wb : Nat} {f p : List UInt8} {row : Option Nat} (h : Sink w b db wb f p row) (xs : List UInt8) (m : Nat) (hm : xs.length = m) (hle : p.length + m ≤ 65536) (cur : Array Value) (hcur : w.heap[db]? = some (.cells cur 5 (0, 0))) :
    Sink ((w.setRow db (cur.toList.take p.length ++ bytesV xs ++ cur.toList.drop (p.length + m)).toArray).setCell ⟨wb, 2, none⟩ (.int .i64 ((p.length : Int) + m))) b db wb f (p ++ xs) row ∧
    SFr w ((w.setRow db (cur.toList.take p.length ++ bytesV xs ++ cur.toList.drop (p.length + m)).toArray).setCell ⟨wb, 2, none⟩ (.int .i64 ((p.length : Int) + m))) b db wb row row := by
  obtain ⟨cur', hcur', hsz, htk⟩ := h.rw
  have e0 : cur' = cur := by
    have := hcur'.symm.trans hcur
    simpa using this
  subst e0
  have e1 : ((p.length : Int) + m) = ((p.length + m : Nat) : Int) := by omega
  have hlen : (p ++ xs).length = p.length + m := by simp [hm]
  have hs : cur'.toList.length = 65536 := by simpa using hsz
  have hw1 : (w.setRow db (cur'.toList.take p.length ++ bytesV xs ++ cur'.toList.drop (p.length + m)).toArray).heap[wb]? = some (wrCells db b p.length) := by rw [setRow_other _ _ _ _ (Ne.symm h.ne3)]; exact h.wr
  have other : ∀ k, k ≠ db → k ≠ wb → ((w.setRow db (cur'.toList.take p.length ++ bytesV xs ++ cur'.toList.drop (p.length + m)).toArray).setCell ⟨wb, 2, none⟩ (.int .i64 ((p.length : Int) + m))).heap[k]? = w.heap[k]? := fun k h1 h2 => by
    rw [Below.heap_setCell _ _ _ _ (by exact h2), setRow_other _ _ _ _ h1]
  refine ⟨⟨h.buf.kept (other b (Ne.symm h.ne2) (Ne.symm h.ne1)) (fun g hg => other g (fun e => h.ne4 (by rw [hg, e])) (fun e => h.ne5 (by rw [hg, e]))), ?_, ?_, by omega, h.ne1, h.ne2, h.ne3, h.ne4, h.ne5⟩, ?_⟩
  · rw [e1, hlen]; exact setWr _ hw1
  · refine ⟨_, by rw [Below.heap_setCell _ _ _ _ (by exact h.ne3)]; exact setRow_heap w db cur' _ 5 (0, 0) hcur', by simp [bytesV]; omega, ?_⟩
    rw [hlen]
    show List.take (p.length + m) (cur'.toList.take p.length ++ bytesV xs ++ cur'.toList.drop (p.length + m)) = _
    rw [take_mid _ _ m _ (by rw [bytesV_len, hm]) (by omega), htk]
    simp [bytesV]
  · exact ⟨rfl, rfl, rfl, by rw [World.size_setCell, setRow_size]; exact Nat.le_refl _, fun k hk h1 h2 h3 h4 => other k h2 h3, fun g hg => Or.inl hg⟩

theorem assert_sw (a : Addr) (w : World) : (Instr.typeAssert (.iface 41 (.pointer (some a))) 66 72 true).run Tryd.prog w = .ok (.tuple #[.iface 41 (.pointer (some a)), .bool true]) w := by kernel_rfl

/-- Behind a write of the buffer itself. -/
theorem sink_after {w w2 : World} {b db wb : Nat} {f p g : List UInt8} {row r' : Option Nat} (h : Sink w b db wb f p row) (hB : BufIs w2 b g r') (hF : Fr w w2 b row r') : Sink w2 b db wb g p r' ∧ SFr w w2 b db wb row r' := by
  obtain ⟨cur, hcur, hsz, htk⟩ := h.rw
  have hdlt : db < w.heap.size := Lib.lt_of_heap hcur
  have hwlt : wb < w.heap.size := Lib.lt_of_heap h.wr
  refine ⟨⟨hB, (hF.block wb hwlt h.ne1 (Ne.symm h.ne5)).trans h.wr, ⟨cur, (hF.block db hdlt h.ne2 (Ne.symm h.ne4)).trans hcur, hsz, htk⟩, h.le, h.ne1, h.ne2, h.ne3, ?_, ?_⟩, ?_⟩
  · intro e
    rcases hF.rows db e with h1 | h1
    · exact h.ne4 h1
    · omega
  · intro e
    rcases hF.rows wb e with h1 | h1
    · exact h.ne5 h1
    · omega
  · exact ⟨hF.os, hF.tape, hF.output, hF.size, fun k hk h1 _ _ h4 => hF.block k hk h1 h4, hF.rows⟩
theorem sink_err {w : World} {b db wb : Nat} {f p : List UInt8} {row : Option Nat} (h : Sink w b db wb f p row) : Sink (w.setCell ⟨wb, 0, none⟩ .nilIface) b db wb f p row ∧ SFr w (w.setCell ⟨wb, 0, none⟩ .nilIface) b db wb row row := by
  have other : ∀ k, k ≠ wb → (w.setCell ⟨wb, 0, none⟩ .nilIface).heap[k]? = w.heap[k]? := fun k h2 => Below.heap_setCell _ _ _ _ (by exact h2)
  obtain ⟨cur, hcur, hsz, htk⟩ := h.rw
  refine ⟨⟨h.buf.kept (other b (Ne.symm h.ne1)) (fun g hg => other g (fun e => h.ne5 (by rw [hg, e]))), setB_heap 0 _ h.wr, ⟨cur, (other db h.ne3).trans hcur, hsz, htk⟩, h.le, h.ne1, h.ne2, h.ne3, h.ne4, h.ne5⟩, ?_⟩
  exact ⟨rfl, rfl, rfl, by rw [World.size_setCell]; exact Nat.le_refl _, fun k hk h1 h2 h3 h4 => other k h3, fun g hg => Or.inl hg⟩
/-- (*bytes.Buffer).WriteString behind the writer. -/
theorem bufString_sink (w : World) (b db wb : Nat) (f p : List UInt8) (row : Option Nat) (s : ByteArray) (h : Sink w b db wb f p row) (hs : 1 ≤ s.size) (hlim : f.length + s.size ≤ 140737488355328) :
    Calls Tryd.prog 82 #[.pointer (some ⟨b, 0, none⟩), .string s] w fun e W' => e = .returned (.tuple #[.int .i64 (s.size : Int), .nilIface]) ∧ ∃ r', Sink W' b db wb (f ++ s.data.toList) p r' ∧ SFr w W' b db wb row r' := by
  have core : Calls Tryd.prog 82 #[.pointer (some ⟨b, 0, none⟩), .string s] w fun e W' => e = .returned (.tuple #[.int .i64 (s.size : Int), .nilIface]) ∧ ∃ r', BufIs W' b (f ++ s.data.toList) r' ∧ Fr w W' b row r' := by
    obtain ⟨lr, hB | hB⟩ := h.buf
    · obtain ⟨rfl, rfl, hb⟩ := hB
      exact bufString_nil b s.size lr s w hb rfl hs (by simp at hlim; omega)
    · obtain ⟨g, cap, cu, rfl, hgb, hb, hg, hcs, hl1, hlc, hcm, ht⟩ := hB
      exact bufString_row b g f.length cap s.size lr cu f s w hb rfl hl1 hg hlc hcm hcs hgb ht rfl hs hlim
  refine core.mono ?_
  rintro e W' ⟨rfl, r', hB, hF⟩
  exact ⟨rfl, r', sink_after h hB hF⟩

theorem ba_size (t : ByteArray) : t.data.toList.length = t.size := by simp

theorem pend_le (wb : Nat) (w : World) : pend wb w ≤ 1 := by
  unfold pend
  split
  · split <;> omega
  · omega
/-- The round's end behind a direct write. -/
theorem rel_direct {w w1 w2 wr : World} {b db wb : Nat} {f p f' p' : List UInt8} {s t : ByteArray} {row r' r2 : Option Nat} {k : Nat} {v6 : Value} (hp0 : p'.length = 0) (hR : WsRel w b db wb f p s row t k w1 f' p' r')
    (hS : Sink w2 b db wb (f' ++ t.data.toList) p' r2) (hF : SFr w1 w2 b db wb r' r2) (ht : 1 ≤ t.size) (h6 : v6 = .nilIface ∨ v6 = .iface 41 (.pointer (some ⟨b, 0, none⟩))) :
    (∃ (t1 : ByteArray) (k1 : Nat) (f1 p1 : List UInt8) (r1 : Option Nat), Value.string ByteArray.empty = .string t1 ∧ (v6 = .nilIface ∨ v6 = .iface 41 (.pointer (some ⟨b, 0, none⟩))) ∧ Value.bool true = .bool true ∧
      Value.int .i64 ((k : Int) + (t.size : Int)) = .int .i64 (k1 : Int) ∧ WsRel w b db wb f p s row t1 k1 (w2.setCell ⟨wb, 0, none⟩ .nilIface) f1 p1 r1) ∧
    2 * strSize (.string ByteArray.empty) + pend wb (w2.setCell ⟨wb, 0, none⟩ .nilIface) < 2 * strSize (.string t) + pend wb wr := by
  have hpe : p' = [] := List.length_eq_zero_iff.1 hp0
  subst hpe
  refine ⟨⟨ByteArray.empty, k + t.size, f' ++ t.data.toList, [], r2, rfl, h6, rfl, by simp, (sink_err hS).1, ?_, (hR.2.2.1.trans hF).trans (sink_err hS).2, ?_⟩, ?_⟩
  · have := hR.2.1
    simp at this ⊢
    exact this
  · have := hR.2.2.2
    simp; omega
  · have := pend_le wb (w2.setCell ⟨wb, 0, none⟩ .nilIface)
    simp [strSize]; omega
theorem copy_zero (d : Option Addr) (t : ByteArray) (W : World) : (Builtin.copy_ #[24, 9] 3 #[.slice d 0 0, .string t]).run Tryd.prog W = .ok (goInt 0) W := by
  have hs := sz5
  cases hq : Tryd.prog.info? 5 with
  | none => simp [hq] at hs
  | some i => cases d <;> simp [Builtin.copy_, run_underlying Tryd.underlying24, Builtin.lenOf, Builtin.firstCells, sizeOf, typeInfo, hq, storeCells]

theorem ext_drop (t : ByteArray) (m : Nat) : (t.extract m t.size).data.toList = t.data.toList.drop m := by
  have h := Lib.extract_data t m t.size
  rw [h, List.take_of_length_le]
  rw [List.length_drop, ba_size]; omega
theorem ext_size (t : ByteArray) (m : Nat) : (t.extract m t.size).size = t.size - m := by simp
theorem sink_same {w : World} {b db wb n : Nat} {f p : List UInt8} {row : Option Nat} (h : Sink w b db wb f p row) (hn : p.length = n) : Sink (w.setCell ⟨wb, 2, none⟩ (.int .i64 (n : Int))) b db wb f p row ∧ SFr w (w.setCell ⟨wb, 2, none⟩ (.int .i64 (n : Int))) b db wb row row := by
  have other : ∀ k, k ≠ wb → (w.setCell ⟨wb, 2, none⟩ (.int .i64 (n : Int))).heap[k]? = w.heap[k]? := fun k h2 => Below.heap_setCell _ _ _ _ (by exact h2)
  obtain ⟨cur, hcur, hsz, htk⟩ := h.rw
  subst hn
  refine ⟨⟨h.buf.kept (other b (Ne.symm h.ne1)) (fun g hg => other g (fun e => h.ne5 (by rw [hg, e]))), setWr _ h.wr, ⟨cur, (other db h.ne3).trans hcur, hsz, htk⟩, h.le, h.ne1, h.ne2, h.ne3, h.ne4, h.ne5⟩, ?_⟩
  exact ⟨rfl, rfl, rfl, by rw [World.size_setCell]; exact Nat.le_refl _, fun k hk h1 h2 h3 h4 => other k h3, fun g hg => Or.inl hg⟩
theorem pend_none {w : World} {b db wb : Nat} {f : List UInt8} {row : Option Nat} (h : Sink w b db wb f [] row) : pend wb w = 0 := by
  have := wr2 h.wr
  unfold pend
  rw [this]
  rfl
theorem pend_some {w : World} {b db wb : Nat} {f p : List UInt8} {row : Option Nat} (h : Sink w b db wb f p row) (hp : p.length ≠ 0) : pend wb w = 1 := by
  have := wr2 h.wr
  unfold pend
  rw [this]
  simp only
  rw [if_neg (by omega)]
/-- The round's end behind a fill and a flush. -/
theorem rel_fill {w w1 w4 wr : World} {b db wb m : Nat} {f p f' p' : List UInt8} {s t u : ByteArray} {row r' r4 : Option Nat} {k : Nat} {v6 : Value} (hp0 : p'.length ≠ 0) (hR : WsRel w b db wb f p s row t k w1 f' p' r') (hpe : pend wb w1 = pend wb wr)
    (hS : Sink w4 b db wb (f' ++ (p' ++ t.data.toList.take m)) [] r4) (hF : SFr w1 w4 b db wb r' r4) (hm : m ≤ t.size) (hu : u.data.toList = t.data.toList.drop m) (h6 : v6 = .nilIface ∨ v6 = .iface 41 (.pointer (some ⟨b, 0, none⟩))) :
    (∃ (t1 : ByteArray) (k1 : Nat) (f1 p1 : List UInt8) (r1 : Option Nat), Value.string u = .string t1 ∧ (v6 = .nilIface ∨ v6 = .iface 41 (.pointer (some ⟨b, 0, none⟩))) ∧ Value.bool true = .bool true ∧
      Value.int .i64 ((k : Int) + (m : Int)) = .int .i64 (k1 : Int) ∧ WsRel w b db wb f p s row t1 k1 w4 f1 p1 r1) ∧
    2 * strSize (.string u) + pend wb w4 < 2 * strSize (.string t) + pend wb wr := by
  have hus : u.size = t.size - m := by rw [← ba_size, hu, List.length_drop, ba_size]
  refine ⟨⟨u, k + m, f' ++ (p' ++ t.data.toList.take m), [], r4, rfl, h6, rfl, by simp, hS, ?_, hR.2.2.1.trans hF, ?_⟩, ?_⟩
  · rw [← hR.2.1, hu]; simp
  · have := hR.2.2.2; omega
  · rw [pend_none hS, ← hpe, pend_some hR.1 hp0]
    simp [strSize]; omega

set_option maxHeartbeats 4000000 in
set_option maxRecDepth 100000 in
theorem writeString_any (w : World) (b db wb : Nat) (f p : List UInt8) (row : Option Nat) (s : ByteArray) (h : Sink w b db wb f p row) (hlim : f.length + p.length + s.size ≤ 140737488355328) :
    Calls Tryd.prog 23 #[.pointer (some ⟨wb, 0, none⟩), .string s] w fun e w' => WsPost w b db wb f p s.data.toList row e w' := by
  have HS : Hid (Sink w b db wb f p row) := h
  clear h
  go_enter Tryd.func23, Tryd.ntmps23
  go_wp2_with fail
  go_loopw [1, 6, 7, 8] (fun s1 s6 s7 s8 wr => ∃ (t : ByteArray) (k : Nat) (f' p' : List UInt8) (r' : Option Nat), s1 = .string t ∧ (s6 = .nilIface ∨ s6 = .iface 41 (.pointer (some ⟨b, 0, none⟩))) ∧ s7 = .bool true ∧ s8 = .int .i64 (k : Int) ∧ WsRel w b db wb f p s row t k wr f' p' r')
    (fun s1 _ _ _ wr => 2 * strSize s1 + pend wb wr)
  case atStart => exact ⟨s, 0, f, p, row, rfl, Or.inl rfl, rfl, rfl, HS.out, rfl, SFr.refl _ _ _ _ _, by omega⟩
  case round =>
    obtain ⟨t, k, f', p', r', rfl, h6, rfl, rfl, hR⟩ := hrel
    have HR : Hid (WsRel w b db wb f p s row t k wr f' p' r') := hR
    clear hR
    have hwr := HR.out.1.wr
    have c0 := wr0 hwr
    have c1 := wr1 hwr
    have c2 := wr2 hwr
    have c3 := wr3 hwr
    have hle := HR.out.1.le
    have hks := HR.out.2.2.2
    go_wp2_with fail
    refine (available_any wb db b p'.length wr hwr hle).mono ?_
    rintro e w1 ⟨rfl, hD⟩
    have HR1 : Hid (WsRel w b db wb f p s row t k w1 f' p' r') := ⟨HR.out.1.ofDr hD, HR.out.2.1, HR.out.2.2.1.trans (SFr.ofDr b db wb r' hD), HR.out.2.2.2⟩
    have HP : Hid (pend wb w1 = pend wb wr) := by
      obtain ⟨n, rfl⟩ := hD
      exact rfl
    clear hD c0 c1 c2 c3 hwr HR
    have hwr1 := HR1.out.1.wr
    have d0 := wr0 hwr1
    have d1 := wr1 hwr1
    have d2 := wr2 hwr1
    have d3 := wr3 hwr1
    have g0 := wrf hwr1 0
    have g2 := wrf hwr1 2
    by_cases hlt : 65536 - p'.length < t.size
    · by_cases hp0 : p'.length = 0
      · have hp1 : ((p'.length : Int) == 0) = true := beq_iff_eq.2 (by omega)
        have hasw := assert_sw ⟨b, 0, none⟩
        rcases h6 with rfl | rfl
        · go_wp2_with fail
          refine (buffered_any wb db b p'.length w1 hwr1).mono ?_
          rintro e w2 ⟨rfl, hw⟩
          subst hw
          go_wp2_with fail
          refine (buffered_any wb db b p'.length w1 hwr1).mono ?_
          rintro e w2 ⟨rfl, hw⟩
          subst hw
          go_wp2_with fail
          refine (bufString_sink w1 b db wb f' p' r' t HR1.out.1 (by omega) (by have := congrArg List.length HR1.out.2.1; simp at this; omega)).mono ?_
          rintro e w2 ⟨rfl, r2, hS2, hF2⟩
          have hw2 := hS2.wr
          have x0 := wr0 hw2
          have y0 := wrf hw2 0
          have HS2 : Hid (Sink w2 b db wb (f' ++ t.data.toList) p' r2) := hS2
          have HF2 : Hid (SFr w1 w2 b db wb r' r2) := hF2
          clear hS2 hF2 hw2
          have hks := HR1.out.2.2.2
          go_wp2_with fail
          go_light
          exact rel_direct hp0 HR1.out HS2.out HF2.out (by omega) (Or.inr rfl)
        · go_wp2_with fail
          refine (buffered_any wb db b p'.length w1 hwr1).mono ?_
          rintro e w2 ⟨rfl, hw⟩
          subst hw
          go_wp2_with fail
          refine (buffered_any wb db b p'.length w1 hwr1).mono ?_
          rintro e w2 ⟨rfl, hw⟩
          subst hw
          go_wp2_with fail
          refine (bufString_sink w1 b db wb f' p' r' t HR1.out.1 (by omega) (by have := congrArg List.length HR1.out.2.1; simp at this; omega)).mono ?_
          rintro e w2 ⟨rfl, r2, hS2, hF2⟩
          have hw2 := hS2.wr
          have x0 := wr0 hw2
          have y0 := wrf hw2 0
          have HS2 : Hid (Sink w2 b db wb (f' ++ t.data.toList) p' r2) := hS2
          have HF2 : Hid (SFr w1 w2 b db wb r' r2) := hF2
          clear hS2 hF2 hw2
          have hks := HR1.out.2.2.2
          go_wp2_with fail
          go_light
          exact rel_direct hp0 HR1.out HS2.out HF2.out (by omega) (Or.inr rfl)
      · by_cases hfull : p'.length = 65536
        · have hwF : w1.heap[wb]? = some (wrCells db b 65536) := by rw [hwr1, hfull]
          have x2 : w1.cell? ⟨wb, 2, none⟩ = some (.int .i64 65536) := wr2 hwF
          have HFu : Hid (p'.length = 65536) := hfull
          clear hwr1 d2 hfull
          have hcz := fun d => copy_zero d t w1.drew
          go_wp2_with fail
          refine (buffered_any wb db b 65536 w1 hwF).mono ?_
          rintro e w2 ⟨rfl, hw⟩
          subst hw
          go_wp2_with fail
          refine (buffered_any wb db b 65536 w1 hwF).mono ?_
          rintro e w2 ⟨rfl, hw⟩
          subst hw
          go_wp2_with fail
          go_region
          go_wp2_with fail
          have hsm := sink_same HR1.out.1 HFu.out
          have hd1 : Dr (w1.setCell ⟨wb, 2, none⟩ (.int .i64 ((65536 : Nat) : Int))) (w1.setCell ⟨wb, 2, none⟩ (.int .i64 ((65536 : Nat) : Int))).drew := ⟨1, rfl⟩
          refine (flush_some (w1.setCell ⟨wb, 2, none⟩ (.int .i64 65536)).drew b db wb f' p' r' (hsm.1.ofDr hd1) (by rw [HFu.out]; omega) (by have := congrArg List.length HR1.out.2.1; simp at this; omega)).mono ?_
          rintro e w4 ⟨rfl, r4, hS4, hF4⟩
          have hS5 : Sink w4 b db wb (f' ++ (p' ++ t.data.toList.take 0)) [] r4 := by simpa using hS4
          have HS4 : Hid (Sink w4 b db wb (f' ++ (p' ++ t.data.toList.take 0)) [] r4) := hS5
          have HF4 : Hid (SFr w1 w4 b db wb r' r4) := (hsm.2.trans (SFr.ofDr b db wb r' hd1)).trans hF4
          clear hS4 hS5 hF4 hsm hd1
          have hks := HR1.out.2.2.2
          go_wp2_with fail
          go_light
          have hfin := rel_fill (w := w) (f := f) (p := p) (s := s) (row := row) (k := k) (v6 := u6) (u := t) (m := 0) (by rw [HFu.out]; omega) HR1.out HP.out HS4.out HF4.out (Nat.zero_le _) (by simp) h6
          simpa using hfin
        · have hp1 : ((p'.length : Int) == 0) = false := beq_eq_false_iff_ne.2 (by omega)
          go_wp2_with fail
          refine (buffered_any wb db b p'.length w1 hwr1).mono ?_
          rintro e w2 ⟨rfl, hw⟩
          subst hw
          go_wp2_with fail
          refine (buffered_any wb db b p'.length w1 hwr1).mono ?_
          rintro e w2 ⟨rfl, hw⟩
          subst hw
          obtain ⟨cur, hcur, hsz, htk⟩ := HR1.out.1.rw
          have hm : Nat.min t.size (65536 - p'.length) = 65536 - p'.length := Nat.min_eq_right (by omega)
          have hcp := copy_str w1.drew db p'.length (65536 - p'.length) (65536 - p'.length) (65536 - p'.length) t cur hcur hm (by rw [hsz]; omega)
          have hd1 : Dr w1 w1.drew := ⟨1, rfl⟩
          have HFL : Hid (_ ∧ _) := sink_fill (HR1.out.1.ofDr hd1) (t.data.toList.take (65536 - p'.length)) (65536 - p'.length) (by rw [List.length_take, ba_size]; omega) (by omega) cur hcur
          have hw3 : (w1.drew.setRow db (cur.toList.take p'.length ++ bytesV (t.data.toList.take (65536 - p'.length)) ++ cur.toList.drop (p'.length + (65536 - p'.length))).toArray).heap[wb]? = some (wrCells db b p'.length) :=
            (setRow_other w1.drew db wb _ (Ne.symm HR1.out.1.ne3)).trans hwr1
          have HD1 : Hid (SFr w1 w1.drew b db wb r' r') := SFr.ofDr b db wb r' hd1
          clear hd1
          generalize w1.drew.setRow db (cur.toList.take p'.length ++ bytesV (t.data.toList.take (65536 - p'.length)) ++ cur.toList.drop (p'.length + (65536 - p'.length))).toArray = W3 at hcp HFL hw3
          clear hcur hsz htk hm
          have z2 := wr2 hw3
          have zf := wrf hw3 2
          go_wp2_with fail
          go_region
          go_wp2_with fail
          refine (flush_some _ b db wb f' (p' ++ t.data.toList.take (65536 - p'.length)) r' HFL.out.1 (by simp; omega) (by have := congrArg List.length HR1.out.2.1; simp at this; simp; omega)).mono ?_
          rintro e w4 ⟨rfl, r4, hS4, hF4⟩
          have HS4 : Hid (Sink w4 b db wb (f' ++ (p' ++ t.data.toList.take (65536 - p'.length))) [] r4) := hS4
          have HF4 : Hid (SFr w1 w4 b db wb r' r4) := (HD1.out.trans HFL.out.2).trans hF4
          clear hS4 hF4
          have hks := HR1.out.2.2.2
          go_wp2_with fail
          go_light
          exact rel_fill (by omega) HR1.out HP.out HS4.out HF4.out (by omega) (ext_drop t _) h6
    · by_cases hfull : p'.length = 65536
      · have hwF : w1.heap[wb]? = some (wrCells db b 65536) := by rw [hwr1, hfull]
        have x2 : w1.cell? ⟨wb, 2, none⟩ = some (.int .i64 65536) := wr2 hwF
        have HFu : Hid (p'.length = 65536) := hfull
        have ht0 : t.size = 0 := by omega
        clear hwr1 d2 hfull
        have hcz := fun d => copy_zero d t w1.drew
        go_wp2_with fail
        go_region
        go_wp2_with fail
        go_ret2
        have hsm := sink_same HR1.out.1 HFu.out
        have hd1 : Dr (w1.setCell ⟨wb, 2, none⟩ (.int .i64 ((65536 : Nat) : Int))) (w1.setCell ⟨wb, 2, none⟩ (.int .i64 ((65536 : Nat) : Int))).drew := ⟨1, rfl⟩
        refine ⟨_, rfl, f', p', r', hsm.1.ofDr hd1, ?_, (HR1.out.2.2.1.trans hsm.2).trans (SFr.ofDr b db wb r' hd1)⟩
        have h1 := HR1.out.2.1
        have h2 : t.data.toList = [] := List.length_eq_zero_iff.1 (by rw [ba_size]; exact ht0)
        rw [h2, List.append_nil] at h1
        exact h1
      · obtain ⟨cur, hcur, hsz, htk⟩ := HR1.out.1.rw
        have hm : Nat.min t.size (65536 - p'.length) = t.size := Nat.min_eq_left (by omega)
        have hcp := copy_str w1.drew db p'.length (65536 - p'.length) (65536 - p'.length) t.size t cur hcur hm (by rw [hsz]; omega)
        have hd1 : Dr w1 w1.drew := ⟨1, rfl⟩
        have HFL : Hid (_ ∧ _) := sink_fill (HR1.out.1.ofDr hd1) (t.data.toList.take t.size) t.size (by rw [List.length_take, ba_size]; omega) (by omega) cur hcur
        have hw3 : (w1.drew.setRow db (cur.toList.take p'.length ++ bytesV (t.data.toList.take t.size) ++ cur.toList.drop (p'.length + t.size)).toArray).heap[wb]? = some (wrCells db b p'.length) :=
          (setRow_other w1.drew db wb _ (Ne.symm HR1.out.1.ne3)).trans hwr1
        have HD1 : Hid (SFr w1 w1.drew b db wb r' r') := SFr.ofDr b db wb r' hd1
        clear hd1
        generalize w1.drew.setRow db (cur.toList.take p'.length ++ bytesV (t.data.toList.take t.size) ++ cur.toList.drop (p'.length + t.size)).toArray = W3 at hcp HFL hw3
        clear hcur hsz htk hm
        have z2 := wr2 hw3
        have zf := wrf hw3 2
        go_wp2_with fail
        go_region
        go_wp2_with fail
        go_ret2
        refine ⟨_, rfl, f', p' ++ t.data.toList.take t.size, r', HFL.out.1, ?_, (HR1.out.2.2.1.trans HD1.out).trans HFL.out.2⟩
        rw [List.take_of_length_le (by rw [ba_size]; exact Nat.le_refl _), ← HR1.out.2.1, List.append_assoc]
end Go.Proofs.Qxb6612590aDoor
