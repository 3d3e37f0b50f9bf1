import Derived.Test.Qxb6609503aFmtWalkJ
namespace Go.Proofs.Qxb6609503aFmt
open Go.RowKit Go.PlainAid
set_option linter.unusedVariables false

/-- The reader has handed out j bytes of s. -/
structure RdB (w : World) (rb sb bb : Nat) (s : ByteArray) (j r k pos : Nat) (lb : Int) (M : Array Value) : Prop where
  rd : w.heap[rb]? = some (rdCells sb bb r k lb)
  sr : w.heap[sb]? = some (srCells s pos (-1))
  bf : w.heap[bb]? = some (.cells M 5)
  hM : M.size = 65536
  rk : r ≤ k
  kb : k ≤ 65536
  ps : pos ≤ s.size
  pj : pos = j + (k - r)
  at' : ∀ i, r ≤ i → i < k → M[i]? = some (byteV (s.data.toList.getD (j + (i - r)) 0))
def Rd (w : World) (rb sb bb : Nat) (s : ByteArray) (j : Nat) : Prop := ∃ r k pos lb M, RdB w rb sb bb s j r k pos lb M
/-- The reader has met the end. -/
structure RdE (w : World) (rb sb bb : Nat) (s : ByteArray) (j : Nat) (E : Value) : Prop where
  rd : ∃ lb, w.heap[rb]? = some (rdCellsE sb bb 0 0 E lb)
  j : j = s.size

theorem rd6 {w : World} {rb sb bb r k : Nat} {lb : Int} (h : w.heap[rb]? = some (rdCells sb bb r k lb)) : (w.setCell ⟨rb, 6, none⟩ (.int .i64 (-1))).heap[rb]? = some (rdCells sb bb r k lb) := setB_heap 6 _ h
theorem RdB.set6 {w : World} {rb sb bb : Nat} {s : ByteArray} {j r k pos : Nat} {lb : Int} {M : Array Value} (h : RdB w rb sb bb s j r k pos lb M) (h1 : rb ≠ sb) (h2 : rb ≠ bb) : RdB (w.setCell ⟨rb, 6, none⟩ (.int .i64 (-1))) rb sb bb s j r k pos lb M :=
  { h with rd := rd6 h.rd, sr := by rw [Below.heap_setCell _ _ _ _ (by exact Ne.symm h1)]; exact h.sr, bf := by rw [Below.heap_setCell _ _ _ _ (by exact Ne.symm h2)]; exact h.bf }
/-- One byte handed out. -/
theorem RdB.step {w : World} {rb sb bb : Nat} {s : ByteArray} {j r k pos : Nat} {lb : Int} {M : Array Value} (h : RdB w rb sb bb s j r k pos lb M) (h1 : rb ≠ sb) (h2 : rb ≠ bb) (hlt : r < k) (b : Int) :
    Rd ((w.setCell ⟨rb, 2, none⟩ (.int .i64 ((r : Int) + 1))).setCell ⟨rb, 5, none⟩ (.int .i64 b)) rb sb bb s (j + 1) := by
  have hne : ∀ x, x ≠ rb → ((w.setCell ⟨rb, 2, none⟩ (.int .i64 ((r : Int) + 1))).setCell ⟨rb, 5, none⟩ (.int .i64 b)).heap[x]? = w.heap[x]? := fun x hx => by
    rw [Below.heap_setCell _ _ _ _ (by exact hx), Below.heap_setCell _ _ _ _ (by exact hx)]
  have hr : ((r : Int) + 1) = ((r + 1 : Nat) : Int) := by omega
  refine ⟨r + 1, k, pos, b, M, ?_, (hne sb (Ne.symm h1)).trans h.sr, (hne bb (Ne.symm h2)).trans h.bf, h.hM, by omega, h.kb, h.ps, by have := h.pj; omega, fun i hi hk => ?_⟩
  · rw [hr]
    exact setB_heap 5 (.int .i64 b) (setB_heap 2 (.int .i64 ((r + 1 : Nat) : Int)) h.rd)
  · rw [h.at' i (by omega) hk, show j + (i - r) = j + 1 + (i - (r + 1)) from by omega]
def meas (rb : Nat) (w : World) : Nat :=
  match w.cell? ⟨rb, 2, none⟩, w.cell? ⟨rb, 3, none⟩, w.cell? ⟨rb, 4, none⟩ with
  | some (.int _ r), some (.int _ k), some .nilIface => if r = k then 1 else 0
  | _, _, _ => 0

theorem readErr_any (rb sb bb : Nat) (lb : Int) (E : Value) (w : World) (hrd : w.heap[rb]? = some (rdCellsE sb bb 0 0 E lb)) :
    Calls Tryf.prog 19 #[.pointer (some ⟨rb, 0, none⟩)] w fun e w' => e = .returned E ∧ w' = w.setCell ⟨rb, 4, none⟩ .nilIface := by
  have c4 : w.cell? ⟨rb, 4, none⟩ = some E := by rw [Lib.cell_of_heap hrd]; rfl
  have f4 := Lib.frozen_of_heap hrd 4
  clear hrd
  go_enter Tryf.func19, Tryf.ntmps19
  go_wp2_with fail
  go_ret
  exact ⟨rfl, rfl⟩

def BytePost (rb sb bb j : Nat) (s : ByteArray) (E : Value) (w : World) (e : Ending) (w' : World) : Prop :=
  Fr3 w w' rb sb bb ∧ (j < s.size → e = .returned (.tuple #[byteV (s.data.toList.getD j 0), .nilIface]) ∧ Rd w' rb sb bb s (j + 1)) ∧ (s.size ≤ j → e = .returned (.tuple #[.int .u8 0, E]))

set_option maxHeartbeats 4000000 in
set_option maxRecDepth 100000 in
theorem readByte_any (rb sb bb j : Nat) (s : ByteArray) (E : Value) (w : World) (h : Rd w rb sb bb s j)
    (h1 : rb ≠ sb) (h2 : rb ≠ bb) (h3 : sb ≠ bb) (hs : s.size ≤ 10000000) (hE : w.cell? ⟨0, 0, none⟩ = some E) (hE0 : rb ≠ 0 ∧ sb ≠ 0 ∧ bb ≠ 0) (hEn : ∃ t u, E = .iface t u) :
    Calls Tryf.prog 15 #[.pointer (some ⟨rb, 0, none⟩)] w fun e w' => BytePost rb sb bb j s E w e w' := by
  obtain ⟨r0, k0, pos0, lb0, M0, hR⟩ := h
  have c6 : w.cell? ⟨rb, 6, none⟩ = some (.int .i64 (-1)) := by rw [Lib.cell_of_heap hR.rd]; rfl
  have f6 := Lib.frozen_of_heap hR.rd 6
  have HR : Hid (_) := hR.set6 h1 h2
  have HE : Hid (∀ X, Fr3 w X rb sb bb → X.cell? ⟨0, 0, none⟩ = some E) := fun X hX =>
    (World.cell?_of_block (a := ⟨0, 0, none⟩) (hX.block 0 (Ne.symm hE0.1) (Ne.symm hE0.2.1) (Ne.symm hE0.2.2))).trans hE
  have HF : Hid (Fr3 w (w.setCell ⟨rb, 6, none⟩ (.int .i64 (-1))) rb sb bb) := Fr3.set
  clear hR hE
  obtain ⟨tE, uE, rfl⟩ := hEn
  go_enter Tryf.func15, Tryf.ntmps15
  go_wp2_with fail
  clear c6 f6
  generalize w.setCell ⟨rb, 6, none⟩ (.int .i64 (-1)) = W at HR HF
  go_loopw [] (fun wr => Fr3 w wr rb sb bb ∧ (Rd wr rb sb bb s j ∨ RdE wr rb sb bb s j (.iface tE uE))) (fun wr => meas rb wr)
  case atStart => exact ⟨HF.out, .inl ⟨_, _, _, _, _, HR.out⟩⟩
  case round =>
    clear HR HF
    obtain ⟨hfr, hor⟩ := hrel
    have HF : Hid (Fr3 w wr rb sb bb) := hfr
    rcases hor with ⟨r, k, pos, lb, M, hR⟩ | hR
    · have HR : Hid (RdB wr rb sb bb s j r k pos lb M) := hR
      have c0 : wr.cell? ⟨rb, 0, none⟩ = some (.slice (some ⟨bb, 0, none⟩) 65536 65536) := by rw [Lib.cell_of_heap hR.rd]; rfl
      have c2 : wr.cell? ⟨rb, 2, none⟩ = some (.int .i64 r) := by rw [Lib.cell_of_heap hR.rd]; rfl
      have c3 : wr.cell? ⟨rb, 3, none⟩ = some (.int .i64 k) := by rw [Lib.cell_of_heap hR.rd]; rfl
      have c4 : wr.cell? ⟨rb, 4, none⟩ = some .nilIface := by rw [Lib.cell_of_heap hR.rd]; rfl
      have c5 : wr.cell? ⟨rb, 5, none⟩ = some (.int .i64 lb) := by rw [Lib.cell_of_heap hR.rd]; rfl
      have f2 := Lib.frozen_of_heap hR.rd 2
      have f5 := Lib.frozen_of_heap hR.rd 5
      have hrk := hR.rk
      have hkb := hR.kb
      have hpj := hR.pj
      have hps := hR.ps
      clear hfr
      by_cases e : r = k
      · subst e
        have HFL : Hid (∀ X : World, X.heap = wr.heap → Calls Tryf.prog 20 #[.pointer (some ⟨rb, 0, none⟩)] X fun e w' => FillPost rb sb bb pos lb s (.iface tE uE) X e w') := fun X hX =>
          fill_any rb sb bb pos r lb s M _ X (by rw [hX]; exact hR.rd) (by rw [hX]; exact hR.sr) (by rw [hX]; exact hR.bf) hR.hM h1 h2 h3 hkb hps hs (by rw [World.cell?_of_block (w := wr) (by rw [hX])]; exact HE.out wr HF.out) hE0 ⟨_, _, rfl⟩
        have hpj2 : pos = j := by omega
        clear hR c5 f2 f5
        go_wp2_with fail
        go_quiet (fail)
        go_wp2_with fail
        refine (HFL.out (wr.drewN nq) rfl).mono ?_
        rintro e w2 ⟨rfl, hf2, ⟨M2, hb2, hM2, ht2⟩, hA, hB⟩
        have hm1 : meas rb wr = 1 := by
          unfold meas
          rw [c2, c3, c4]
          simp
        have HFin : Hid ((Fr3 w w2 rb sb bb ∧ (Rd w2 rb sb bb s j ∨ RdE w2 rb sb bb s j (.iface tE uE))) ∧ meas rb w2 < meas rb wr) := by
          rw [hm1]
          subst hpj2
          by_cases hlt : pos < s.size
          · obtain ⟨hA1, hA2⟩ := hA hlt
            have ht3 := ht2 hlt
            obtain ⟨n, hn⟩ : ∃ n, Nat.min (s.size - pos) 65536 = n := ⟨_, rfl⟩
            rw [hn] at hA1 hA2 ht3
            have hn1 : 1 ≤ n := by rw [← hn]; exact Nat.le_min.2 ⟨by omega, by omega⟩
            have hn2 : n ≤ 65536 := by rw [← hn]; exact Nat.min_le_right _ _
            have hn3 : n ≤ s.size - pos := by rw [← hn]; exact Nat.min_le_left _ _
            refine ⟨⟨(HF.out.trans (Fr3.dr ⟨nq, rfl⟩)).trans hf2, .inl ⟨0, n, pos + n, lb, M2, hA1, hA2, hb2, hM2, Nat.zero_le _, hn2, by omega, by omega, fun i hi hk => ?_⟩⟩, ?_⟩
            · have e1 := congrArg (fun l => l[i]?) ht3
              simp only [List.getElem?_take, if_pos hk, bytesV, List.getElem?_map, List.getElem?_drop] at e1
              have hx : pos + i < s.data.toList.length := by rw [bs_len]; omega
              rw [List.getElem?_eq_getElem hx] at e1
              rw [← Array.getElem?_toList, e1, List.getD_eq_getElem?_getD, Nat.sub_zero, List.getElem?_eq_getElem hx]
              rfl
            · have m2 : w2.cell? ⟨rb, 2, none⟩ = some (.int .i64 ((0 : Nat) : Int)) := by rw [Lib.cell_of_heap hA1]; rfl
              have m3 : w2.cell? ⟨rb, 3, none⟩ = some (.int .i64 (n : Int)) := by rw [Lib.cell_of_heap hA1]; rfl
              have m4 : w2.cell? ⟨rb, 4, none⟩ = some .nilIface := by rw [Lib.cell_of_heap hA1]; rfl
              unfold meas
              rw [m2, m3, m4]
              simp
              omega
          · obtain ⟨hB1, hB2⟩ := hB (by omega)
            refine ⟨⟨(HF.out.trans (Fr3.dr ⟨nq, rfl⟩)).trans hf2, .inr ⟨⟨lb, hB1⟩, by omega⟩⟩, ?_⟩
            have m2 : w2.cell? ⟨rb, 2, none⟩ = some (.int .i64 ((0 : Nat) : Int)) := by rw [Lib.cell_of_heap hB1]; rfl
            have m3 : w2.cell? ⟨rb, 3, none⟩ = some (.int .i64 ((0 : Nat) : Int)) := by rw [Lib.cell_of_heap hB1]; rfl
            have m4 : w2.cell? ⟨rb, 4, none⟩ = some (.iface tE uE) := by rw [Lib.cell_of_heap hB1]; rfl
            unfold meas
            rw [m2, m3, m4]
            simp
        clear hA hB ht2 hb2 hf2 hm1 c0 c2 c3 c4
        go_wp2_with fail
        exact HFin.out
      · have e' : ((r : Int) == (k : Int)) = false := beq_eq_false_iff_ne.2 (by omega)
        have cb : wr.cell? ⟨bb, r, none⟩ = some (byteV (s.data.toList.getD j 0)) := by
          rw [Lib.cell_of_heap hR.bf, hR.at' r (Nat.le_refl _) (by omega)]; simp
        obtain ⟨b, hb⟩ : ∃ b : UInt8, s.data.toList.getD j 0 = b := ⟨_, rfl⟩
        rw [hb] at cb
        have HBY : Hid (s.data.toList.getD j 0 = b) := hb
        have hbl : (b.toNat : Int) < 256 := by have := b.toNat_lt; omega
        unfold byteV at cb
        clear hb hR c4
        go_wp2_with fail
        go_quiet (fail)
        go_wp2_with fail
        go_quiet (fail)
        go_wp2_with fail
        go_ret2
        have hjs : j < s.size := by omega
        refine ⟨(HF.out.trans (Fr3.dr ⟨_, rfl⟩)).trans (Fr3.set.trans Fr3.set), fun _ => ⟨?_, ?_⟩, fun h => by omega⟩
        · rw [HBY.out]; rfl
        · exact RdB.step (w := wr.drewN _) { HR.out with } h1 h2 (by omega) _
    · obtain ⟨lb, hrd⟩ := hR.rd
      have c2 : wr.cell? ⟨rb, 2, none⟩ = some (.int .i64 0) := by rw [Lib.cell_of_heap hrd]; rfl
      have c3 : wr.cell? ⟨rb, 3, none⟩ = some (.int .i64 0) := by rw [Lib.cell_of_heap hrd]; rfl
      have c4 : wr.cell? ⟨rb, 4, none⟩ = some (.iface tE uE) := by rw [Lib.cell_of_heap hrd]; rfl
      have HJ : Hid (j = s.size) := hR.j
      have HC : Hid (∀ X : World, X.heap = wr.heap → Calls Tryf.prog 19 #[.pointer (some ⟨rb, 0, none⟩)] X fun e w' => e = .returned (.iface tE uE) ∧ w' = X.setCell ⟨rb, 4, none⟩ .nilIface) := fun X hX =>
        readErr_any rb sb bb lb _ X (by rw [hX]; exact hrd)
      clear hrd hR hfr
      go_wp2_with fail
      go_quiet (fail)
      go_wp2_with fail
      refine (HC.out (wr.drewN nq) rfl).mono ?_
      rintro e w2 ⟨rfl, hw⟩
      subst hw
      go_wp2_with fail
      go_ret2
      have hj := HJ.out
      exact ⟨(HF.out.trans (Fr3.dr ⟨nq, rfl⟩)).trans Fr3.set, fun h => absurd h (by omega), fun _ => rfl⟩
end Go.Proofs.Qxb6609503aFmt
