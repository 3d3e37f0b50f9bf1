import Derived.Test.Qxb6609503aFmtWalkI
import Derived.Deep.CutRange
namespace Go.Proofs.Qxb6609503aFmt
open Go.RowKit Go.PlainAid
set_option linter.unusedVariables false

structure Fr3 (w w' : World) (a b c : Nat) : Prop where
  os : w'.os = w.os
  tape : w'.tape = w.tape
  output : w'.output = w.output
  size : w'.heap.size = w.heap.size
  block : ∀ k, k ≠ a → k ≠ b → k ≠ c → w'.heap[k]? = w.heap[k]?
theorem Fr3.refl (w : World) (a b c : Nat) : Fr3 w w a b c := ⟨rfl, rfl, rfl, rfl, fun _ _ _ _ => rfl⟩
theorem Fr3.trans {w w1 w2 : World} {a b c : Nat} (h : Fr3 w w1 a b c) (g : Fr3 w1 w2 a b c) : Fr3 w w2 a b c :=
  ⟨g.os.trans h.os, g.tape.trans h.tape, g.output.trans h.output, g.size.trans h.size, fun k x y z => (g.block k x y z).trans (h.block k x y z)⟩
theorem Fr3.of2 {w w1 : World} {a b c : Nat} (h : Fr2 w w1 b c) : Fr3 w w1 a b c := ⟨h.os, h.tape, h.output, h.size, fun k _ y z => h.block k y z⟩
theorem Fr3.dr {w w1 : World} {a b c : Nat} (h : Dr w w1) : Fr3 w w1 a b c := by
  obtain ⟨n, rfl⟩ := h
  exact ⟨rfl, rfl, rfl, rfl, fun _ _ _ _ => rfl⟩
theorem Fr3.set {w : World} {a b c i : Nat} {v : Value} : Fr3 w (w.setCell ⟨a, i, none⟩ v) a b c :=
  ⟨rfl, rfl, rfl, by rw [World.size_setCell], fun k x y z => Below.heap_setCell _ _ _ _ (by exact x)⟩

theorem copy_zero22 (w : World) (d : Addr) (dl dc sc : Nat) (a : Option Addr) : (Builtin.copy_ #[22, 22] 3 #[.slice (some d) dl dc, .slice a 0 sc]).run Tryf.prog w = .ok (.int .i64 0) w := by
  have hs := sz5
  cases hq : Tryf.prog.info? 5 with
  | none => simp [hq] at hs
  | some i =>
    simp [Builtin.copy_, run_underlying Tryf.underlying22, Builtin.lenOf, Builtin.firstCells, sizeOf, typeInfo, hq, loadCells, loadCellsFrom, Result.andThen, goInt]
    cases a <;> simp [storeCells]

/-- The reader's cells, with its error. -/
def rdCellsE (sb bb r k : Nat) (er : Value) (lb : Int) : Obj := .cells #[.slice (some ⟨bb, 0, none⟩) 65536 65536, .iface 49 (.pointer (some ⟨sb, 0, none⟩)), .int .i64 r, .int .i64 k, er, .int .i64 lb, .int .i64 (-1)] 65

structure Mid (w wx : World) (rb sb bb pos : Nat) (lb : Int) (s : ByteArray) : Prop where
  rd : wx.heap[rb]? = some (rdCells sb bb 0 0 lb)
  sr : wx.heap[sb]? = some (srCells s pos (-1))
  bf : ∃ M, wx.heap[bb]? = some (.cells M 5) ∧ M.size = 65536
  fr : Fr3 w wx rb sb bb

structure Got (w wx : World) (rb sb bb pos : Nat) (lb : Int) (s : ByteArray) (n : Nat) : Prop where
  hn : n = Nat.min (s.size - pos) 65536
  rd : wx.heap[rb]? = some (rdCells sb bb 0 0 lb)
  sr : wx.heap[sb]? = some (srCells s (pos + n) (-1))
  bf : ∃ M, wx.heap[bb]? = some (.cells M 5) ∧ M.size = 65536 ∧ M.toList.take n = bytesV ((s.data.toList.drop pos).take n)
  fr : Fr3 w wx rb sb bb

def FillPost (rb sb bb pos : Nat) (lb : Int) (s : ByteArray) (E : Value) (w : World) (e : Ending) (w' : World) : Prop :=
  e = .returned (.tuple #[]) ∧ Fr3 w w' rb sb bb ∧ (∃ M, w'.heap[bb]? = some (.cells M 5) ∧ M.size = 65536 ∧
    (pos < s.size → M.toList.take (Nat.min (s.size - pos) 65536) = bytesV ((s.data.toList.drop pos).take (Nat.min (s.size - pos) 65536)))) ∧
    (pos < s.size → w'.heap[rb]? = some (rdCells sb bb 0 (Nat.min (s.size - pos) 65536) lb) ∧ w'.heap[sb]? = some (srCells s (pos + Nat.min (s.size - pos) 65536) (-1))) ∧
    (s.size ≤ pos → w'.heap[rb]? = some (rdCellsE sb bb 0 0 E lb) ∧ w'.heap[sb]? = some (srCells s pos (-1)))

set_option maxHeartbeats 4000000 in
set_option maxRecDepth 100000 in
theorem fill_any (rb sb bb pos r : Nat) (lb : Int) (s : ByteArray) (M0 : Array Value) (E : Value) (w : World)
    (hrd : w.heap[rb]? = some (rdCells sb bb r r lb)) (hsr : w.heap[sb]? = some (srCells s pos (-1))) (hbf : w.heap[bb]? = some (.cells M0 5)) (hM : M0.size = 65536)
    (h1 : rb ≠ sb) (h2 : rb ≠ bb) (h3 : sb ≠ bb) (hr : r ≤ 65536) (hps : pos ≤ s.size) (hs : s.size ≤ 10000000) (hE : w.cell? ⟨0, 0, none⟩ = some E) (hE0 : rb ≠ 0 ∧ sb ≠ 0 ∧ bb ≠ 0) (hEn : ∃ t u, E = .iface t u) :
    Calls Tryf.prog 20 #[.pointer (some ⟨rb, 0, none⟩)] w fun e w' => FillPost rb sb bb pos lb s E w e w' := by
  have HM : Hid (r = 0 → Mid w w rb sb bb pos lb s) := fun e => ⟨by rw [← e]; exact hrd, hsr, ⟨M0, hbf, hM⟩, Fr3.refl _ _ _ _⟩
  have c0 : w.cell? ⟨rb, 0, none⟩ = some (.slice (some ⟨bb, 0, none⟩) 65536 65536) := by rw [Lib.cell_of_heap hrd]; rfl
  have c2 : w.cell? ⟨rb, 2, none⟩ = some (.int .i64 r) := by rw [Lib.cell_of_heap hrd]; rfl
  have c3 : w.cell? ⟨rb, 3, none⟩ = some (.int .i64 r) := by rw [Lib.cell_of_heap hrd]; rfl
  have f2 := Lib.frozen_of_heap hrd 2
  have f3 := Lib.frozen_of_heap hrd 3
  have HRD : Hid (w.heap[rb]? = some (rdCells sb bb r r lb)) := hrd
  have HSR : Hid (w.heap[sb]? = some (srCells s pos (-1))) := hsr
  have HBF : Hid (w.heap[bb]? = some (.cells M0 5)) := hbf
  clear hrd hsr hbf
  go_enter Tryf.func20, Tryf.ntmps20
  go_upto_if 9 with fail
  go_cut [] from 9 (fun wx => Mid w wx rb sb bb pos lb s)
  case first =>
    by_cases r0 : r = 0
    · subst r0
      have HM0 : Hid (Mid w w rb sb bb pos lb s) := HM.out rfl
      clear HM
      go_wp2_with fail
      go_meet
      exact HM0.out
    · have hcz := copy_zero22 w.drew ⟨bb, 0, none⟩ 65536 65536 (65536 - r) (if 65536 = r then some ⟨bb, 0, none⟩ else some ⟨bb, r, none⟩)
      clear HM
      go_wp2_with fail
      go_region
      go_wp2_with fail
      all_goals (
        clear hcz c0 c2 c3 f2 f3 hE
        have hrdW : w.drew.heap[rb]? = some (rdCells sb bb r r lb) := HRD.out
        have HSRW : Hid (w.drew.heap[sb]? = some (srCells s pos (-1))) := HSR.out
        have HBFW : Hid (w.drew.heap[bb]? = some (.cells M0 5)) := HBF.out
        have HFW : Hid (Fr3 w w.drew rb sb bb) := Fr3.dr ⟨1, rfl⟩
        generalize w.drew = W at hrdW HSRW HBFW HFW
        have c2 : W.cell? ⟨rb, 2, none⟩ = some (.int .i64 r) := by rw [Lib.cell_of_heap hrdW]; rfl
        have c3 : W.cell? ⟨rb, 3, none⟩ = some (.int .i64 r) := by rw [Lib.cell_of_heap hrdW]; rfl
        have f2 := Lib.frozen_of_heap hrdW 2
        have f3 := Lib.frozen_of_heap hrdW 3
        have HRDW : Hid (W.heap[rb]? = some (rdCells sb bb r r lb)) := hrdW
        clear hrdW
        go_region
        go_wp2_with fail
        go_meet
        refine ⟨?_, ?_, ⟨M0, ?_, hM⟩, ?_⟩
        · exact setB_heap 2 (.int .i64 0) (setB_heap 3 (.int .i64 0) HRDW.out)
        · show ((W.setCell ⟨rb, 3, none⟩ (.int .i64 0)).setCell ⟨rb, 2, none⟩ (.int .i64 0)).heap[sb]? = _
          rw [Below.heap_setCell _ _ _ _ (by exact Ne.symm h1), Below.heap_setCell _ _ _ _ (by exact Ne.symm h1)]; exact HSRW.out
        · show ((W.setCell ⟨rb, 3, none⟩ (.int .i64 0)).setCell ⟨rb, 2, none⟩ (.int .i64 0)).heap[bb]? = _
          rw [Below.heap_setCell _ _ _ _ (by exact Ne.symm h2), Below.heap_setCell _ _ _ _ (by exact Ne.symm h2)]; exact HBFW.out
        · exact HFW.out.trans ((Fr3.set.trans Fr3.set).trans (Fr3.dr ⟨1, rfl⟩)))
  case rest =>
    have hrd := hcut.rd
    have d0 : wc.cell? ⟨rb, 0, none⟩ = some (.slice (some ⟨bb, 0, none⟩) 65536 65536) := by rw [Lib.cell_of_heap hrd]; rfl
    have d1 : wc.cell? ⟨rb, 1, none⟩ = some (.iface 49 (.pointer (some ⟨sb, 0, none⟩))) := by rw [Lib.cell_of_heap hrd]; rfl
    have d3 : wc.cell? ⟨rb, 3, none⟩ = some (.int .i64 0) := by rw [Lib.cell_of_heap hrd]; rfl
    have HC : Hid (Mid w wc rb sb bb pos lb s) := hcut
    have HE : Hid (wc.cell? ⟨0, 0, none⟩ = some E) := by
      show _ = _
      rw [World.cell?_of_block (hcut.fr.block 0 (Ne.symm hE0.1) (Ne.symm hE0.2.1) (Ne.symm hE0.2.2)), hE]
    clear c0 c2 c3 f2 f3 hrd hcut HRD HSR HBF HM hE
    go_wp2_with fail
    go_quiet (fail)
    go_wp2_with fail
    have HCW : Hid (Mid w (wc.drewN nq) rb sb bb pos lb s) := ⟨HC.out.rd, HC.out.sr, HC.out.bf, HC.out.fr.trans (Fr3.dr ⟨nq, rfl⟩)⟩
    have HEW : Hid ((wc.drewN nq).cell? ⟨0, 0, none⟩ = some E) := HE.out
    clear HC HE d0 d1 d3
    generalize wc.drewN nq = W at HCW HEW
    go_loopw [2] (fun i wx => i = .int .i64 100 ∧ wx = W) (fun _ _ => 0)
    case atStart => exact ⟨rfl, rfl⟩
    case round =>
      obtain ⟨rfl, rfl⟩ := hrel
      have hrd := HCW.out.rd
      have d0 : wr.cell? ⟨rb, 0, none⟩ = some (.slice (some ⟨bb, 0, none⟩) 65536 65536) := by rw [Lib.cell_of_heap hrd]; rfl
      have d1 : wr.cell? ⟨rb, 1, none⟩ = some (.iface 49 (.pointer (some ⟨sb, 0, none⟩))) := by rw [Lib.cell_of_heap hrd]; rfl
      have d3 : wr.cell? ⟨rb, 3, none⟩ = some (.int .i64 0) := by rw [Lib.cell_of_heap hrd]; rfl
      clear hrd
      obtain ⟨M, hb, hMs⟩ := HCW.out.bf
      have HB : Hid (wr.heap[bb]? = some (.cells M 5)) := hb
      clear hb
      by_cases hlt : pos < s.size
      · have HR : Hid (∀ X : World, X.heap = wr.heap → Calls Tryf.prog 65 #[.pointer (some ⟨sb, 0, none⟩), .slice (some ⟨bb, 0, none⟩) 65536 65536] X fun e w' => ReadPost sb bb pos s X e w') := fun X hX =>
          read_some sb bb pos (-1) s M X (by rw [hX]; exact HCW.out.sr) (by rw [hX]; exact HB.out) hMs h3 hlt hs
        go_wp2_with fail
        go_upto_region 9 with fail
        go_cut [3, 4] from 53 to 94 (fun s3 s4 wx => ∃ n : Nat, s3 = .int .i64 n ∧ s4 = .nilIface ∧ Got w wx rb sb bb pos lb s n)
        case first =>
          go_region_with (
            go_at_call 65
            refine (HR.out _ ?_).mono ?_
            exact rfl
            rintro e w2 ⟨n, M2, hn, rfl, hs2, hb2, hM2, ht2, hf2⟩
            have hr2 : w2.heap[rb]? = some (rdCells sb bb 0 0 lb) := (hf2.block rb h1 h2).trans HCW.out.rd
            have hg2 : Got w w2 rb sb bb pos lb s n := ⟨hn, hr2, hs2, ⟨M2, hb2, hM2, ht2⟩, (HCW.out.fr.trans (Fr3.dr ⟨1, rfl⟩)).trans (Fr3.of2 hf2)⟩
            have HG2 : Hid (Got w w2 rb sb bb pos lb s n) := hg2
            clear hn hs2 hb2 hM2 ht2 hf2 hr2 hg2)
          all_goals (
            go_wp2_with fail
            go_meet
            exact ⟨n, rfl, rfl, HG2.out⟩)
        case rest =>
          obtain ⟨n, rfl, rfl, hg⟩ := hcut
          have HG : Hid (Got w wc rb sb bb pos lb s n) := hg
          have hn1 : 1 ≤ n := by rw [hg.hn]; exact Nat.le_min.2 ⟨by omega, by omega⟩
          have hn2 : n ≤ 65536 := by rw [hg.hn]; exact Nat.min_le_right _ _
          have e3 : wc.cell? ⟨rb, 3, none⟩ = some (.int .i64 0) := by rw [Lib.cell_of_heap hg.rd]; rfl
          have ef := Lib.frozen_of_heap hg.rd 3
          clear hg d0 d1 d3
          go_wp2_with fail
          go_end0
          obtain ⟨M2, hb2, hM2, ht2⟩ := HG.out.bf
          have hne : ∀ k, k ≠ rb → (wc.setCell ⟨rb, 3, none⟩ (.int .i64 (n : Int))).heap[k]? = wc.heap[k]? := fun k hk => Below.heap_setCell _ _ _ _ (by exact hk)
          have hfin := setB_heap 3 (.int .i64 (n : Int)) HG.out.rd
          have hnn := HG.out.hn
          refine ⟨rfl, HG.out.fr.trans Fr3.set, ⟨M2, (hne bb (Ne.symm h2)).trans hb2, hM2, fun _ => by rw [← hnn]; exact ht2⟩, fun _ => ⟨by rw [← hnn]; exact hfin, by rw [← hnn]; exact (hne sb (Ne.symm h1)).trans HG.out.sr⟩, fun h => absurd h (by omega)⟩
      · obtain ⟨tE, uE, rfl⟩ := hEn
        have HR : Hid (∀ X : World, X.heap = wr.heap → Calls Tryf.prog 65 #[.pointer (some ⟨sb, 0, none⟩), .slice (some ⟨bb, 0, none⟩) 65536 65536] X fun e w' => e = .returned (.tuple #[.int .i64 0, .iface tE uE]) ∧ Dr X w') := fun X hX =>
          read_end sb pos (-1) _ _ s X (by rw [hX]; exact HCW.out.sr) (by rw [World.cell?_of_block (w := wr) (by rw [hX]), HEW.out]) (by omega) (by omega)
        go_wp2_with fail
        go_upto_region 9 with fail
        go_cut [3, 4] from 53 to 94 (fun s3 s4 wx => s3 = .int .i64 0 ∧ s4 = .iface tE uE ∧ Dr wr wx)
        case first =>
          go_region_with (
            go_at_call 65
            refine (HR.out _ ?_).mono ?_
            exact rfl
            rintro e w2 ⟨rfl, hd2⟩
            have HD2 : Hid (Dr wr w2) := by
              obtain ⟨m, rfl⟩ := hd2
              exact ⟨m + 1, by rw [Nat.add_comm]; exact World.drewN_drewN _ _ _⟩
            clear hd2)
          all_goals (
            go_wp2_with fail
            go_meet
            exact ⟨rfl, rfl, HD2.out⟩)
        case rest =>
          obtain ⟨rfl, rfl, hd⟩ := hcut
          have hh : wc.heap = wr.heap := by obtain ⟨m, rfl⟩ := hd; rfl
          have hrc : wc.heap[rb]? = some (rdCells sb bb 0 0 lb) := by rw [hh]; exact HCW.out.rd
          have HF : Hid (Fr3 w wc rb sb bb) := HCW.out.fr.trans (Fr3.dr hd)
          have HRC : Hid (wc.heap[rb]? = some (rdCells sb bb 0 0 lb)) := hrc
          have HSC : Hid (wc.heap[sb]? = some (srCells s pos (-1))) := by show _ = _; rw [hh]; exact HCW.out.sr
          have HBC : Hid (wc.heap[bb]? = some (.cells M 5)) := by show _ = _; rw [hh]; exact HB.out
          have e3 : wc.cell? ⟨rb, 3, none⟩ = some (.int .i64 0) := by rw [Lib.cell_of_heap hrc]; rfl
          have e4 : wc.cell? ⟨rb, 4, none⟩ = some .nilIface := by rw [Lib.cell_of_heap hrc]; rfl
          have ef := Lib.frozen_of_heap hrc 3
          have eg := Lib.frozen_of_heap hrc 4
          clear hh hrc hd d0 d1 d3
          go_wp2_with fail
          go_end0
          have hne : ∀ k, k ≠ rb → ((wc.setCell ⟨rb, 3, none⟩ (.int .i64 0)).setCell ⟨rb, 4, none⟩ (.iface tE uE)).heap[k]? = wc.heap[k]? := fun k hk => by
            rw [Below.heap_setCell _ _ _ _ (by exact hk), Below.heap_setCell _ _ _ _ (by exact hk)]
          have hfin := setB_heap 4 (.iface tE uE) (setB_heap 3 (.int .i64 0) HRC.out)
          refine ⟨rfl, HF.out.trans (Fr3.set.trans Fr3.set), ⟨M, (hne bb (Ne.symm h2)).trans HBC.out, hMs, fun h => absurd h hlt⟩, fun h => absurd h hlt, fun _ => ⟨hfin, (hne sb (Ne.symm h1)).trans HSC.out⟩⟩
end Go.Proofs.Qxb6609503aFmt
