import Derived.Test.Qxb6609503aFmtWalkH
namespace Go.Proofs.Qxb6609503aFmt
open Go.RowKit Go.PlainAid
set_option linter.unusedVariables false

theorem bs_len (s : ByteArray) : s.data.toList.length = s.size := by simp
theorem ext_drop (t : ByteArray) (m : Nat) : (t.extract m t.size).data.toList = t.data.toList.drop m := by
  have h := Lib.extract_data t m t.size
  rw [h, List.take_of_length_le]
  rw [List.length_drop, bs_len]; omega
theorem take_front (cs cur : List Value) (n : Nat) (hn : cs.length = n) : (cs ++ cur.drop n).take n = cs := by
  rw [List.take_left' hn]

set_option maxHeartbeats 4000000 in
set_option maxRecDepth 100000 in
theorem read_some (sb bb pos : Nat) (pr : Int) (s : ByteArray) (cur : Array Value) (w : World) (hsr : w.heap[sb]? = some (srCells s pos pr)) (hb : w.heap[bb]? = some (.cells cur 5)) (hsz : cur.size = 65536) (hne : sb ≠ bb) (hp : pos < s.size) (hpm : s.size ≤ 10000000) :
    Calls Tryf.prog 65 #[.pointer (some ⟨sb, 0, none⟩), .slice (some ⟨bb, 0, none⟩) 65536 65536] w fun e w' => ReadPost sb bb pos s w e w' := by
  have c0 : w.cell? ⟨sb, 0, none⟩ = some (.string s) := by rw [Lib.cell_of_heap hsr]; rfl
  have c1 : w.cell? ⟨sb, 1, none⟩ = some (.int .i64 pos) := by rw [Lib.cell_of_heap hsr]; rfl
  have c2 : w.cell? ⟨sb, 2, none⟩ = some (.int .i64 pr) := by rw [Lib.cell_of_heap hsr]; rfl
  have cf := Lib.frozen_of_heap hsr 2
  have HSR : Hid (w.heap[sb]? = some (srCells s pos pr)) := hsr
  have HB : Hid (w.heap[bb]? = some (.cells cur 5)) := hb
  clear hsr hb
  go_enter Tryf.func65, Tryf.ntmps65
  go_wp2_with fail
  go_quiet (fail)
  go_wp2_with fail
  have hs1 := setB_heap 2 (.int .i64 (-1)) HSR.out
  have hs2 : ((w.drewN nq).setCell ⟨sb, 2, none⟩ (.int .i64 (-1))).heap[sb]? = some (srCells s pos (-1)) := hs1
  have hb2 : ((w.drewN nq).setCell ⟨sb, 2, none⟩ (.int .i64 (-1))).heap[bb]? = some (.cells cur 5) := by
    rw [Below.heap_setCell _ _ _ _ (by exact Ne.symm hne)]; exact HB.out
  have hf2 : Fr2 w ((w.drewN nq).setCell ⟨sb, 2, none⟩ (.int .i64 (-1))) sb bb := ⟨rfl, rfl, rfl, by rw [World.size_setCell]; rfl, fun k h1 h2 => by rw [Below.heap_setCell _ _ _ _ (by exact h1)]; rfl⟩
  have HF2 : Hid (Fr2 w ((w.drewN nq).setCell ⟨sb, 2, none⟩ (.int .i64 (-1))) sb bb) := hf2
  clear hs1 hf2 c0 c1 c2 cf HSR HB
  generalize (w.drewN nq).setCell ⟨sb, 2, none⟩ (.int .i64 (-1)) = W1 at hs2 hb2 HF2
  have c0 : W1.cell? ⟨sb, 0, none⟩ = some (.string s) := by rw [Lib.cell_of_heap hs2]; rfl
  have c1 : W1.cell? ⟨sb, 1, none⟩ = some (.int .i64 pos) := by rw [Lib.cell_of_heap hs2]; rfl
  have hes : (s.extract pos s.size).size = s.size - pos := by simp
  have hcp := copy_str W1.drew bb 0 65536 65536 (Nat.min (s.size - pos) 65536) (s.extract pos s.size) cur hb2 (by rw [hes]) (by rw [hsz, Nat.zero_add]; exact Nat.min_le_right _ _)
  obtain ⟨n, hn⟩ : ∃ n, Nat.min (s.size - pos) 65536 = n := ⟨_, rfl⟩
  rw [hn] at hcp
  have hn2 : n ≤ s.size - pos := hn ▸ Nat.min_le_left _ _
  have hn3 : n ≤ 65536 := hn ▸ Nat.min_le_right _ _
  have HN : Hid (n = Nat.min (s.size - pos) 65536) := hn.symm
  clear hn
  rw [ext_drop] at hcp
  have hsb3 := (setRow_other W1.drew bb sb (cur.toList.take 0 ++ bytesV ((s.data.toList.drop pos).take n) ++ cur.toList.drop (0 + n)).toArray hne).trans hs2
  have hbb3 := setRow_heap W1.drew bb cur (cur.toList.take 0 ++ bytesV ((s.data.toList.drop pos).take n) ++ cur.toList.drop (0 + n)).toArray 5 (0, 0) hb2
  have HF3 : Hid (Fr2 w (W1.drew.setRow bb (cur.toList.take 0 ++ bytesV ((s.data.toList.drop pos).take n) ++ cur.toList.drop (0 + n)).toArray) sb bb) :=
    ⟨HF2.out.os, HF2.out.tape, HF2.out.output, by rw [setRow_size]; exact HF2.out.size, fun k h1 h2 => by rw [setRow_other _ _ _ _ h2]; exact HF2.out.block k h1 h2⟩
  have hM : (bytesV ((s.data.toList.drop pos).take n)).length = n := by rw [bytesV_len, List.length_take, List.length_drop, bs_len]; omega
  have HM2 : Hid ((cur.toList.take 0 ++ bytesV ((s.data.toList.drop pos).take n) ++ cur.toList.drop (0 + n)).toArray.size = 65536) := by
    show _ = _
    simp only [List.size_toArray, List.length_append, hM, List.length_take, List.length_drop, Array.length_toList, hsz]
    omega
  have HM3 : Hid ((cur.toList.take 0 ++ bytesV ((s.data.toList.drop pos).take n) ++ cur.toList.drop (0 + n)).toArray.toList.take n = bytesV ((s.data.toList.drop pos).take n)) := by
    show _ = _
    simp only [List.take_zero, List.nil_append, Nat.zero_add]
    exact List.take_left' hM
  have HB3 : Hid (_ = _) := hbb3
  have HS3 : Hid (_ = _) := hsb3
  clear hM hbb3 hs2 hb2 HF2
  generalize (cur.toList.take 0 ++ bytesV ((s.data.toList.drop pos).take n) ++ cur.toList.drop (0 + n)).toArray = M at hcp hsb3 HF3 HM2 HM3 HB3 HS3
  have d1 : (W1.drew.setRow bb M).cell? ⟨sb, 1, none⟩ = some (.int .i64 pos) := by rw [Lib.cell_of_heap hsb3]; rfl
  have df := Lib.frozen_of_heap hsb3 1
  clear hsb3
  generalize W1.drew.setRow bb M = W3 at hcp HF3 HB3 HS3 d1 df
  go_region
  go_wp2_with fail
  go_ret2
  have hfin := setB_heap 1 (.int .i64 (((pos + n : Nat) : Int))) HS3.out
  refine ⟨n, M, HN.out, rfl, hfin, ?_, HM2.out, HM3.out, ?_⟩
  · rw [Below.heap_setCell _ _ _ _ (by exact Ne.symm hne)]; exact HB3.out
  · exact ⟨HF3.out.os, HF3.out.tape, HF3.out.output, by rw [World.size_setCell]; exact HF3.out.size, fun k h1 h2 => by rw [Below.heap_setCell _ _ _ _ (by exact h1)]; exact HF3.out.block k h1 h2⟩
end Go.Proofs.Qxb6609503aFmt
