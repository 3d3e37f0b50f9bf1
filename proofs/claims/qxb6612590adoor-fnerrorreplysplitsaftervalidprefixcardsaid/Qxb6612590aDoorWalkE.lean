import Derived.Test.Qxb6612590aDoorWalkD
import Derived.Lib.BufferWrite
namespace Go.Proofs.Qxb6612590aDoor
open Go.RowKit
set_option linter.unusedVariables false

theorem copy_str (w : World) (g o dLen dCap m : Nat) (s : ByteArray) (cur : Array Value) (hg : w.heap[g]? = some (.cells cur 5 (0, 0))) (hm : Nat.min s.size dLen = m) (hfit : o + m ≤ cur.size) :
    (Builtin.copy_ #[24, 9] 3 #[.slice (some ⟨g, o, none⟩) dLen dCap, .string s]).run Tryd.prog w =
      .ok (goInt m) (w.setRow g (cur.toList.take o ++ bytesV (s.data.toList.take m) ++ cur.toList.drop (o + m)).toArray) := by
  have hms : m ≤ s.size := by rw [← hm]; exact Nat.min_le_left _ _
  have hsz : s.data.toList.length = s.size := by simp
  have hlen : (bytesV (s.data.toList.take m)).length = m := by rw [bytesV_len, List.length_take, hsz]; omega
  have hst := run_storeCells_at Tryd.prog g o 5 (bytesV (s.data.toList.take m)) 0 cur w hg (by rw [hlen]; simpa using hfit) (bytesV_one _)
  rw [hlen] at hst
  simp only [Nat.add_zero] at hst
  have htk : List.take m (List.map (fun b : UInt8 => Value.int IntKind.u8 (b.toNat : Int)) s.data.toList) = bytesV (s.data.toList.take m) := by
    rw [← List.map_take]; rfl
  have hs := sz5
  cases hq : Tryd.prog.info? 5 with
  | none => simp [hq] at hs
  | some i =>
    simp [Builtin.copy_, run_underlying Tryd.underlying24, Builtin.lenOf, Builtin.firstCells, sizeOf, typeInfo, hq, hm]
    rw [htk, hst]
    simp [Result.andThen]

set_option maxHeartbeats 4000000 in
set_option maxRecDepth 100000 in
theorem bufString_row (b g l cap n : Nat) (lr : Int) (cur : Array Value) (bs : List UInt8) (s : ByteArray) (w : World)
    (hbk : w.heap[b]? = some (.cells #[.slice (some ⟨g, 0, none⟩) l cap, .int .i64 0, .int .i8 lr] 45 (0, 0))) (hl : bs.length = l) (hl0 : 1 ≤ l)
    (hg : w.heap[g]? = some (.cells cur 5 (0, 0))) (hlc : l ≤ cap) (hcm : cap ≤ maxLen) (hcs : cur.size = cap) (hgb : g ≠ b) (ht : cur.toList.take l = bytesV bs)
    (hn : s.size = n) (hn1 : 1 ≤ n) (hlim : l + n ≤ 140737488355328) :
    Calls Tryd.prog 82 #[.pointer (some ⟨b, 0, none⟩), .string s] w fun e w' => e = .returned (.tuple #[.int .i64 (n : Int), .nilIface]) ∧ ∃ r', BufIs w' b (bs ++ s.data.toList) r' ∧ Fr w w' b (some g) r' := by
  have hsl : s.data.toList.length = n := by simp; exact hn
  have c2 : w.cell? ⟨b, 2, none⟩ = some (.int .i8 lr) := by rw [Lib.cell_of_heap hbk]; rfl
  have f2 : w.frozen? ⟨b, 2, none⟩ = false := Lib.frozen_of_heap hbk 2
  have hbk1 : (w.setCell ⟨b, 2, none⟩ (.int .i8 0)).heap[b]? = some (.cells #[.slice (some ⟨g, 0, none⟩) l cap, .int .i64 0, .int .i8 0] 45 (0, 0)) := setB_heap 2 (.int .i8 0) hbk
  have hg1 : (w.setCell ⟨b, 2, none⟩ (.int .i8 0)).heap[g]? = some (.cells cur 5 (0, 0)) := by rw [Below.heap_setCell _ _ _ _ (by exact hgb)]; exact hg
  have hgr1 : w.grownBy (w.setCell ⟨b, 2, none⟩ (.int .i8 0)) (some b) := Lib.grownBy_setCell w b 2 _
  generalize hW : w.setCell ⟨b, 2, none⟩ (.int .i8 0) = W1 at hbk1 hg1 hgr1
  have d0 : W1.cell? ⟨b, 0, none⟩ = some (.slice (some ⟨g, 0, none⟩) l cap) := by rw [Lib.cell_of_heap hbk1]; rfl
  have g0 : W1.frozen? ⟨b, 0, none⟩ = false := Lib.frozen_of_heap hbk1 0
  have HT : Hid (cur.toList.take l = bytesV bs) := ht
  have HL : Hid (bs.length = l) := hl
  have HSL : Hid (s.data.toList.length = n) := hsl
  have HS : Hid (cur.size = cap) := hcs
  clear ht hl hcs hsl
  have hcm' := hcm
  unfold maxLen at hcm'
  by_cases hroom : n ≤ cap - l
  · have hbk2 : (W1.setCell ⟨b, 0, none⟩ (.slice (some ⟨g, 0, none⟩) (l + n) cap)).heap[b]? = some (.cells #[.slice (some ⟨g, 0, none⟩) (l + n) cap, .int .i64 0, .int .i8 0] 45 (0, 0)) := setB_heap 0 _ hbk1
    have hg2 : (W1.setCell ⟨b, 0, none⟩ (.slice (some ⟨g, 0, none⟩) (l + n) cap)).heap[g]? = some (.cells cur 5 (0, 0)) := by rw [Below.heap_setCell _ _ _ _ (by exact hgb)]; exact hg1
    have hgr2 : w.grownBy (W1.setCell ⟨b, 0, none⟩ (.slice (some ⟨g, 0, none⟩) (l + n) cap)) (some b) := Lib.grownBy_setB hgr1 0 _
    generalize hW2 : W1.setCell ⟨b, 0, none⟩ (.slice (some ⟨g, 0, none⟩) (l + n) cap) = W2 at hbk2 hg2 hgr2
    have d2 : W2.cell? ⟨b, 0, none⟩ = some (.slice (some ⟨g, 0, none⟩) (l + n) cap) := by rw [Lib.cell_of_heap hbk2]; rfl
    have hne : ¬ cap = l := by omega
    have hcp := copy_str W2 g l n (cap - l) n s cur hg2 (by rw [hn]; exact Nat.min_self n) (by rw [HS.out]; omega)
    have HW' : Hid (BufIs (W2.setRow g (cur.toList.take l ++ bytesV s.data.toList ++ cur.toList.drop (l + n)).toArray) b (bs ++ s.data.toList) (some g) ∧ Fr w (W2.setRow g (cur.toList.take l ++ bytesV s.data.toList ++ cur.toList.drop (l + n)).toArray) b (some g) (some g)) :=
      ⟨written bs s.data.toList hgb HL.out HSL.out hn1 hbk2 hg2 HS.out HT.out (by omega) hcm, fr_row hgr2 g _ (Or.inl rfl)⟩
    rw [List.take_of_length_le (l := s.data.toList) (by rw [HSL.out]; exact Nat.le_refl _)] at hcp
    generalize W2.setRow g (cur.toList.take l ++ bytesV s.data.toList ++ cur.toList.drop (l + n)).toArray = W3 at hcp HW'
    go_enter Tryd.func82, Tryd.ntmps82
    go_wp2_with fail
    refine (Tryd.Buffer_tryGrow_room b _ l cap n W1 d0 g0 hlc hcm hroom).mono ?_
    rintro e w' ⟨rfl, hw'⟩
    rw [hw', hW2]
    clear hw' w'
    go_wp2_with fail
    go_ret2
    exact ⟨rfl, _, HW'.out.1, HW'.out.2⟩
  · have hone : ∀ v ∈ cur.toList.take l, v.oneCell' = true := by rw [HT.out]; exact bytesV_one bs
    go_enter Tryd.func82, Tryd.ntmps82
    go_wp2_with fail
    refine (Tryd.Buffer_tryGrow_none b _ l cap n W1 d0 hlc hcm (by omega)).mono ?_
    rintro e w' ⟨rfl, hw'⟩
    rw [hw']
    clear hw' w'
    go_wp2_with fail
    refine (grow_row b g l cap n 0 cur W1 hbk1 hl0 hg1 hlc hcm HS.out hgb hone hn1 (by omega) hlim).mono ?_
    rintro e W2 ⟨rfl, G, cap2, cells, hGs, hbk2, hG2, hcz, htk, hcap2, hcm2, hgr⟩
    have hgr2 : w.grownBy W2 (some b) := Lib.grownBy_trans hgr1 hgr
    have hGw : w.heap.size ≤ G := Nat.le_trans hgr1.size hGs
    have hGb : G ≠ b := by have := Lib.lt_of_heap hbk1; omega
    have d2 : W2.cell? ⟨b, 0, none⟩ = some (.slice (some ⟨G, 0, none⟩) (l + n) cap2) := by rw [Lib.cell_of_heap hbk2]; rfl
    have hne : ¬ cap2 = l := by omega
    have hcp := copy_str W2 G l n (cap2 - l) n s cells hG2 (by rw [hn]; exact Nat.min_self n) (by rw [hcz]; omega)
    have HW' : Hid (BufIs (W2.setRow G (cells.toList.take l ++ bytesV s.data.toList ++ cells.toList.drop (l + n)).toArray) b (bs ++ s.data.toList) (some G) ∧ Fr w (W2.setRow G (cells.toList.take l ++ bytesV s.data.toList ++ cells.toList.drop (l + n)).toArray) b (some g) (some G)) :=
      ⟨written bs s.data.toList hGb HL.out HSL.out hn1 hbk2 hG2 hcz (htk.trans HT.out) hcap2 hcm2, fr_row hgr2 G _ (Or.inr hGw)⟩
    rw [List.take_of_length_le (l := s.data.toList) (by rw [HSL.out]; exact Nat.le_refl _)] at hcp
    generalize W2.setRow G (cells.toList.take l ++ bytesV s.data.toList ++ cells.toList.drop (l + n)).toArray = W3 at hcp HW'
    have hcm2' := hcm2
    unfold maxLen at hcm2'
    clear hcz htk hgr
    go_wp2_with fail
    go_ret2
    exact ⟨rfl, _, HW'.out.1, HW'.out.2⟩

set_option maxHeartbeats 4000000 in
set_option maxRecDepth 100000 in
theorem bufString_nil (b n : Nat) (lr : Int) (s : ByteArray) (w : World)
    (hbk : w.heap[b]? = some (.cells #[.slice none 0 0, .int .i64 0, .int .i8 lr] 45 (0, 0)))
    (hn : s.size = n) (hn1 : 1 ≤ n) (hlim : n ≤ 140737488355328) :
    Calls Tryd.prog 82 #[.pointer (some ⟨b, 0, none⟩), .string s] w fun e w' => e = .returned (.tuple #[.int .i64 (n : Int), .nilIface]) ∧ ∃ r', BufIs w' b s.data.toList r' ∧ Fr w w' b none r' := by
  have hsl : s.data.toList.length = n := by simp; exact hn
  have c2 : w.cell? ⟨b, 2, none⟩ = some (.int .i8 lr) := by rw [Lib.cell_of_heap hbk]; rfl
  have f2 : w.frozen? ⟨b, 2, none⟩ = false := Lib.frozen_of_heap hbk 2
  have hbk1 : (w.setCell ⟨b, 2, none⟩ (.int .i8 0)).heap[b]? = some (.cells #[.slice none 0 0, .int .i64 0, .int .i8 0] 45 (0, 0)) := setB_heap 2 (.int .i8 0) hbk
  have hgr1 : w.grownBy (w.setCell ⟨b, 2, none⟩ (.int .i8 0)) (some b) := Lib.grownBy_setCell w b 2 _
  generalize hW : w.setCell ⟨b, 2, none⟩ (.int .i8 0) = W1 at hbk1 hgr1
  have d0 : W1.cell? ⟨b, 0, none⟩ = some (.slice none 0 0) := by rw [Lib.cell_of_heap hbk1]; rfl
  have hgrow : Calls Tryd.prog 84 #[.pointer (some ⟨b, 0, none⟩), .int .i64 n] W1 fun e w' => GrowPost b 0 n 0 [] W1 e w' := by
    by_cases h64 : n ≤ 64
    · exact grow_nil_small b n 0 W1 hbk1 hn1 h64
    · exact grow_nil_big b n 0 W1 hbk1 (by omega) hlim
  have Hgrow : Hid (Calls Tryd.prog 84 #[.pointer (some ⟨b, 0, none⟩), .int .i64 n] W1 fun e w' => GrowPost b 0 n 0 [] W1 e w') := hgrow
  have HSL : Hid (s.data.toList.length = n) := hsl
  clear hsl hgrow
  go_enter Tryd.func82, Tryd.ntmps82
  go_wp2_with fail
  refine (Tryd.Buffer_tryGrow_none b _ 0 0 n W1 d0 (Nat.le_refl _) (Nat.zero_le _) (by omega)).mono ?_
  rintro e w' ⟨rfl, hw'⟩
  rw [hw']
  clear hw' w'
  go_wp2_with fail
  refine Hgrow.out.mono ?_
  rintro e W2 ⟨rfl, G, cap2, cells, hGs, hbk2, hG2, hcz, htk, hcap2, hcm2, hgr⟩
  have hgr2 : w.grownBy W2 (some b) := Lib.grownBy_trans hgr1 hgr
  have hGw : w.heap.size ≤ G := Nat.le_trans hgr1.size hGs
  have hGb : G ≠ b := by have := Lib.lt_of_heap hbk1; omega
  have d2 : W2.cell? ⟨b, 0, none⟩ = some (.slice (some ⟨G, 0, none⟩) n cap2) := by rw [Lib.cell_of_heap hbk2, Nat.zero_add]; rfl
  have hne : ¬ cap2 = 0 := by omega
  have hcp := copy_str W2 G 0 n cap2 n s cells hG2 (by rw [hn]; exact Nat.min_self n) (by rw [hcz]; omega)
  have HW' : Hid (BufIs (W2.setRow G (cells.toList.take 0 ++ bytesV s.data.toList ++ cells.toList.drop (0 + n)).toArray) b s.data.toList (some G) ∧ Fr w (W2.setRow G (cells.toList.take 0 ++ bytesV s.data.toList ++ cells.toList.drop (0 + n)).toArray) b none (some G)) :=
    ⟨written [] s.data.toList hGb rfl HSL.out hn1 hbk2 hG2 hcz (by simp [bytesV]) hcap2 hcm2, fr_nil hgr2 G _ hGw⟩
  rw [List.take_of_length_le (l := s.data.toList) (by rw [HSL.out]; exact Nat.le_refl _)] at hcp
  generalize W2.setRow G (cells.toList.take 0 ++ bytesV s.data.toList ++ cells.toList.drop (0 + n)).toArray = W3 at hcp HW'
  have hcm2' := hcm2
  unfold maxLen at hcm2'
  clear hcz htk hgr
  go_wp2_with fail
  go_ret2
  exact ⟨rfl, _, HW'.out.1, HW'.out.2⟩
end Go.Proofs.Qxb6612590aDoor
