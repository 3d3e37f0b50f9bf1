import Derived.Test.Qxb6612590aDoorWalkC
import Derived.Laws.CopyRow
import Derived.Laws.IdiomCopy
namespace Go.Proofs.Qxb6612590aDoor
open Go.RowKit
set_option linter.unusedVariables false

/-- A bytes.Buffer in block b that holds the bytes bs; 'row': the block of its bytes. -/
def BufIs (w : World) (b : Nat) (bs : List UInt8) (row : Option Nat) : Prop :=
  ∃ lr : Int, (row = none ∧ bs = [] ∧ w.heap[b]? = some (.cells #[.slice none 0 0, .int .i64 0, .int .i8 lr] 45 (0, 0))) ∨
    (∃ (g cap : Nat) (cur : Array Value), row = some g ∧ g ≠ b ∧ w.heap[b]? = some (.cells #[.slice (some ⟨g, 0, none⟩) bs.length cap, .int .i64 0, .int .i8 lr] 45 (0, 0)) ∧
      w.heap[g]? = some (.cells cur 5 (0, 0)) ∧ cur.size = cap ∧ 1 ≤ bs.length ∧ bs.length ≤ cap ∧ cap ≤ maxLen ∧ cur.toList.take bs.length = bytesV bs)
/-- What a writer of the buffer leaves alone. -/
structure Fr (w w' : World) (b : Nat) (row row' : Option Nat) : Prop where
  os : w'.os = w.os
  tape : w'.tape = w.tape
  output : w'.output = w.output
  size : w.heap.size ≤ w'.heap.size
  block : ∀ k, k < w.heap.size → k ≠ b → some k ≠ row → w'.heap[k]? = w.heap[k]?
  rows : ∀ g, row' = some g → row = some g ∨ w.heap.size ≤ g

theorem take_mid (cur : List Value) (l n : Nat) (cs : List Value) (hn : cs.length = n) (hl : l ≤ cur.length) : (cur.take l ++ cs ++ cur.drop (l + n)).take (l + n) = cur.take l ++ cs := by
  rw [List.take_left' (by simp [hn]; omega)]
theorem written {W1 : World} {b G l n cap : Nat} {lr : Int} {cells : Array Value} (bs cs : List UInt8) (hGb : G ≠ b) (hl : bs.length = l) (hn : cs.length = n) (hn1 : 1 ≤ n)
    (hb : W1.heap[b]? = some (.cells #[.slice (some ⟨G, 0, none⟩) (l + n) cap, .int .i64 0, .int .i8 lr] 45 (0, 0)))
    (hG : W1.heap[G]? = some (.cells cells 5 (0, 0))) (hs : cells.size = cap) (ht : cells.toList.take l = bytesV bs) (hc : l + n ≤ cap) (hcm : cap ≤ maxLen) :
    BufIs (W1.setRow G (cells.toList.take l ++ bytesV cs ++ cells.toList.drop (l + n)).toArray) b (bs ++ cs) (some G) := by
  have hlen : (bs ++ cs).length = l + n := by rw [List.length_append, hl, hn]
  refine ⟨lr, Or.inr ⟨G, cap, _, rfl, hGb, ?_, setRow_heap W1 G cells _ 5 (0, 0) hG, ?_, by omega, by omega, hcm, ?_⟩⟩
  · rw [hlen, setRow_other W1 G b _ (Ne.symm hGb)]; exact hb
  · have : cells.toList.length = cap := by simpa using hs
    simp [bytesV]; omega
  · rw [hlen]
    have : cells.toList.length = cap := by simpa using hs
    show List.take (l + n) (cells.toList.take l ++ bytesV cs ++ cells.toList.drop (l + n)) = _
    rw [take_mid _ l n _ (by rw [bytesV_len, hn]) (by omega), ht]
    simp [bytesV]

theorem sz5 : (Tryd.prog.info? 5).map (·.size) = some 1 := by kernel_rfl


theorem fr_row {w w' : World} {b g : Nat} (h : w.grownBy w' (some b)) (G : Nat) (cs : Array Value) (hG : G = g ∨ w.heap.size ≤ G) : Fr w (w'.setRow G cs) b (some g) (some G) where
  os := h.os
  tape := h.tape
  output := h.output
  size := by rw [setRow_size]; exact h.size
  block := fun k hk hb hr => by
    have hne : k ≠ G := fun e => by
      rcases hG with h1 | h1
      · exact hr (by rw [e, h1])
      · omega
    rw [setRow_other w' G k cs hne]
    exact h.block k hk (fun e => hb (Option.some.inj e))
  rows := fun x hx => by
    have := Option.some.inj hx
    subst this
    rcases hG with h1 | h1
    · exact Or.inl (by rw [h1])
    · exact Or.inr h1
theorem fr_nil {w w' : World} {b : Nat} (h : w.grownBy w' (some b)) (G : Nat) (cs : Array Value) (hG : w.heap.size ≤ G) : Fr w (w'.setRow G cs) b none (some G) where
  os := h.os
  tape := h.tape
  output := h.output
  size := by rw [setRow_size]; exact h.size
  block := fun k hk hb hr => by
    rw [setRow_other w' G k cs (by omega)]
    exact h.block k hk (fun e => hb (Option.some.inj e))
  rows := fun x hx => Or.inr (by have := Option.some.inj hx; omega)
theorem src_kept {w w' : World} {b sb so n : Nat} {cs : List UInt8} (h : w.grownBy w' (some b)) (hsb : sb ≠ b) (hn : cs.length = n) (hsrc : ∀ j, j < n → w.cell? ⟨sb, so + j, none⟩ = some (byteV (cs.getD j 0))) :
    ∀ j v, (bytesV cs)[j]? = some v → w'.cell? ((⟨sb, so, none⟩ : Addr).add j) = some v := by
  intro j v hj
  have hlt : j < cs.length := by
    rcases Nat.lt_or_ge j cs.length with h1 | h1
    · exact h1
    · rw [List.getElem?_eq_none (by rw [bytesV_len]; exact h1)] at hj; cases hj
  have hv : byteV (cs.getD j 0) = v := by
    rw [bytesV, List.getElem?_map, List.getElem?_eq_getElem hlt] at hj
    simp only [Option.map_some, Option.some.injEq] at hj
    rw [List.getD, List.getElem?_eq_getElem hlt]
    exact hj
  rw [Lib.addr_add]
  exact h.cell (by rw [hsrc j (by omega), hv]) (by show some sb ≠ some b; exact fun e => hsb (Option.some.inj e))

set_option maxHeartbeats 4000000 in
set_option maxRecDepth 100000 in
theorem bufWrite_row (b g l cap n : Nat) (lr : Int) (cur : Array Value) (bs cs : List UInt8) (sb so c : Nat) (w : World)
    (hbk : w.heap[b]? = some (.cells #[.slice (some ⟨g, 0, none⟩) l cap, .int .i64 0, .int .i8 lr] 45 (0, 0))) (hl : bs.length = l) (hl0 : 1 ≤ l)
    (hg : w.heap[g]? = some (.cells cur 5 (0, 0))) (hlc : l ≤ cap) (hcm : cap ≤ maxLen) (hcs : cur.size = cap) (hgb : g ≠ b) (ht : cur.toList.take l = bytesV bs)
    (hn : cs.length = n) (hn1 : 1 ≤ n) (hsb : sb ≠ b) (hsg : sb ≠ g) (hsrc : ∀ j, j < n → w.cell? ⟨sb, so + j, none⟩ = some (byteV (cs.getD j 0))) (hlim : l + n ≤ 140737488355328) :
    Calls Tryd.prog 81 #[.pointer (some ⟨b, 0, none⟩), .slice (some ⟨sb, so, none⟩) n c] w fun e w' => e = .returned (.tuple #[.int .i64 (n : Int), .nilIface]) ∧ ∃ r', BufIs w' b (bs ++ cs) r' ∧ Fr w w' b (some g) r' := by
  have c2 : w.cell? ⟨b, 2, none⟩ = some (.int .i8 lr) := by rw [Lib.cell_of_heap hbk]; rfl
  have f2 : w.frozen? ⟨b, 2, none⟩ = false := Lib.frozen_of_heap hbk 2
  have hbk1 : (w.setCell ⟨b, 2, none⟩ (.int .i8 0)).heap[b]? = some (.cells #[.slice (some ⟨g, 0, none⟩) l cap, .int .i64 0, .int .i8 0] 45 (0, 0)) := setB_heap 2 (.int .i8 0) hbk
  have hg1 : (w.setCell ⟨b, 2, none⟩ (.int .i8 0)).heap[g]? = some (.cells cur 5 (0, 0)) := by rw [Below.heap_setCell _ _ _ _ (by exact hgb)]; exact hg
  have hgr1 : w.grownBy (w.setCell ⟨b, 2, none⟩ (.int .i8 0)) (some b) := Lib.grownBy_setCell w b 2 _
  generalize hW : w.setCell ⟨b, 2, none⟩ (.int .i8 0) = W1 at hbk1 hg1 hgr1
  have d0 : W1.cell? ⟨b, 0, none⟩ = some (.slice (some ⟨g, 0, none⟩) l cap) := by rw [Lib.cell_of_heap hbk1]; rfl
  have g0 : W1.frozen? ⟨b, 0, none⟩ = false := Lib.frozen_of_heap hbk1 0
  have Hsrc : Hid (∀ j, j < n → w.cell? ⟨sb, so + j, none⟩ = some (byteV (cs.getD j 0))) := hsrc
  have HT : Hid (cur.toList.take l = bytesV bs) := ht
  have HL : Hid (bs.length = l) := hl
  have HN : Hid (cs.length = n) := hn
  have HS : Hid (cur.size = cap) := hcs
  clear hsrc ht hl hn hcs
  have hcm' := hcm
  unfold maxLen at hcm'
  by_cases hroom : n ≤ cap - l
  · have hbk2 : (W1.setCell ⟨b, 0, none⟩ (.slice (some ⟨g, 0, none⟩) (l + n) cap)).heap[b]? = some (.cells #[.slice (some ⟨g, 0, none⟩) (l + n) cap, .int .i64 0, .int .i8 0] 45 (0, 0)) := setB_heap 0 _ hbk1
    have hg2 : (W1.setCell ⟨b, 0, none⟩ (.slice (some ⟨g, 0, none⟩) (l + n) cap)).heap[g]? = some (.cells cur 5 (0, 0)) := by rw [Below.heap_setCell _ _ _ _ (by exact hgb)]; exact hg1
    have hgr2 : w.grownBy (W1.setCell ⟨b, 0, none⟩ (.slice (some ⟨g, 0, none⟩) (l + n) cap)) (some b) := Lib.grownBy_setB hgr1 0 _
    generalize hW2 : W1.setCell ⟨b, 0, none⟩ (.slice (some ⟨g, 0, none⟩) (l + n) cap) = W2 at hbk2 hg2 hgr2
    have d2 : W2.cell? ⟨b, 0, none⟩ = some (.slice (some ⟨g, 0, none⟩) (l + n) cap) := by rw [Lib.cell_of_heap hbk2]; rfl
    have hne : ¬ cap = l := by omega
    have hcp := run_copy_row (P := Tryd.prog) W2 24 24 3 5 g l n (cap - l) ⟨sb, so, none⟩ n c cur 5 (bytesV cs) Tryd.underlying24 sz5 hg2 (by rw [bytesV_len, HN.out]; exact (Nat.min_self n).symm) (src_kept hgr2 hsb HN.out Hsrc.out) (by rw [bytesV_len, HN.out, HS.out]; omega) (bytesV_one cs)
    rw [bytesV_len, HN.out] at hcp
    have HW' : Hid (BufIs (W2.setRow g (cur.toList.take l ++ bytesV cs ++ cur.toList.drop (l + n)).toArray) b (bs ++ cs) (some g) ∧ Fr w (W2.setRow g (cur.toList.take l ++ bytesV cs ++ cur.toList.drop (l + n)).toArray) b (some g) (some g)) :=
      ⟨written bs cs hgb HL.out HN.out hn1 hbk2 hg2 HS.out HT.out (by omega) hcm, fr_row hgr2 g _ (Or.inl rfl)⟩
    generalize W2.setRow g (cur.toList.take l ++ bytesV cs ++ cur.toList.drop (l + n)).toArray = W3 at hcp HW'
    go_enter Tryd.func81, Tryd.ntmps81
    go_wp2_with fail
    refine (Tryd.Buffer_tryGrow_room b _ l cap n W1 d0 g0 hlc hcm hroom).mono ?_
    rintro e w' ⟨rfl, hw'⟩
    rw [hw', hW2]
    clear hw' w'
    go_wp2_with fail
    go_ret2
    exact ⟨rfl, _, HW'.out.1, HW'.out.2⟩
  · have hone : ∀ v ∈ cur.toList.take l, v.oneCell' = true := by rw [HT.out]; exact bytesV_one bs
    go_enter Tryd.func81, Tryd.ntmps81
    go_wp2_with fail
    refine (Tryd.Buffer_tryGrow_none b _ l cap n W1 d0 hlc hcm (by omega)).mono ?_
    rintro e w' ⟨rfl, hw'⟩
    rw [hw']
    clear hw' w'
    go_wp2_with fail
    refine (grow_row b g l cap n 0 cur W1 hbk1 hl0 hg1 hlc hcm HS.out hgb hone hn1 (by omega) hlim).mono ?_
    rintro e W2 ⟨rfl, G, cap2, cells, hGs, hbk2, hG2, hcz, htk, hcap2, hcm2, hgr⟩
    have hgr2 : w.grownBy W2 (some b) := Lib.grownBy_trans hgr1 hgr
    have hGw : w.heap.size ≤ G := Nat.le_trans hgr1.size hGs
    have hGb : G ≠ b := by have := Lib.lt_of_heap hbk1; omega
    have d2 : W2.cell? ⟨b, 0, none⟩ = some (.slice (some ⟨G, 0, none⟩) (l + n) cap2) := by rw [Lib.cell_of_heap hbk2]; rfl
    have hne : ¬ cap2 = l := by omega
    have hcp := run_copy_row (P := Tryd.prog) W2 24 24 3 5 G l n (cap2 - l) ⟨sb, so, none⟩ n c cells 5 (bytesV cs) Tryd.underlying24 sz5 hG2 (by rw [bytesV_len, HN.out]; exact (Nat.min_self n).symm) (src_kept hgr2 hsb HN.out Hsrc.out) (by rw [bytesV_len, HN.out, hcz]; omega) (bytesV_one cs)
    rw [bytesV_len, HN.out] at hcp
    have HW' : Hid (BufIs (W2.setRow G (cells.toList.take l ++ bytesV cs ++ cells.toList.drop (l + n)).toArray) b (bs ++ cs) (some G) ∧ Fr w (W2.setRow G (cells.toList.take l ++ bytesV cs ++ cells.toList.drop (l + n)).toArray) b (some g) (some G)) :=
      ⟨written bs cs hGb HL.out HN.out hn1 hbk2 hG2 hcz (htk.trans HT.out) hcap2 hcm2, fr_row hgr2 G _ (Or.inr hGw)⟩
    generalize W2.setRow G (cells.toList.take l ++ bytesV cs ++ cells.toList.drop (l + n)).toArray = W3 at hcp HW'
    have hcm2' := hcm2
    unfold maxLen at hcm2'
    clear hcz htk hgr
    go_wp2_with fail
    go_ret2
    exact ⟨rfl, _, HW'.out.1, HW'.out.2⟩

set_option maxHeartbeats 4000000 in
set_option maxRecDepth 100000 in
theorem bufWrite_nil (b n : Nat) (lr : Int) (cs : List UInt8) (sb so c : Nat) (w : World)
    (hbk : w.heap[b]? = some (.cells #[.slice none 0 0, .int .i64 0, .int .i8 lr] 45 (0, 0)))
    (hn : cs.length = n) (hn1 : 1 ≤ n) (hsb : sb ≠ b) (hsrc : ∀ j, j < n → w.cell? ⟨sb, so + j, none⟩ = some (byteV (cs.getD j 0))) (hlim : n ≤ 140737488355328) :
    Calls Tryd.prog 81 #[.pointer (some ⟨b, 0, none⟩), .slice (some ⟨sb, so, none⟩) n c] w fun e w' => e = .returned (.tuple #[.int .i64 (n : Int), .nilIface]) ∧ ∃ r', BufIs w' b cs r' ∧ Fr w w' b none r' := by
  have c2 : w.cell? ⟨b, 2, none⟩ = some (.int .i8 lr) := by rw [Lib.cell_of_heap hbk]; rfl
  have f2 : w.frozen? ⟨b, 2, none⟩ = false := Lib.frozen_of_heap hbk 2
  have hbk1 : (w.setCell ⟨b, 2, none⟩ (.int .i8 0)).heap[b]? = some (.cells #[.slice none 0 0, .int .i64 0, .int .i8 0] 45 (0, 0)) := setB_heap 2 (.int .i8 0) hbk
  have hgr1 : w.grownBy (w.setCell ⟨b, 2, none⟩ (.int .i8 0)) (some b) := Lib.grownBy_setCell w b 2 _
  generalize hW : w.setCell ⟨b, 2, none⟩ (.int .i8 0) = W1 at hbk1 hgr1
  have d0 : W1.cell? ⟨b, 0, none⟩ = some (.slice none 0 0) := by rw [Lib.cell_of_heap hbk1]; rfl
  have hgrow : Calls Tryd.prog 84 #[.pointer (some ⟨b, 0, none⟩), .int .i64 n] W1 fun e w' => GrowPost b 0 n 0 [] W1 e w' := by
    by_cases h64 : n ≤ 64
    · exact grow_nil_small b n 0 W1 hbk1 hn1 h64
    · exact grow_nil_big b n 0 W1 hbk1 (by omega) hlim
  have Hgrow : Hid (Calls Tryd.prog 84 #[.pointer (some ⟨b, 0, none⟩), .int .i64 n] W1 fun e w' => GrowPost b 0 n 0 [] W1 e w') := hgrow
  have Hsrc : Hid (∀ j, j < n → w.cell? ⟨sb, so + j, none⟩ = some (byteV (cs.getD j 0))) := hsrc
  have HN : Hid (cs.length = n) := hn
  clear hsrc hn hgrow
  go_enter Tryd.func81, Tryd.ntmps81
  go_wp2_with fail
  refine (Tryd.Buffer_tryGrow_none b _ 0 0 n W1 d0 (Nat.le_refl _) (Nat.zero_le _) (by omega)).mono ?_
  rintro e w' ⟨rfl, hw'⟩
  rw [hw']
  clear hw' w'
  go_wp2_with fail
  refine Hgrow.out.mono ?_
  rintro e W2 ⟨rfl, G, cap2, cells, hGs, hbk2, hG2, hcz, htk, hcap2, hcm2, hgr⟩
  have hgr2 : w.grownBy W2 (some b) := Lib.grownBy_trans hgr1 hgr
  have hGw : w.heap.size ≤ G := Nat.le_trans hgr1.size hGs
  have hGb : G ≠ b := by have := Lib.lt_of_heap hbk1; omega
  have d2 : W2.cell? ⟨b, 0, none⟩ = some (.slice (some ⟨G, 0, none⟩) n cap2) := by rw [Lib.cell_of_heap hbk2, Nat.zero_add]; rfl
  have hne : ¬ cap2 = 0 := by omega
  have hcp := run_copy_row (P := Tryd.prog) W2 24 24 3 5 G 0 n (cap2 - 0) ⟨sb, so, none⟩ n c cells 5 (bytesV cs) Tryd.underlying24 sz5 hG2 (by rw [bytesV_len, HN.out]; exact (Nat.min_self n).symm) (src_kept hgr2 hsb HN.out Hsrc.out) (by rw [bytesV_len, HN.out, hcz]; omega) (bytesV_one cs)
  rw [bytesV_len, HN.out, Nat.sub_zero] at hcp
  have HW' : Hid (BufIs (W2.setRow G (cells.toList.take 0 ++ bytesV cs ++ cells.toList.drop (0 + n)).toArray) b cs (some G) ∧ Fr w (W2.setRow G (cells.toList.take 0 ++ bytesV cs ++ cells.toList.drop (0 + n)).toArray) b none (some G)) :=
    ⟨written [] cs hGb rfl HN.out hn1 hbk2 hG2 hcz (by simp [bytesV]) hcap2 hcm2, fr_nil hgr2 G _ hGw⟩
  generalize W2.setRow G (cells.toList.take 0 ++ bytesV cs ++ cells.toList.drop (0 + n)).toArray = W3 at hcp HW'
  have hcm2' := hcm2
  unfold maxLen at hcm2'
  clear hcz htk hgr
  go_wp2_with fail
  go_ret2
  exact ⟨rfl, _, HW'.out.1, HW'.out.2⟩
end Go.Proofs.Qxb6612590aDoor
