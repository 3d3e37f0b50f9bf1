import Derived.Test.Qxb6612590aDoorWalkM
import Derived.Deep.CutRange
namespace Go.Proofs.Qxb6612590aDoor
open Go.RowKit Go.PlainAid
set_option linter.unusedVariables false

/-- What the three replies are, the first text valid. -/
def outOf (lA lT : List UInt8) : List UInt8 := lineOf 45 lA ++ (lineOf 45 lT ++ lineOf 45 (lA ++ lT))
theorem out_len (lA lT : List UInt8) : (outOf lA lT).length = 2 * lA.length + 2 * lT.length + 9 := by
  simp [outOf, lineOf]; omega
theorem replies (a b : List UInt8) (hv : Lib.validD a = true) : replyOf a ++ replyOf b ++ replyOf (a ++ b) = outOf (a.map Pl.crB) (Pl.txt b) := by
  simp [replyOf, outOf, lineOf, Pl.txt_app a b hv, Pl.txt_valid a hv]

theorem SlB.sub {w : World} {g o : Nat} {p l q : List UInt8} (h : SlB w g o (p ++ (l ++ q))) : SlB w g (o + p.length) l := by
  intro j hj
  have := h (p.length + j) (by simp; omega)
  rw [Nat.add_assoc, this]
  congr 2
  simp [List.getD_eq_getElem?_getD, List.getElem?_append_right, List.getElem?_append_left hj]

theorem zzEq_at (w : World) (g o k cap g' o' k' cap' : Nat) (la lb : List UInt8) (ha : SlB w g o la) (hb : SlB w g' o' lb) (hk : la.length = k) (hk' : lb.length = k') (h1 : k ≤ 1000000000) (h2 : k' ≤ 1000000000) :
    Calls Tryd.prog 12 #[.slice (some ⟨g, o, none⟩) k cap, .slice (some ⟨g', o', none⟩) k' cap'] w fun e w' => EqPost la lb w e w' := by
  subst hk
  subst hk'
  exact zzEq_any w g o cap g' o' cap' la lb ha hb h1 h2

def restOf (lA lT : List UInt8) : List UInt8 := lineOf 45 lT ++ lineOf 45 (lA ++ lT)
theorem rest_len (lA lT : List UInt8) : (restOf lA lT).length = lA.length + 2 * lT.length + 6 := by
  simp [restOf, lineOf]; omega
theorem getD_app_left {l r : List UInt8} {k : Nat} (h : k < l.length) : (l ++ r).getD k 0 = l.getD k 0 := by
  simp [List.getD_eq_getElem?_getD, List.getElem?_append_left h]
theorem getD_app_right {l r : List UInt8} (k : Nat) : (l ++ r).getD (l.length + k) 0 = r.getD k 0 := by
  simp [List.getD_eq_getElem?_getD, List.getElem?_append_right]
theorem getD_mem {l : List UInt8} {k : Nat} (h : k < l.length) : l.getD k 0 ∈ l := by
  simp [List.getD_eq_getElem?_getD, h]
theorem rest_pre (lA lT : List UInt8) : restOf lA lT = (45 :: (lT ++ [13])) ++ (10 :: lineOf 45 (lA ++ lT)) := by simp [restOf, lineOf]
theorem rest_no10 {lA lT : List UInt8} (hno : (10 : UInt8) ∉ lT) {k : Nat} (hk : k < lT.length + 2) : (restOf lA lT).getD k 0 ≠ 10 := by
  rw [rest_pre, getD_app_left (by simp; omega)]
  intro e
  have := getD_mem (l := 45 :: (lT ++ [13])) (k := k) (by simp; omega)
  rw [e] at this
  simp [hno] at this
theorem rest_is10 {lA lT : List UInt8} : (restOf lA lT).getD (lT.length + 2) 0 = 10 := by
  have := getD_app_right (l := 45 :: (lT ++ [13])) (r := 10 :: lineOf 45 (lA ++ lT)) 0
  rw [← rest_pre] at this
  simpa using this

theorem rest_at1 {lA lT : List UInt8} : (restOf lA lT).getD (lT.length + 1) 0 = 13 := by
  have := getD_app_right (l := 45 :: lT) (r := 13 :: 10 :: lineOf 45 (lA ++ lT)) 0
  rw [show (45 :: lT) ++ (13 :: 10 :: lineOf 45 (lA ++ lT)) = restOf lA lT by simp [restOf, lineOf]] at this
  simpa using this
theorem rest_third {lA lT : List UInt8} : restOf lA lT = lineOf 45 lT ++ (lineOf 45 (lA ++ lT) ++ []) := by simp [restOf]
theorem third_at1 {l : List UInt8} : (lineOf 45 l).getD (l.length + 1) 0 = 13 := by simp [lineOf]
theorem third_at2 {l : List UInt8} : (lineOf 45 l).getD (l.length + 2) 0 = 10 := by simp [lineOf]

structure Ready (w0 w : World) (N g : Nat) (lA lT : List UInt8) : Prop where
  a : SlB w N 0 lA
  an : N < w.heap.size
  o : SlB w g 0 (outOf lA lT)
  og : g < w.heap.size
  fr : Below w0.heap.size w0 w

theorem Ready.dr {w0 w w' : World} {N g : Nat} {lA lT : List UInt8} (h : Ready w0 w N g lA lT) (d : Dr w w') : Ready w0 w' N g lA lT := by
  obtain ⟨n, rfl⟩ := d
  exact ⟨h.a, h.an, h.o, h.og, h.fr.trans ⟨rfl, rfl, rfl, Nat.le_refl _, fun _ _ => rfl⟩⟩
theorem SlB.below {w w' : World} {g o : Nat} {l : List UInt8} (h : SlB w g o l) (hg : g < w.heap.size) (d : Below w.heap.size w w') : SlB w' g o l := fun j hj => by
  rw [World.cell?_of_block (a := ⟨g, o + j, none⟩) (d.block g hg)]
  exact h j hj
theorem Ready.below {w0 w w' : World} {N g : Nat} {lA lT : List UInt8} (h : Ready w0 w N g lA lT) (d : Below w.heap.size w w') : Ready w0 w' N g lA lT :=
  ⟨h.a.below h.an d, Nat.lt_of_lt_of_le h.an d.size, h.o.below h.og d, Nat.lt_of_lt_of_le h.og d.size, h.fr.trans (d.mono h.fr.size)⟩
theorem zzLine_at (t : UInt8) (w : World) (g n cap : Nat) (l : List UInt8) (hb : SlB w g 0 l) (hg : g < w.heap.size) (hn : l.length = n) (h1 : n ≤ 1000000) :
    Calls Tryd.prog 13 #[.int .u8 t.toNat, .slice (some ⟨g, 0, none⟩) n cap] w fun e w' => LinePost t l w e w' := by
  subst hn
  exact zzLine_any t w g cap l hb hg h1
theorem wp_call_of {P : Program} {o : Oper} {a : Act} {w : World} {K : Act → World → Prop} {Q : Exit → Act → World → Prop} (f : Nat) (args : Array Value)
    (hrun : (execOp a.eval o).run P w = .ok (.enter f args) w) (hc : Calls P f args w fun e w' => ∃ v, e = .returned v ∧ K (a.put o.dst v) w') : Oper.wp P o a w K Q := by
  unfold Oper.wp
  rw [hrun, Oper.upon_enter]
  refine hc.mono ?_
  rintro e w' ⟨v, rfl, h⟩
  exact h

def LawPost (w : World) (e : Ending) (w' : World) : Prop := e = .returned (.bool true) ∧ Below w.heap.size w w'

set_option maxHeartbeats 2000000 in
set_option maxRecDepth 100000 in
theorem law_any (a b : ByteArray) (w : World) (ha : a.size ≤ maxLen) (hb : b.size ≤ maxLen) (hT : Lib.Utf8Tabs 1 2 w) (h2 : 2 < w.heap.size) :
    Calls Tryd.prog 3 #[.string a, .string b] w fun e w' => LawPost w e w' := by
  have HT : Hid (Lib.Utf8Tabs 1 2 w) := hT
  clear hT
  unfold maxLen at ha hb
  go_enter Tryd.func3, Tryd.ntmps3
  go_wp2_with fail
  refine (zzBytes_any a b w ha hb).mono ?_
  rintro e w' ⟨rfl, hw⟩
  subst hw
  by_cases hab : a.size + b.size ≤ 1048576
  case neg =>
    have hd : BytesOk a b = false := decide_eq_false hab
    rw [hd]
    go_wp2_with fail
    go_ret
    exact ⟨rfl, Below.refl _ _⟩
  have hd : BytesOk a b = true := decide_eq_true hab
  rw [hd]
  clear hd
  by_cases ha6 : a.size ≤ 65536
  case neg =>
    go_wp2_with fail
    go_ret
    exact ⟨rfl, Below.refl _ _⟩
  by_cases hb6 : b.size ≤ 65536
  case neg =>
    go_wp2_with fail
    go_ret
    exact ⟨rfl, Below.refl _ _⟩
  go_wp2_with fail
  refine (valid_any a w (by omega)).mono ?_
  rintro e w' ⟨r, rfl, hw, hv⟩
  subst hw
  cases r
  · go_wp2_with fail
    go_ret
    exact ⟨rfl, Below.refl _ _⟩
  have hv := hv rfl
  have HV : Hid (Lib.validD a.data.toList = true) := hv
  clear hv
  go_wp2_with fail
  refine (crlf_any a w (by omega)).mono ?_
  rintro e w1 ⟨rfl, A, hw1, hA⟩
  have HA : Hid (CrAt a a.size A) := hA
  have HW1 : Hid (w1 = w.alloc (.cells A 5)) := hw1
  have HN1 : Hid (w1.heap.size = w.heap.size + 1) := (by rw [hw1]; simp : w1.heap.size = w.heap.size + 1)
  clear hA hw1
  go_wp2_with fail
  refine (newSink_any w1).mono ?_
  rintro e w2 ⟨rfl, hS⟩
  generalize hB : w1.heap.size = B at hS
  have HS : Hid (St w1 w2 B B (B + 1) (B + 2) (B + 3) (B + 4) []) := hS
  have HB : Hid (w1.heap.size = B) := hB
  clear hS
  clear hB
  generalize B + 4 = sk at HS
  generalize B + 3 = rw at HS
  go_wp2_with fail
  refine (sinkWriter_any _ _ _ _ _ _ _ _ _ HS.out).mono ?_
  rintro e w' ⟨rfl, hw⟩
  subst hw
  have h2B : 2 < B := by rw [← HB.out, HN1.out]; omega
  have hT1 : Lib.Utf8Tabs 1 2 w1 := by
    rw [HW1.out]
    exact Utf8Tabs_of_cells HT.out ((Below.refl _ w).alloc (Nat.le_refl _) _) ⟨h2, by omega⟩
  have HT1 : Hid (Lib.Utf8Tabs 1 2 w1) := hT1
  clear hT1
  go_wp2_with fail
  refine (error_any w1 w2 B B _ _ rw sk [] a HS.out HT1.out h2B (by omega) (by simp)).mono ?_
  rintro e w3 ⟨rfl, hS3⟩
  have HS3 : Hid (St w1 w3 B B (B + 1) (B + 2) rw sk ([] ++ replyOf a.data.toList)) := hS3
  clear hS3
  go_wp2_with fail
  have hl1 : (replyOf a.data.toList).length ≤ 4 * 65536 + 3 := by
    have := Pl.txt_len a.data.toList
    simp [replyOf] at this ⊢; omega
  have hl2 : (replyOf b.data.toList).length ≤ 4 * 65536 + 3 := by
    have := Pl.txt_len b.data.toList
    simp [replyOf] at this ⊢; omega
  have hl3 : (replyOf (a.data.toList ++ b.data.toList)).length ≤ 8 * 65536 + 3 := by
    have := Pl.txt_len (a.data.toList ++ b.data.toList)
    simp [replyOf] at this ⊢; omega
  refine (error_any w1 w3 B B _ _ rw sk _ b HS3.out HT1.out h2B (by omega) (by simp; omega)).mono ?_
  rintro e w4 ⟨rfl, hS4⟩
  have HS4 : Hid (St w1 w4 B B (B + 1) (B + 2) rw sk ([] ++ replyOf a.data.toList ++ replyOf b.data.toList)) := hS4
  clear hS4
  go_wp2_with fail
  refine (error_any w1 w4 B B _ _ rw sk _ (a ++ b) HS4.out HT1.out h2B (by rw [ByteArray.size_append]; omega) (by simp; omega)).mono ?_
  rintro e w5 ⟨rfl, hS5⟩
  obtain ⟨lA, hlA⟩ : ∃ lA, lA = a.data.toList.map Pl.crB := ⟨_, rfl⟩
  obtain ⟨lT, hlT⟩ : ∃ lT, lT = Pl.txt b.data.toList := ⟨_, rfl⟩
  have hS6 : St w1 w5 B B (B + 1) (B + 2) rw sk (outOf lA lT) := by
    rw [hlA, hlT, ← replies _ _ HV.out]
    simpa using hS5
  have HS5 : Hid (St w1 w5 B B (B + 1) (B + 2) rw sk (outOf lA lT)) := hS6
  clear hS5 hS6
  have hna : lA.length = a.size := by rw [hlA, List.length_map, ba_size]
  have hnb : lT.length ≤ 4 * 65536 := by
    rw [hlT]
    have := Pl.txt_len b.data.toList
    rw [ba_size] at this; omega
  have hno : (10 : UInt8) ∉ lT := by rw [hlT]; exact Pl.txt_no10 _
  go_wp2_with fail
  refine (sinkBytes_any w1 w5 B B _ _ rw sk (outOf lA lT) HS5.out (by simp [outOf, lineOf]) (by rw [out_len]; omega)).mono ?_
  rintro e w6 ⟨g, cap, rfl, hg, hcap, hcm, hcell, hbel⟩
  have hR : Ready w w6 w.heap.size g lA lT := by
    have hsz : w1.heap.size ≤ w6.heap.size := hbel.size
    have hcr : SlB w1 w.heap.size 0 lA := by
      rw [HW1.out]
      intro j hj
      rw [World.cell?_alloc_at _ _ _ _ rfl, Nat.zero_add]
      have h := HA.out.2
      have e1 : a.data.toList.take a.size = a.data.toList := List.take_of_length_le (by rw [ba_size]; exact Nat.le_refl _)
      have e2 : A.toList.take a.size = A.toList := List.take_of_length_le (by rw [Array.length_toList, HA.out.1]; exact Nat.le_refl _)
      rw [e1, e2, ← hlA] at h
      rw [← Array.getElem?_toList, h]
      simp [bytesV, List.getD_eq_getElem?_getD, hj]
    refine ⟨fun j hj => ?_, by rw [HN1.out] at hsz; omega, fun j hj => by rw [Nat.zero_add]; exact hcell j hj, ?_, ?_⟩
    · rw [World.cell?_of_block (a := ⟨w.heap.size, 0 + j, none⟩) (hbel.block w.heap.size (by rw [← HB.out, HN1.out]; omega))]
      exact hcr j hj
    · have h0 := hcell 0 (by rw [out_len]; omega)
      exact Classical.byContradiction fun hn => by
        have : w6.heap[g]? = none := Array.getElem?_eq_none (by omega)
        simp [World.cell?, this] at h0
    · have hb1 : Below w.heap.size w w1 := by rw [HW1.out]; exact (Below.refl _ w).alloc (Nat.le_refl _) _
      exact hb1.trans (hbel.mono (by rw [← HB.out, HN1.out]; omega))
  have HR : Hid (Ready w w6 w.heap.size g lA lT) := hR
  clear hR hcell hbel hg HS HS3 HS4 HS5 HT1 HT HW1 HN1 HA HV HB h2B
  rw [out_len, hna]
  rw [out_len, hna] at hcap
  generalize hm : lT.length = m at *
  have HM : Hid (lT.length = m) := hm
  have HNA : Hid (lA.length = a.size) := hna
  have HNO : Hid ((10 : UInt8) ∉ lT) := hno
  clear hm hna hno hlA hlT hl1 hl2 hl3
  generalize a.size = n at *
  generalize w.heap.size = N at *
  obtain ⟨L, hL⟩ : ∃ L, L = 2 * n + 2 * m + 9 := ⟨_, rfl⟩
  obtain ⟨H, hH⟩ : ∃ H, H = n + 3 := ⟨_, rfl⟩
  rw [← hL]
  rw [← hL] at hcap
  have HL : Hid (L = 2 * n + 2 * m + 9) := hL
  have HH : Hid (H = n + 3) := hH
  clear hL
  go_upto_region 14 with fail
  go_cut [9] from 14 (fun s9 wx => s9 = .int .i64 (H : Int) ∧ wx = w6)
  case first =>
    go_wp2_with fail
    go_meet
    exact ⟨by rw [hH]; rfl, rfl⟩
  case rest =>
  clear hH
  obtain ⟨rfl, rfl⟩ := hcut
  have hHL : H ≤ L := by rw [HH.out, HL.out]; omega
  have hHc : H ≤ cap := by omega
  go_upto_region 15 with fail
  go_cut [62] from 50 (fun s62 wx => s62 = .bool false ∧ Ready w wx N g lA lT)
  case first =>
    have hlt : decide ((L : Int) < (H : Int)) = false := decide_eq_false (by omega)
    have hlt2 : decide (L < H) = false := decide_eq_false (by omega)
    refine wp_region_any (by kernel_rfl) ?_
    change wpAny _ _ _ _ _ _ _ (World.drew _)
    refine wpAny_take (i := 0) (v := .slice (some ⟨g, 0, none⟩) L cap) rfl (by kernel_rfl) (by kernel_rfl) (by kernel_rfl) (fun _ _ _ h => h) (Or.inl ⟨by kernel_rfl, fun w => (BigFrame.run_move (.tmp 8) rfl w).trans (by kernel_rfl)⟩) ?_
    change wpAny _ _ _ _ _ _ (Act.put _ (some 50) _) _
    refine wpAny_take (i := 1) (v := .int .i64 (L : Int)) rfl (by kernel_rfl) (by kernel_rfl) (by kernel_rfl) (fun _ _ _ h => h) (Or.inl ⟨by kernel_rfl, by intro w; go_simp⟩) ?_
    change wpAny _ _ _ _ _ _ (Act.put _ (some 51) _) _
    refine wpAny_take (i := 2) (v := .int .i64 (H : Int)) rfl (by kernel_rfl) (by kernel_rfl) (by kernel_rfl) (fun _ _ _ h => h) (Or.inl ⟨by kernel_rfl, fun w => (BigFrame.run_move (.tmp 9) rfl w).trans (by kernel_rfl)⟩) ?_
    change wpAny _ _ _ _ _ _ (Act.put _ (some 52) _) _
    refine wpAny_take (i := 3) (v := .bool false) rfl (by kernel_rfl) (by kernel_rfl) (by kernel_rfl) (fun _ _ _ h => h) (Or.inl ⟨by kernel_rfl, by intro w; go_simp⟩) ?_
    change wpAny _ _ _ _ _ _ (Act.put _ (some 53) _) _
    refine wpAny_take (i := 4) (v := .bool false) rfl (by kernel_rfl) (by kernel_rfl) (by kernel_rfl) (fun _ _ _ h => h) (Or.inl ⟨by kernel_rfl, fun w => (BigFrame.run_move (.tmp 53) rfl w).trans (by kernel_rfl)⟩) ?_
    change wpAny _ _ _ _ _ _ (Act.put _ (some 54) _) _
    refine wpAny_take (i := 5) (v := .slice (some ⟨g, 0, none⟩) L cap) rfl (by kernel_rfl) (by kernel_rfl) (by kernel_rfl) (fun _ _ _ h => h) (Or.inl ⟨by kernel_rfl, fun w => (BigFrame.run_move (.tmp 8) rfl w).trans (by kernel_rfl)⟩) ?_
    change wpAny _ _ _ _ _ _ (Act.put _ (some 55) _) _
    refine wpAny_take (i := 6) (v := .int .i64 (H : Int)) rfl (by kernel_rfl) (by kernel_rfl) (by kernel_rfl) (fun _ _ _ h => h) (Or.inl ⟨by kernel_rfl, fun w => (BigFrame.run_move (.tmp 9) rfl w).trans (by kernel_rfl)⟩) ?_
    change wpAny _ _ _ _ _ _ (Act.put _ (some 56) _) _
    refine wpAny_take (i := 7) (v := .slice (some ⟨g, 0, none⟩) H cap) rfl (by kernel_rfl) (by kernel_rfl) (by kernel_rfl) (fun _ _ _ h => h) (Or.inl ⟨by kernel_rfl, by intro w; go_simp⟩) ?_
    change wpAny _ _ _ _ _ _ (Act.put _ (some 57) _) _
    refine wpAny_take (i := 8) (v := .slice (some ⟨N, 0, none⟩) n n) rfl (by kernel_rfl) (by kernel_rfl) (by kernel_rfl) (fun _ _ _ h => h) (Or.inl ⟨by kernel_rfl, fun w => (BigFrame.run_move (.tmp 5) rfl w).trans (by kernel_rfl)⟩) ?_
    change wpAny _ _ _ _ _ _ (Act.put _ (some 58) _) _
    refine wpAny_ready (rs := [9]) (by kernel_rfl) (by simp) ?_
    refine AllReady.cons rfl (fun K hK => ?_) AllReady.nil
    rw [if_pos (by kernel_rfl)]
    refine wp_call_of 13 #[.int .u8 ((45 : UInt8).toNat : Int), .slice (some ⟨N, 0, none⟩) n n] (by kernel_rfl) ?_
    have hR0 : Ready w wc.drew N g lA lT := HR.out.dr ⟨1, rfl⟩
    refine (zzLine_at 45 _ N n n lA hR0.a hR0.an HNA.out (by omega)).mono ?_
    rintro e w1 ⟨g1, c1, rfl, hs1, hb1⟩
    refine ⟨_, rfl, hK _ _ ?_⟩
    change wpAny _ _ _ _ _ _ (Act.put _ (some 59) _) _
    clear hK K
    have hR1 : Ready w w1 N g lA lT := hR0.below hb1
    refine wpAny_ready (rs := [10]) (by kernel_rfl) (by simp) ?_
    refine AllReady.cons rfl (fun K hK => ?_) AllReady.nil
    rw [if_pos (by kernel_rfl)]
    refine wp_call_of 12 #[.slice (some ⟨g, 0, none⟩) H cap, .slice (some ⟨g1, 0, none⟩) (lineOf 45 lA).length c1] (by kernel_rfl) ?_
    have hlen : (lineOf 45 lA).length = H := by rw [HH.out, ← HNA.out]; simp [lineOf]
    refine (zzEq_at w1 g 0 H cap g1 0 _ c1 (lineOf 45 lA) (lineOf 45 lA) (SlB.sub (p := []) hR1.o) hs1 hlen rfl (by have := HH.out; omega) (by rw [hlen]; have := HH.out; omega)).mono ?_
    rintro e w2 ⟨rfl, hd2⟩
    rw [decide_eq_true rfl]
    have hR2 : Ready w w2 N g lA lT := hR1.dr hd2
    refine ⟨_, rfl, hK _ _ ?_⟩
    change wpAny _ _ _ _ _ _ (Act.put _ (some 60) _) _
    clear hK K
    refine wpAny_take (i := 11) (v := .bool false) rfl (by kernel_rfl) (by kernel_rfl) (by kernel_rfl) (fun _ _ _ h => h) (Or.inl ⟨by kernel_rfl, by intro w; go_simp⟩) ?_
    change wpAny _ _ _ _ _ _ (Act.put _ (some 61) _) _
    refine wpAny_take (i := 12) (v := .bool false) rfl (by kernel_rfl) (by kernel_rfl) (by kernel_rfl) (fun _ _ _ h => h) (Or.inl ⟨by kernel_rfl, by intro w; go_simp⟩) ?_
    change wpAny _ _ _ _ _ _ (Act.put _ (some 62) _) _
    refine wpAny_done (by kernel_rfl) ?_ _
    simp only [Act.put, List.setIfInBounds_toArray, List.set_cons_succ, List.set_cons_zero]
    go_wp2_with fail
    go_meet
    exact ⟨rfl, hR2⟩
  case rest =>
  obtain ⟨rfl, hR⟩ := hcut
  clear HR
  have HR : Hid (Ready w wc N g lA lT) := hR
  clear hR
  have hHc2 : H < cap := by rw [HH.out]; rw [HL.out] at hcap; omega
  have hRR : ∃ R, R = n + 2 * m + 6 ∧ L - H = R := ⟨_, rfl, by rw [HH.out, HL.out]; omega⟩
  obtain ⟨R, hR, hLH⟩ := hRR
  have HRR : Hid (R = n + 2 * m + 6) := hR
  clear hR
  have hsl : SlB wc g H (restOf lA lT) := by
    have h := HR.out.o
    have e : outOf lA lT = lineOf 45 lA ++ (restOf lA lT ++ []) := by simp [outOf, restOf]
    rw [e] at h
    have h := h.sub
    rwa [Nat.zero_add, show (lineOf 45 lA).length = H by rw [HH.out, ← HNA.out]; simp [lineOf]] at h
  have HSL : Hid (SlB wc g H (restOf lA lT)) := hsl
  have hrl : (restOf lA lT).length = R := by rw [rest_len, HRR.out, HM.out, HNA.out]
  have HRL : Hid ((restOf lA lT).length = R) := hrl
  have hmR : m + 2 < R := by rw [HRR.out]; omega
  clear hsl hrl
  have hRC : R ≤ cap - H := by rw [HRR.out, HH.out]; rw [HL.out] at hcap; omega
  go_wp2_with fail
  clear hLH
  generalize cap - H = C at *
  go_loop [11] (fun i => ∃ k : Nat, k ≤ m + 2 ∧ i = .int .i64 k) (fun i => m + 2 - (intOf i).toNat)
  case atStart => exact ⟨0, Nat.zero_le _, rfl⟩
  case round =>
    obtain ⟨k, hk, rfl⟩ := hrel
    have hkR : k < R := by omega
    have q := HSL.out k (by rw [HRL.out]; exact hkR)
    unfold byteV at q
    by_cases hlt : k < m + 2
    · have hne : (restOf lA lT).getD k 0 ≠ 10 := rest_no10 HNO.out (by rw [HM.out]; exact hlt)
      have hq : (((restOf lA lT).getD k 0).toNat : Int) ≠ 10 := fun e => hne (UInt8.toNat_inj.1 (by simpa using Int.ofNat.inj e))
      have hq2 : ((((restOf lA lT).getD k 0).toNat : Int) == 10) = false := beq_eq_false_iff_ne.2 hq
      clear hne
      generalize ((restOf lA lT).getD k 0).toNat = x at q hq hq2
      go_wp2_with fail
      go_round
      case rel => exact ⟨k + 1, by omega, by go_num⟩
      case measure => simp [intOf]; omega
    · have hke : k = m + 2 := by omega
      have hx : (restOf lA lT).getD k 0 = 10 := by rw [hke, ← HM.out]; exact rest_is10
      rw [hx] at q
      change wc.cell? _ = some (.int .u8 10) at q
      subst hke
      go_upto_region 21 with fail
      obtain ⟨T, hT, hRT⟩ : ∃ T, T = n + m + 3 ∧ R - (m + 3) = T := ⟨_, rfl, by rw [HRR.out]; omega⟩
      obtain ⟨O, hO⟩ : ∃ O, H + (m + 3) = O := ⟨_, rfl⟩
      have q0 : wc.cell? ⟨g, H, none⟩ = some (.int .u8 45) := HSL.out 0 (by rw [HRL.out]; omega)
      have q1 : wc.cell? ⟨g, H + (m + 1), none⟩ = some (.int .u8 13) := by
        have := HSL.out (m + 1) (by rw [HRL.out]; omega)
        rw [← HM.out, rest_at1] at this
        rw [← HM.out]; exact this
      have hth : SlB wc g O (lineOf 45 (lA ++ lT)) := by
        have h := HSL.out
        rw [rest_third] at h
        have h := h.sub
        rwa [show (lineOf 45 lT).length = m + 3 by rw [← HM.out]; simp [lineOf], hO] at h
      have hlT2 : (lA ++ lT).length = n + m := by rw [List.length_append, HM.out, HNA.out]
      have q2 : wc.cell? ⟨g, O, none⟩ = some (.int .u8 45) := hth 0 (by simp [lineOf])
      have q3 : wc.cell? ⟨g, O + (n + m + 1), none⟩ = some (.int .u8 13) := by
        have := hth (n + m + 1) (by simp [lineOf, HM.out, HNA.out])
        rwa [← hlT2, third_at1, hlT2] at this
      have q4 : wc.cell? ⟨g, O + (n + m + 2), none⟩ = some (.int .u8 10) := by
        have := hth (n + m + 2) (by simp [lineOf, HM.out, HNA.out]; omega)
        rwa [← hlT2, third_at2, hlT2] at this
      have HTH : Hid (SlB wc g O (lineOf 45 (lA ++ lT))) := hth
      clear hth hlT2
      have hm3 : m + 3 < C := by have := HRR.out; omega
      have hm3R : m + 3 ≤ R := by have := HRR.out; omega
      have e1 : ((m : Int) + 2 == R) = false := beq_eq_false_iff_ne.2 (by omega)
      go_wp2_with fail
      have s1 : SlB wc g (O + 1) lA := by
        have h := HTH.out
        rw [show lineOf 45 (lA ++ lT) = [45] ++ (lA ++ (lT ++ [13, 10])) by simp [lineOf]] at h
        exact h.sub
      have s2 : SlB wc g (O + (1 + n)) lT := by
        have h := HTH.out
        rw [show lineOf 45 (lA ++ lT) = (45 :: lA) ++ (lT ++ [13, 10]) by simp [lineOf]] at h
        have h := h.sub
        rwa [show (45 :: lA).length = 1 + n by rw [List.length_cons, HNA.out]; omega] at h
      have s3 : SlB wc g (H + 1) lT := by
        have h := HSL.out
        rw [show restOf lA lT = [45] ++ (lT ++ ([13, 10] ++ lineOf 45 (lA ++ lT))) by simp [restOf, lineOf]] at h
        exact h.sub
      refine (zzEq_at wc g (O + 1) n _ N 0 n n lA lA s1 HR.out.a HNA.out HNA.out (by omega) (by omega)).mono ?_
      rintro e w7 ⟨rfl, hd7⟩
      rw [decide_eq_true rfl]
      have HR7 : Hid (Ready w w7 N g lA lT) := HR.out.dr hd7
      have S2 : Hid (SlB w7 g (O + (1 + n)) lT) := s2.dr hd7
      have S3 : Hid (SlB w7 g (H + 1) lT) := s3.dr hd7
      have q3 : w7.cell? ⟨g, O + (n + m + 1), none⟩ = some (.int .u8 13) := by obtain ⟨nd, rfl⟩ := hd7; exact q3
      have q4 : w7.cell? ⟨g, O + (n + m + 2), none⟩ = some (.int .u8 10) := by obtain ⟨nd, rfl⟩ := hd7; exact q4
      clear hd7 s1 s2 s3 HTH HSL HR q0 q1 q2
      go_wp2_with fail
      refine (zzEq_at w7 g (O + (1 + n)) m _ g (H + 1) m _ lT lT S2.out S3.out HM.out HM.out (by omega) (by omega)).mono ?_
      rintro e w8 ⟨rfl, hd8⟩
      rw [decide_eq_true rfl]
      have HR8 : Hid (Ready w w8 N g lA lT) := HR7.out.dr hd8
      have q3 : w8.cell? ⟨g, O + (n + m + 1), none⟩ = some (.int .u8 13) := by obtain ⟨nd, rfl⟩ := hd8; exact q3
      have q4 : w8.cell? ⟨g, O + (n + m + 2), none⟩ = some (.int .u8 10) := by obtain ⟨nd, rfl⟩ := hd8; exact q4
      clear hd8 S2 S3 HR7
      go_wp2_with fail
      go_ret
      exact ⟨rfl, HR8.out.fr⟩
end Go.Proofs.Qxb6612590aDoor
