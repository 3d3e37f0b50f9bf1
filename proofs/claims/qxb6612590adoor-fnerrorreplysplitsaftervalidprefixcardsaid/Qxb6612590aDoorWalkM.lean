import Derived.Test.Qxb6612590aDoorWalkL
namespace Go.Proofs.Qxb6612590aDoor
open Go.RowKit Go.PlainAid
set_option linter.unusedVariables false

/-- The bytes l lie in block g from offset o on. -/
def SlB (w : World) (g o : Nat) (l : List UInt8) : Prop := ∀ j, j < l.length → w.cell? ⟨g, o + j, none⟩ = some (byteV (l.getD j 0))
theorem SlB.dr {w w' : World} {g o : Nat} {l : List UInt8} (h : SlB w g o l) (d : Dr w w') : SlB w' g o l := by
  obtain ⟨n, rfl⟩ := d
  exact h
def EqP (la lb : List UInt8) (k : Nat) : Prop := ∀ j, j < k → la.getD j 0 = lb.getD j 0
theorem eqP_all {la lb : List UInt8} (hl : la.length = lb.length) (h : EqP la lb la.length) : la = lb := by
  apply List.ext_getElem hl
  intro i h1 h2
  have := h i h1
  simpa [List.getD_eq_getElem?_getD, h1, h2] using this

def EqPost (la lb : List UInt8) (w : World) (e : Ending) (w' : World) : Prop := e = .returned (.bool (decide (la = lb))) ∧ Dr w w'

set_option maxHeartbeats 1000000 in
set_option maxRecDepth 100000 in
theorem zzEq_any (w : World) (g o cap g' o' cap' : Nat) (la lb : List UInt8) (ha : SlB w g o la) (hb : SlB w g' o' lb) (h1 : la.length ≤ 1000000000) (h2 : lb.length ≤ 1000000000) :
    Calls Tryd.prog 12 #[.slice (some ⟨g, o, none⟩) la.length cap, .slice (some ⟨g', o', none⟩) lb.length cap'] w fun e w' => EqPost la lb w e w' := by
  by_cases hl : la.length = lb.length
  case neg =>
    have hz : ((la.length : Int) == lb.length) = false := beq_eq_false_iff_ne.2 (by omega)
    go_enter Tryd.func12, Tryd.ntmps12
    go_wp2
    go_ret
    refine ⟨ret_bool (Eq.symm (decide_eq_false ?_)), Dr.refl _⟩
    intro e; exact hl (congrArg _ e)
  generalize hn : lb.length = n at *
  have hz : ((n : Int) == n) = true := beq_self_eq_true _
  rw [hl]
  have HA : Hid (SlB w g o la) := ha
  have HB : Hid (SlB w g' o' lb) := hb
  clear ha hb
  go_enter Tryd.func12, Tryd.ntmps12
  go_wp2
  go_loopw [5] (fun i wr => ∃ (k : Nat), k ≤ n ∧ i = .int .i64 k ∧ Dr w wr ∧ EqP la lb k) (fun i _ => n - (intOf i).toNat)
  case atStart => exact ⟨0, Nat.zero_le _, rfl, Dr.refl _, fun j hj => absurd hj (Nat.not_lt_zero _)⟩
  case round =>
    obtain ⟨k, hk, rfl, hd, hC⟩ := hrel
    have HC : Hid (EqP la lb k) := hC
    have HD : Hid (Dr w wr) := hd
    by_cases hlt : k < n
    · have q1 := (HA.out.dr hd) k (by omega)
      have q2 := (HB.out.dr hd) k (by omega)
      clear hC hd
      unfold byteV at q1 q2
      by_cases he : la.getD k 0 = lb.getD k 0
      · have HE : Hid (la.getD k 0 = lb.getD k 0) := he
        rw [he] at q1
        clear he
        generalize hx : lb.getD k 0 = x at q1 q2
        have HX : Hid (lb.getD k 0 = x) := hx
        clear hx
        have hq : ((x.toNat : Int) == x.toNat) = true := beq_self_eq_true _
        go_wp2_with fail
        go_quiet (fail)
        go_wp2_with fail
        refine ⟨⟨k + 1, hlt, by go_num, HD.out.trans ⟨nq, rfl⟩, fun j hj => ?_⟩, by simp [intOf]; omega⟩
        by_cases hjk : j < k
        · exact HC.out j hjk
        · rw [show j = k by omega]; exact HE.out
      · have HE : Hid (¬ la.getD k 0 = lb.getD k 0) := he
        have hq : (((la.getD k 0).toNat : Int) == (lb.getD k 0).toNat) = false := beq_eq_false_iff_ne.2 (fun e => he (UInt8.toNat_inj.1 (by omega)))
        clear he
        generalize la.getD k 0 = x at q1 q2 hq
        generalize lb.getD k 0 = y at q2 hq
        go_wp2_with fail
        go_quiet (fail)
        go_wp2_with fail
        go_ret
        refine ⟨ret_bool (Eq.symm (decide_eq_false ?_)), HD.out.trans ⟨_, rfl⟩⟩
        intro e; exact HE.out (by rw [e])
    · clear hC hd
      go_wp2
      go_ret
      have hke : k = n := by omega
      subst hke
      refine ⟨ret_bool (Eq.symm (decide_eq_true ?_)), HD.out⟩
      exact eqP_all (by omega) (by rw [hl]; exact HC.out)

def lineOf (t : UInt8) (l : List UInt8) : List UInt8 := t :: (l ++ [13, 10])
def LinePost (t : UInt8) (l : List UInt8) (w : World) (e : Ending) (w' : World) : Prop :=
  ∃ (g cap : Nat), e = .returned (.slice (some ⟨g, 0, none⟩) (lineOf t l).length cap) ∧ SlB w' g 0 (lineOf t l) ∧ Below w.heap.size w w'

set_option maxHeartbeats 1000000 in
set_option maxRecDepth 100000 in
theorem zzLine_any (t : UInt8) (w : World) (g cap : Nat) (l : List UInt8) (hb : SlB w g 0 l) (hg : g < w.heap.size) (h1 : l.length ≤ 1000000) :
    Calls Tryd.prog 13 #[.int .u8 t.toNat, .slice (some ⟨g, 0, none⟩) l.length cap] w fun e w' => LinePost t l w e w' := by
  generalize hn : l.length = n at *
  obtain ⟨M, hM, hmk0⟩ := make_nc 0 (n + 3) (by omega) (by omega)
  obtain ⟨i0, hi, hz0, hz1, hz2⟩ := info_parts info5
  have hmk : ∀ W : World, (Instr.makeSlice 24 (.int .i64 0) (.int .i64 ((n : Int) + 3))).run Tryd.prog W = .ok (.slice (some ⟨W.heap.size, 0, none⟩) 0 (n + 3)) (W.alloc (.cells M 5)) := fun W => by simpa using hmk0 W
  clear hmk0
  go_enter Tryd.func13, Tryd.ntmps13
  have HB : Hid (SlB w g 0 l) := hb
  clear hb
  generalize hM2 : M.setIfInBounds 0 (Value.int .u8 (t.toNat : Int)) = M2
  have f1 : ((w.alloc (.cells M2 5)).alloc (.cells #[Value.int .u8 (t.toNat : Int)] 5)).ownsRow w.heap.size 5 1 (.slice (some ⟨w.heap.size, 0, none⟩) 1 (n + 3)) 1 [byteV t] := by
    refine ⟨rfl, .inr ⟨w.heap.size, n + 3, M2, rfl, Nat.le_refl _, ?_, by omega, by unfold maxLen; omega, by rw [← hM2]; simp [hM], ?_⟩⟩
    · rw [Below.heap_alloc _ _ _ (by simp)]; exact heap_alloc_new w _
    · rw [← hM2, Array.toList_setIfInBounds, List.take_set, show (1 * 1 = 0 + 1) from rfl, List.take_succ_eq_append_getElem (by simp [hM])]
      simp [byteV]
  have f3 : ∀ (j : Nat) (u : Value), (bytesV l)[j]? = some u → ((w.alloc (.cells M2 5)).alloc (.cells #[Value.int .u8 (t.toNat : Int)] 5)).cell? (Addr.add ⟨g, 0, none⟩ j) = some u := by
    intro j u hj
    have hlt : j < l.length := by
      have := (List.getElem?_eq_some_iff.1 hj).1
      rwa [bytesV_len] at this
    have h := HB.out j hlt
    rw [Addr.add_lit]
    rw [World.cell?_of_block (a := ⟨g, 0 + j, none⟩) ((Below.heap_alloc _ _ g (by simp; omega)).trans (Below.heap_alloc _ _ g hg)), h, ← hj]
    simp [bytesV, List.getD_eq_getElem?_getD, hlt]
  have f4 : ∀ l : List UInt8, ∀ (u : Value), u ∈ bytesV l → u.oneCell' = true := by
    intro l u hu
    simp only [bytesV, List.mem_map] at hu
    obtain ⟨x, _, rfl⟩ := hu
    rfl
  have hl : (bytesV l).length = n * 1 := by rw [bytesV_len]; omega
  have f5 : ∀ w1 : World, ∀ (j : Nat) (u : Value), (bytesV [13, 10])[j]? = some u → (w1.alloc (.cells #[Value.int .u8 13, Value.int .u8 10] 5)).cell? (Addr.add ⟨w1.heap.size, 0, none⟩ j) = some u := by
    intro w1 j u hj
    rw [Addr.add_lit, World.cell?_alloc_at _ _ _ _ rfl, Nat.zero_add]
    rw [← hj]
    match j with
    | 0 => rfl
    | 1 => rfl
    | j + 2 => simp [bytesV]
  have HW : w.heap.size < ((w.alloc (.cells M2 5)).alloc (.cells #[Value.int .u8 (t.toNat : Int)] 5)).heap.size := by simp; omega
  have HBl : Below w.heap.size w ((w.alloc (.cells M2 5)).alloc (.cells #[Value.int .u8 (t.toNat : Int)] 5)) := ((Below.refl _ w).alloc (Nat.le_refl _) _).alloc (by simp) _
  have HL : Hid (l.length = n) := hn
  clear hn
  go_wp2_with (first
    | (at_builtin; refine wpList_append_own _ rfl (.tmp 14) (.tmp 15) 24 rfl w.heap.size 5 i0 (.int .u8 0) 1 1 Tryd.underlying24 hi hz0 hz1 hz2 rfl (by decide) (.slice (some ⟨w.heap.size, 0, none⟩) 1 (n + 3)) 1 [byteV t] rfl f1 ⟨g, 0, none⟩ n cap (bytesV l) rfl hl f3 (f4 l) (by unfold maxLen; omega) (by omega) (by omega) ?_; intro v1 w1 hown1 hgrow1 hnn; have hown1 : w1.ownsRow w.heap.size 5 1 v1 (1 + n) (bytesV (t :: l)) := hown1; clear hnn)
    | (at_builtin; refine wpList_append_own _ rfl (.tmp 17) (.tmp 18) 24 rfl w.heap.size 5 i0 (.int .u8 0) 1 1 Tryd.underlying24 hi hz0 hz1 hz2 rfl (by decide) v1 (1 + n) (bytesV (t :: l)) rfl (hown1.alloc _) ⟨w1.heap.size, 0, none⟩ 2 2 (bytesV [13, 10]) rfl rfl (f5 w1) (f4 _) (by unfold maxLen; omega) (by omega) (by simp; exact Nat.le_trans (Nat.le_of_lt HW) (Nat.le_succ_of_le hgrow1.size)) ?_; intro v2 w2 hown2 hgrow2 hnn2; clear hnn2))
  go_ret
  have hlen : (lineOf t l).length = 1 + n + 2 := by rw [← HL.out]; simp [lineOf]; omega
  have hb1 : Below w.heap.size w w1 := HBl.grown hgrow1 (Nat.le_of_lt HW) (fun k e => by cases e; exact Nat.le_refl _)
  have hown2' : w2.ownsRow w.heap.size 5 1 v2 (1 + n + 2) (bytesV (lineOf t l)) := by
    have e : bytesV (lineOf t l) = bytesV (t :: l) ++ bytesV [13, 10] := by simp [lineOf, bytesV]
    rw [e]; exact hown2
  obtain ⟨g1, c1, e1, hg1, -⟩ := own_cases hown1 (by rw [List.length_cons, HL.out]; omega) (by simp)
  obtain ⟨g2, c2, e2, hg2, hc2, hc3, hcell⟩ := own_cases hown2' hlen (by simp [lineOf])
  subst e2
  refine ⟨g2, c2, by rw [hlen]; rfl, fun j hj => ?_, ?_⟩
  · rw [Nat.zero_add]; exact hcell j (by omega)
  · refine (hb1.alloc (Nat.le_trans (Nat.le_of_lt HW) hgrow1.size) _).grown hgrow2 (by simp; exact Nat.le_trans (Nat.le_of_lt HW) (Nat.le_succ_of_le hgrow1.size)) (fun k e => ?_)
    rw [e1] at e
    cases e
    exact hg1
end Go.Proofs.Qxb6612590aDoor
