import Derived.Test.Qxb6606417aGreatDoorWalkNu
import Derived.Test.Qxb6606417aGreatDoorWalkAU
import Derived.Deep.RegionLaw
namespace Go.Proofs.Qxb6606417aGreatDoor
open Go.RowKit Go.PlainAid
set_option linter.unusedVariables false
set_option linter.unusedSimpArgs false
set_option maxRecDepth 100000

/-- A decimal with an exponent. -/
def sciTxt (c : UInt8) (r : List UInt8) (lead : Int) : List UInt8 :=
  [c] ++ (if r = [] then [] else [46] ++ r) ++ (if lead < 0 then [101, 45] else [101, 43]) ++ (if lead.natAbs < 10 then [48] else []) ++ Lib.itoa (lead.natAbs : Int)
def layN (x : Nat) (k pb : Int) : List UInt8 :=
  if -4 ≤ k + Lib.nDigits x - 1 ∧ k + Lib.nDigits x - 1 < pb then plainTxt (Lib.decDigits x) k (max (-k) 0)
  else match Lib.decDigits x with
    | [] => []
    | c :: r => sciTxt c r (k + Lib.nDigits x - 1)
theorem lay_first (x : Nat) (k pb : Int) (h0 : 0 < x) : ∃ c r, layN x k pb = c :: r ∧ c ≠ 45 := by
  obtain ⟨c, r, hcr, hc1, hc2⟩ := dec_first x x (Nat.le_refl _) h0
  have hc : c ≠ 45 := by intro e; rw [e] at hc1; simp at hc1
  unfold layN
  split
  · unfold plainTxt
    by_cases h : k + (Lib.decDigits x).length ≤ 0
    · rw [if_pos h]; exact ⟨48, _, rfl, by decide⟩
    · rw [if_neg h]
      have hl : 1 ≤ (Lib.decDigits x).length := by rw [hcr]; simp
      obtain ⟨n, hn⟩ : ∃ n : Nat, (min (max (k + (Lib.decDigits x).length) 0) (Lib.decDigits x).length).toNat = n + 1 := ⟨(min (max (k + (Lib.decDigits x).length) 0) (Lib.decDigits x).length).toNat - 1, by omega⟩
      rw [hn, hcr]
      exact ⟨c, _, rfl, hc⟩
  · rw [hcr]
    exact ⟨c, _, rfl, hc⟩

/-- 'append' to a row of the call's own, inside a region that draws. -/
theorem step_append_out {ops : Array Oper} {o : Oper} {a : Act} {w : World} {K : Act → World → Prop} {Q : Exit → Act → World → Prop} {E : Prop}
    (hg : o.guard = none) (s x : Operand) (hop : o.op = Op.call { callee := Callee.builtin Builtin.append, args := #[s, x], argTypes := #[39, 39] })
    (N : Nat) (w0 : World) (v : Value) (L : List UInt8) (hs : a.eval s = v) (hO : OutAt N w0 w v L)
    (ad : Addr) (m c : Nat) (M : List UInt8) (hx : a.eval x = .slice (some ad) m c) (hn : M.length = m) (hc : ∀ j u, (bytesV M)[j]? = some u → w.cell? (ad.add j) = some u) (hl : L.length + m ≤ 1000)
    (hK : ∀ v' w', OutAt N w0 w' v' (L ++ M) → (∀ bb T L', BufAt w bb T L' → BufAt w' bb T L') → K (a.put o.dst v') w') :
    if Region.wanted o (yielded ops a.tmps) = true then Oper.wp Tryz.prog o a w K Q else E := by
  have hw : Region.wanted o (yielded ops a.tmps) = true := by simp [Region.wanted, hg]
  rw [if_pos hw]
  obtain ⟨i0, hi, hz0, hz1, hz2⟩ := info_parts info5
  obtain ⟨v', w', hrun, r1, r2, _⟩ := run_append_own (P := Tryz.prog) w N 39 o.type 5 i0 (.int .u8 0) 1 1 Tryz.underlying39 hi hz0 hz1 hz2 rfl (by decide) v L.length (bytesV L) hO.own ad m c (bytesV M) (by rw [bytesV_len]; omega) hc (bytesV_one _) (by unfold maxLen; omega) (by omega) hO.siz
  unfold Oper.wp
  simp [execOp, hop, resolve, invoke, builtin, hs, hx, hrun, Result.andThen]
  exact hK v' w' (hO.grow r1 (by omega) r2) (fun bb T L' h => h.grow hO.own r2)
theorem made32 : ∃ C : Array Value, C.size = 32 ∧ ∀ W : World, (Instr.makeSlice 39 (.int .i64 0) (.int .i64 32)).run Tryz.prog W = .ok (.slice (some ⟨W.heap.size, 0, none⟩) 0 32) (W.alloc (.cells C 5)) := by
  refine ⟨Array.replicate 32 (.int .u8 0), by simp, fun W => ?_⟩
  kernel_rfl
theorem out_made {w W : World} {C : Array Value} (n : Nat) (hn : n = W.heap.size) (hC : C.size = 32) (hb : Below w.heap.size w W) : OutAt w.heap.size w (W.alloc (.cells C 5)) (.slice (some ⟨n, 0, none⟩) 0 32) [] := by
  subst hn
  exact ⟨World.ownsRow_made W C 32 hb.size (by unfold maxLen; omega) (by omega), hb.alloc hb.size _, by simp; have := hb.size; omega⟩
theorem len38 : Tryz.prog.arrayLen 38 = 20 := by kernel_rfl
theorem size38 (w : World) : (sizeOf (Tryz.prog.elem 38)).run Tryz.prog w = .ok 1 w := by kernel_rfl
theorem slice38 (b : Nat) (w : World) : (Instr.sliceAt 38 (.pointer (some ⟨b, 0, none⟩)) none (some (.int .i64 0)) none).run Tryz.prog w = .ok (.slice (some ⟨b, 0, none⟩) 0 20) w := by
  have hk' : (0 : Int) ≤ (Tryz.prog.arrayLen 38 : Int) := by rw [len38]; omega
  rw [run_sliceAt_array_h (P := Tryz.prog) w 38 ⟨b, 0, none⟩ Tryz.underlying38 .i64 0 (by omega) hk', size38]
  simp [Result.andThen, slicedAt, len38, Addr.add]
theorem built_old (W : World) (n : Nat) (b : UInt8) (x : Int) (hb : byteV b = .int .u8 x) (h : W.heap[n]? = some (.cells #[Value.int .u8 x] 5 (0, 0))) : ∀ (j : Nat) (u : Value), (bytesV [b])[j]? = some u → W.cell? (Addr.add ⟨n, 0, none⟩ j) = some u := by
  intro j u hj
  rw [Addr.add_lit, Lib.cell_of_heap h, Nat.zero_add, ← hj, ← hb]
  match j with
  | 0 => rfl
  | j + 1 => simp [bytesV]
theorem out_drew {N : Nat} {w0 w : World} {v : Value} {L : List UInt8} (h : OutAt N w0 w v L) : OutAt N w0 w.drew v L := ⟨h.own, h.bel.drew, h.siz⟩
theorem heap_two_new (W : World) (o1 o2 : Obj) : ((W.alloc o1).alloc o2).drew.heap[W.heap.size + 1]? = some o2 := by
  have := heap_new' (W.alloc o1) o2
  show ((W.alloc o1).alloc o2).heap[W.heap.size + 1]? = some o2
  simpa using this
theorem heap_two_old (W : World) (o1 o2 : Obj) : ((W.alloc o1).alloc o2).drew.heap[W.heap.size]? = some o1 := by
  show ((W.alloc o1).alloc o2).heap[W.heap.size]? = some o1
  rw [Below.heap_alloc _ o2 _ (by simp)]
  exact heap_new' W o1
theorem heap_one (W : World) (o1 : Obj) : (W.alloc o1).drew.heap[W.heap.size]? = some o1 := heap_new' W o1
theorem buf_drew {w : World} {bb : Nat} {T : TypeId} {L : List UInt8} (h : BufAt w bb T L) : BufAt w.drew bb T L := h
theorem int_walk (N : Nat) (w : World) (hN : N = w.heap.size) (E : Env w) (a : Nat) (ha : a ≤ 1000) (W : World) (v : Value) (T : List UInt8) (h : OutAt N w W v T) (hl : T.length ≤ 100) :
    Calls Tryz.prog 19 #[v, .int .i64 (a : Int), .int .i64 10] W fun e w' => ∃ v', e = .returned v' ∧ OutAt N w w' v' (T ++ Lib.itoa (a : Int)) := by
  subst hN
  refine (Tryz.strconv_AppendInt_10 w.heap.size T.length a (by omega) (by omega) v (bytesV T) W h.own h.siz (by omega) (fun w' hb => Lib.tabBelow_of_tabIs E.p10 w' (h.bel.trans hb))).mono ?_
  rintro e w' ⟨v', rfl, h1, h2, _⟩
  refine ⟨v', rfl, ?_, h.bel.trans h2, Nat.le_trans h.siz h2.size⟩
  rw [List.length_append, bytesV_app]
  exact h1

set_option maxHeartbeats 8000000 in
theorem layOut_walk (x : Nat) (k pb : Int) (w : World) (E : Env w) (h0 : 0 < x) (h1 : x < 1000000000000000000) (hl : x % 10 ≠ 0) (hk1 : -450 ≤ k) (hk2 : k ≤ 450) (hp1 : 0 ≤ pb) (hp2 : pb ≤ 100) :
    Calls Tryz.prog 9 #[.agg #[.int .u64 x, .int .i64 k], .int .i64 pb] w fun e w' => e = .returned (.string ⟨(layN x k pb).toArray⟩) ∧ Below w.heap.size w w' := by
  obtain ⟨i0, hi, hz0, hz1, hz2⟩ := info_parts info5
  have hlen := Lib.decDigits_length x
  have hnd := nDigits_lt (d := x) (n := 18) (by omega) (by omega)
  have hnp := Lib.nDigits_pos x
  obtain ⟨T, hT⟩ : ∃ T, layN x k pb = T := ⟨_, rfl⟩
  have HLAY : Hid (layN x k pb = T) := hT
  rw [hT]
  clear hT
  obtain ⟨c, r, hcr, hc1, hc2⟩ := dec_first x x (Nat.le_refl _) h0
  have HCR : Hid (Lib.decDigits x = c :: r) := hcr
  obtain ⟨x0, hx0⟩ : ∃ x0 : Nat, c.toNat = x0 := ⟨_, rfl⟩
  have HBY : Hid (byteV c = .int .u8 (x0 : Int)) := by refine Lib.hid ?_; show Value.int .u8 (c.toNat : Int) = _; rw [hx0]
  have hx0l : x0 < 256 := by rw [← hx0]; exact c.toNat_lt
  obtain ⟨nd, hndE⟩ : ∃ nd, Lib.nDigits x = nd := ⟨_, rfl⟩
  have HNDX : Hid (Lib.nDigits x = nd) := hndE
  have HND : Hid (r.length + 1 = nd) := by refine Lib.hid ?_; rw [← hndE, ← hlen, hcr]; rfl
  obtain ⟨s, hs⟩ : ∃ s : ByteArray, s = ⟨(Lib.decDigits x).toArray⟩ := ⟨_, rfl⟩
  have HS : Hid (s = ⟨(Lib.decDigits x).toArray⟩) := hs
  have hsz : s.size = nd := by rw [hs, ← hndE, ← hlen]; simp [ByteArray.size]
  have HSTR : Hid (∀ W : World, BufAt W (w.heap.size + 1) 38 (c :: r) → (convert 39 9 (.slice (some ⟨w.heap.size + 1, 0, none⟩) nd 20)).run Tryz.prog W = .ok (.string s) W) := fun W h => by
    have := uint_str W (w.heap.size + 1) 20 38 (c :: r) h
    rw [hs, hcr]
    rw [show (c :: r).length = nd from HND.out] at this
    exact this
  have K16 : Hid (∀ W : World, Below w.heap.size w W → W.heap[w.heap.size + 1]? = some (.cells (Array.replicate 20 (.int .u8 0)) 38 (0, 0)) → Calls Tryz.prog 16 #[.slice (some ⟨w.heap.size + 1, 0, none⟩) 0 20, .int .u64 x, .int .i64 10] W fun e w' => e = .returned (.slice (some ⟨w.heap.size + 1, 0, none⟩) nd 20) ∧ BufAt w' (w.heap.size + 1) 38 (c :: r) ∧ Below (w.heap.size + 1) W w') := fun W hb hg => by
    have := appendUint_walk x (w.heap.size + 1) W (E.later hb) hg h0 h1
    rw [hcr, hndE] at this
    exact this
  have K19 : Hid (∀ (a : Nat), a ≤ 1000 → ∀ (W : World) (v : Value) (T : List UInt8), OutAt w.heap.size w W v T → T.length ≤ 100 → Calls Tryz.prog 19 #[v, .int .i64 (a : Int), .int .i64 10] W fun e w' => ∃ v', e = .returned v' ∧ OutAt w.heap.size w w' v' (T ++ Lib.itoa (a : Int))) := fun a ha W v T h hl => int_walk _ w rfl E a ha W v T h hl
  obtain ⟨sc, hsc⟩ : ∃ sc : Int, max (-k) 0 = sc := ⟨_, rfl⟩
  have hsc1 : 0 ≤ sc := by omega
  have hsc2 : sc ≤ 450 := by omega
  have HSC : Hid (max (-k) 0 = sc) := hsc
  have K17 : Hid (∀ W : World, Calls Tryz.prog 17 #[.bool false, .string s, .int .i64 k, .int .i64 sc] W fun e w' => e = .returned (.agg #[.bool false, .string s, .int .i64 k, .int .i64 sc]) ∧ Below W.heap.size W w') := fun W => by
    rw [hs]
    exact newNum_walk x k sc W h0 h1 hl (by omega) (by omega) hsc1 (by omega) (by omega)
  have K18 : Hid (∀ W : World, Calls Tryz.prog 18 #[.agg #[.bool false, .string s, .int .i64 k, .int .i64 sc]] W fun e w' => e = .returned (.string ⟨(plainTxt (Lib.decDigits x) k sc).toArray⟩) ∧ Below W.heap.size W w') := fun W => by
    rw [hs]
    exact numStr_walk _ k sc W (by omega) (by omega) (by omega) (by omega) hsc.symm
  have HB0 : Hid (∀ o : Obj, Below w.heap.size w ((w.alloc (.cells #[.int .u64 x, .int .i64 k] 31)).alloc o)) := fun o => ((Below.refl _ _).alloc (Nat.le_refl _) _).alloc (by simp) o
  have HG0 : Hid (∀ o : Obj, ((w.alloc (.cells #[.int .u64 x, .int .i64 k] 31)).alloc o).heap[w.heap.size + 1]? = some o) := fun o => by
    have := heap_new' (w.alloc (.cells #[.int .u64 x, .int .i64 k] 31)) o
    simpa using this
  have HD0 : Hid (∀ o : Obj, DecIn ((w.alloc (.cells #[.int .u64 x, .int .i64 k] 31)).alloc o) w.heap.size x k) := fun o => by
    unfold DecIn
    rw [Below.heap_alloc _ o w.heap.size (by simp)]
    exact heap_new' w _
  have HG1 : Hid (∀ o : Obj, ((w.alloc (.cells #[.int .u64 x, .int .i64 k] 31)).alloc o).drew.heap[w.heap.size + 1]? = some o) := fun o => HG0.out o
  have HD1 : Hid (∀ o : Obj, DecIn ((w.alloc (.cells #[.int .u64 x, .int .i64 k] 31)).alloc o).drew w.heap.size x k) := fun o => HD0.out o
  have HB1 : Hid (∀ o : Obj, Below w.heap.size w ((w.alloc (.cells #[.int .u64 x, .int .i64 k] 31)).alloc o).drew) := fun o => (HB0.out o).drew
  have hsl := slice38 (w.heap.size + 1)
  obtain ⟨C, hC, hmk⟩ := made32
  have HCS : Hid (C.size = 32) := hC
  rw [hndE] at hnd hnp
  clear hs hcr hc1 hc2 hx0 hndE hlen hl E hC
  go_enter Tryz.func9, Tryz.ntmps9
  go_upto_region 2 with fail
  go_cut [6] (fun v wx => v = .slice (some ⟨w.heap.size + 1, 0, none⟩) nd 20 ∧ BufAt wx (w.heap.size + 1) 38 (c :: r) ∧ DecIn wx w.heap.size x k ∧ Below w.heap.size w wx)
  case first =>
    go_region_with (go_at_call 16; go_loud (refine (K16.out _ (by first | exact HB1.out _ | exact HB0.out _) (by first | exact HG1.out _ | exact HG0.out _)).mono ?_); rintro e w2 ⟨rfl, hB, hL⟩; have B2 : Hid (BufAt w2 (w.heap.size + 1) 38 (c :: r)) := hB; have L2 : Hid (Below w.heap.size w w2) := (by first | exact (HB1.out _).trans (hL.mono (by omega)) | exact (HB0.out _).trans (hL.mono (by omega))); have D2 : Hid (DecIn w2 w.heap.size x k) := (by first | exact (HD1.out _).below (B := w.heap.size + 1) hL (by omega) | exact (HD0.out _).below (B := w.heap.size + 1) hL (by omega)); clear hB hL)
    all_goals (go_wp2_with fail; go_meet; exact ⟨rfl, B2.out, D2.out, L2.out⟩)
  case rest =>
  obtain ⟨rfl, hB, hD, hL⟩ := hcut
  have BC : Hid (BufAt wc (w.heap.size + 1) 38 (c :: r)) := hB
  have LC : Hid (Below w.heap.size w wc) := hL
  have e1 := hD.c1
  have hcv := HSTR.out wc hB
  have hwc : w.heap.size + 1 < wc.heap.size := hB.lt
  have c0 := hB.cell (j := 0) (by simp)
  rw [List.getElem_cons_zero, HBY.out] at c0
  clear hB hL hD
  by_cases hpl : -4 ≤ k + (nd : Int) - 1 ∧ k + (nd : Int) - 1 < pb
  · have g1 : decide (k + (nd : Int) - 1 ≥ -4) = true := decide_eq_true (by omega)
    have g2 : decide (k + (nd : Int) - 1 < pb) = true := decide_eq_true hpl.2
    have HT : Hid (plainTxt (Lib.decDigits x) k sc = T) := by
      refine Lib.hid ?_
      rw [← HLAY.out]
      unfold layN
      rw [HNDX.out, if_pos hpl, HSC.out]
    rw [HT.out] at K18
    clear hpl c0
    go_wp2_with (first
      | (go_at_call 17; refine (K17.out _).mono ?_; rintro e w3 ⟨rfl, hB3⟩; have B3 : Hid (Below w.heap.size w w3) := LC.out.trans (hB3.mono LC.out.size); clear hB3)
      | (go_at_call 18; refine (K18.out _).mono ?_; rintro e w4 ⟨rfl, hB4⟩; have B4 : Hid (Below w.heap.size w w4) := B3.out.trans (hB4.mono B3.out.size); clear hB4))
    go_ret
    exact ⟨rfl, B4.out⟩
  clear hcv hsc
  have hall : (Lib.decDigits x).length = nd := by rw [HCR.out]; exact HND.out
  have HTT : Hid (T = [c] ++ (if r = [] then [] else [46] ++ r) ++ (if k + (nd : Int) - 1 < 0 then [101, 45] else [101, 43]) ++ (if (k + (nd : Int) - 1).natAbs < 10 then [48] else []) ++ Lib.itoa ((k + (nd : Int) - 1).natAbs : Int)) := by
    refine Lib.hid ?_
    rw [← HLAY.out]
    unfold layN
    rw [HNDX.out, if_neg hpl, HCR.out]
    rfl
  go_upto_region 4 with fail
  go_cut [25] (fun v wx => v = .bool false ∧ wx = wc)
  case first =>
    by_cases g : -4 ≤ k + (nd : Int) - 1
    · have g1 : decide (k + (nd : Int) - 1 ≥ -4) = true := decide_eq_true (by omega)
      have g2 : decide (k + (nd : Int) - 1 < pb) = false := decide_eq_false (by omega)
      clear hpl
      go_wp2_with fail
      go_meet
      exact ⟨rfl, rfl⟩
    · have g1 : decide (k + (nd : Int) - 1 ≥ -4) = false := decide_eq_false (by omega)
      clear hpl
      go_wp2_with fail
      go_meet
      exact ⟨rfl, rfl⟩
  case rest =>
  obtain ⟨rfl, rfl⟩ := hcut
  clear hpl e1
  have hnp0 : 0 < nd := by omega
  have HA1 : Hid (∀ o o' : Obj, BufAt ((wc.alloc o).alloc o') (w.heap.size + 1) 38 (c :: r)) := fun o o' => (BC.out.alloc o).alloc o'
  have c0a : ∀ o : Obj, (wc.alloc o).cell? ⟨w.heap.size + 1, 0, none⟩ = some (.int .u8 (x0 : Int)) := fun o => by
    have := (BC.out.alloc o).cell (j := 0) (by simp)
    rw [List.getElem_cons_zero, HBY.out] at this
    exact this
  go_upto_region 6 with fail
  go_cut [8] (fun v wy => OutAt w.heap.size w wy v [c] ∧ BufAt wy (w.heap.size + 1) 38 (c :: r))
  case first =>
    go_region_law (first
      | (go_loud (refine step_append_out rfl (.tmp 36) (.tmp 40) rfl w.heap.size w _ [] rfl (by first | exact out_drew ((out_made _ (by simp) HCS.out LC.out).alloc _) | exact out_drew (out_made _ (by simp) HCS.out (LC.out.alloc LC.out.size _))) ⟨_, 0, none⟩ 1 1 [c] rfl rfl (by first | exact built_old _ _ c _ HBY.out (heap_two_new _ _ _) | exact built_old _ _ c _ HBY.out (heap_two_old _ _ _)) (by simp) ?_); intro v1 w1 hO hK; have H1 : Hid (OutAt w.heap.size w w1 v1 ([] ++ [c])) := hO; have HB1 : Hid (BufAt w1 (w.heap.size + 1) 38 (c :: r)) := hK _ _ _ (by exact buf_drew (HA1.out _ _)); clear hO hK))
    all_goals (go_wp2_with fail; go_meet; exact ⟨H1.out, HB1.out⟩)
  case rest =>
  obtain ⟨hO, hB⟩ := hcut
  have HC0 : Hid (OutAt w.heap.size w wc u8 [c]) := hO
  have HB2 : Hid (BufAt wc (w.heap.size + 1) 38 (c :: r)) := hB
  obtain ⟨M, hM⟩ : ∃ M : List UInt8, [c] ++ (if r = [] then [] else [46] ++ r) = M := ⟨_, rfl⟩
  have HM : Hid ([c] ++ (if r = [] then [] else [46] ++ r) = M) := hM
  have hML : M.length ≤ 20 := by
    rw [← hM]
    have := HND.out
    split <;> simp <;> omega
  clear hO hB hM c0 c0a
  go_upto_if 44 with fail
  go_cut [8] (fun v wy => OutAt w.heap.size w wy v M)
  case first =>
    by_cases hr : r = []
    · have hn1 : nd = 1 := by have := HND.out; rw [hr] at this; simpa using this.symm
      have HM1 : Hid (M = [c]) := by refine Lib.hid ?_; rw [← HM.out, if_pos hr, List.append_nil]
      subst hn1
      go_wp2_with fail
      go_meet
      rw [HM1.out]
      exact HC0.out
    · have hrl : 1 ≤ r.length := by cases r with
        | nil => exact absurd rfl hr
        | cons a b => simp
      have hn2 : 2 ≤ nd := by have := HND.out; omega
      have hgt1 : decide ((nd : Int) > 1) = true := decide_eq_true (by omega)
      have hge1 : (1 : Int) ≤ (nd : Int) := by omega
      have HM1 : Hid (M = [c] ++ [46] ++ r) := by refine Lib.hid ?_; rw [← HM.out, if_neg hr, List.append_assoc]
      have HRL : Hid (r.length = nd - 1) := by refine Lib.hid ?_; have := HND.out; omega
      clear hr hrl
      go_upto_region 8 with fail
      go_region_law (first
        | (refine step_append_out rfl (.tmp 45) (.tmp 46) rfl w.heap.size w _ [c] rfl (by exact out_drew (HC0.out.alloc _)) ⟨_, 0, none⟩ 1 1 [46] rfl rfl (by exact built_old _ _ 46 46 rfl (heap_one _ _)) (by simp) ?_; intro v3 w3 hO hK; have H3 : Hid (OutAt w.heap.size w w3 v3 ([c] ++ [46])) := hO; have HB3 : Hid (BufAt w3 (w.heap.size + 1) 38 (c :: r)) := hK _ _ _ (by exact buf_drew (HB2.out.alloc _)); clear hO hK)
        | (go_loud (refine step_append_out rfl (.tmp 47) (.tmp 49) rfl w.heap.size w _ ([c] ++ [46]) rfl (by exact H3.out) ⟨w.heap.size + 1, 1, none⟩ _ _ r rfl HRL.out (by exact HB3.out.tail) (by simp; omega) ?_); intro v4 w4 hO hK; have H4 : Hid (OutAt w.heap.size w w4 v4 ([c] ++ [46] ++ r)) := hO; clear hO hK))
      all_goals (go_wp2_with fail; go_meet; rw [HM1.out]; exact H4.out)
  case rest =>
  have HC : Hid (OutAt w.heap.size w wc u8 M) := hcut
  clear hcut
  by_cases hneg : k + (nd : Int) - 1 < 0
  · obtain ⟨a, ha⟩ : ∃ a : Nat, k + (nd : Int) - 1 = -(a : Int) := ⟨(-(k + (nd : Int) - 1)).toNat, by omega⟩
    have hab : (-(a : Int)).natAbs = a := by omega
    have ha1 : a ≤ 1000 := by omega
    have hg1 : decide (-(a : Int) < 0) = true := decide_eq_true (by omega)
    have ha0 : 0 < a := by omega
    have hnn0 : -(-(a : Int)) = a := by omega
    have KA : Hid (∀ (W : World) (v : Value) (T : List UInt8), OutAt w.heap.size w W v T → T.length ≤ 100 → Calls Tryz.prog 19 #[v, .int .i64 (a : Int), .int .i64 10] W fun e w' => ∃ v', e = .returned v' ∧ OutAt w.heap.size w w' v' (T ++ Lib.itoa (a : Int))) := K19.out a ha1
    by_cases hlo : a < 10
    · have HT : Hid (M ++ [101, 45] ++ [48] ++ Lib.itoa (a : Int) = T) := by
        refine Lib.hid ?_
        rw [HTT.out, ← HM.out, ha, hab, if_pos (show -(a : Int) < 0 by omega), if_pos hlo]
      have hlo' : decide ((a : Int) < 10) = true := decide_eq_true (by omega)
      clear hneg hab hlo
      go_wp2_with (first
        | (at_builtin; refine wpList_append_own _ rfl (.tmp 53) (.tmp 54) 39 rfl w.heap.size 5 i0 (.int .u8 0) 1 1 Tryz.underlying39 hi hz0 hz1 hz2 rfl (by decide) u8 _ _ rfl (HC.out.alloc _).own ⟨wc.heap.size, 0, none⟩ 2 2 (bytesV [101, 45]) rfl rfl (built_two _ 101 45 101 45 rfl rfl) (bytesV_one _) (by unfold maxLen; first | omega | (simp only [List.length_append, List.length_cons, List.length_nil]; omega)) (by first | omega | (simp only [List.length_append, List.length_cons, List.length_nil]; omega)) (HC.out.alloc _).siz ?_; intro v5 w5 ho hg hnn; have H5 : Hid (OutAt w.heap.size w w5 v5 (M ++ [101, 45])) := (HC.out.alloc _).grow ho rfl hg; clear hnn ho hg)
        | (at_builtin; refine wpList_append_own _ rfl (.tmp 63) (.tmp 64) 39 rfl w.heap.size 5 i0 (.int .u8 0) 1 1 Tryz.underlying39 hi hz0 hz1 hz2 rfl (by decide) v5 _ _ rfl (H5.out.alloc _).own ⟨w5.heap.size, 0, none⟩ 1 1 (bytesV [48]) rfl rfl (built_one _ 48 48 rfl) (bytesV_one _) (by unfold maxLen; first | omega | (simp only [List.length_append, List.length_cons, List.length_nil]; omega)) (by first | omega | (simp only [List.length_append, List.length_cons, List.length_nil]; omega)) (H5.out.alloc _).siz ?_; intro v6 w6 ho hg hnn; have H6 : Hid (OutAt w.heap.size w w6 v6 (M ++ [101, 45] ++ [48])) := (H5.out.alloc _).grow ho rfl hg; clear hnn ho hg)
        | (go_at_call 19; refine (KA.out _ _ _ H6.out (by simp only [List.length_append, List.length_cons, List.length_nil]; omega)).mono ?_; rintro e w7 ⟨v7, rfl, hf⟩; rw [HT.out] at hf; have HF : Hid (OutAt w.heap.size w w7 v7 T) := hf; have hst := hf.str (by rw [← HT.out]; simp); clear hf))
      go_ret
      exact ⟨rfl, HF.out.bel⟩
    · have HT : Hid (M ++ [101, 45] ++ Lib.itoa (a : Int) = T) := by
        refine Lib.hid ?_
        rw [HTT.out, ← HM.out, ha, hab, if_pos (show -(a : Int) < 0 by omega), if_neg hlo, List.append_nil]
      have hlo' : decide ((a : Int) < 10) = false := decide_eq_false (by omega)
      clear hneg hab hlo
      go_wp2_with (first
        | (at_builtin; refine wpList_append_own _ rfl (.tmp 53) (.tmp 54) 39 rfl w.heap.size 5 i0 (.int .u8 0) 1 1 Tryz.underlying39 hi hz0 hz1 hz2 rfl (by decide) u8 _ _ rfl (HC.out.alloc _).own ⟨wc.heap.size, 0, none⟩ 2 2 (bytesV [101, 45]) rfl rfl (built_two _ 101 45 101 45 rfl rfl) (bytesV_one _) (by unfold maxLen; first | omega | (simp only [List.length_append, List.length_cons, List.length_nil]; omega)) (by first | omega | (simp only [List.length_append, List.length_cons, List.length_nil]; omega)) (HC.out.alloc _).siz ?_; intro v5 w5 ho hg hnn; have H5 : Hid (OutAt w.heap.size w w5 v5 (M ++ [101, 45])) := (HC.out.alloc _).grow ho rfl hg; clear hnn ho hg)
        | (go_at_call 19; refine (KA.out _ _ _ H5.out (by simp only [List.length_append, List.length_cons, List.length_nil]; omega)).mono ?_; rintro e w7 ⟨v7, rfl, hf⟩; rw [HT.out] at hf; have HF : Hid (OutAt w.heap.size w w7 v7 T) := hf; have hst := hf.str (by rw [← HT.out]; simp); clear hf))
      go_ret
      exact ⟨rfl, HF.out.bel⟩
  · obtain ⟨a, ha⟩ : ∃ a : Nat, k + (nd : Int) - 1 = (a : Int) := ⟨(k + (nd : Int) - 1).toNat, by omega⟩
    have hab : ((a : Int)).natAbs = a := by omega
    have ha1 : a ≤ 1000 := by omega
    have hg1 : decide ((a : Int) < 0) = false := decide_eq_false (by omega)
    have KA : Hid (∀ (W : World) (v : Value) (T : List UInt8), OutAt w.heap.size w W v T → T.length ≤ 100 → Calls Tryz.prog 19 #[v, .int .i64 (a : Int), .int .i64 10] W fun e w' => ∃ v', e = .returned v' ∧ OutAt w.heap.size w w' v' (T ++ Lib.itoa (a : Int))) := K19.out a ha1
    by_cases hlo : a < 10
    · have HT : Hid (M ++ [101, 43] ++ [48] ++ Lib.itoa (a : Int) = T) := by
        refine Lib.hid ?_
        rw [HTT.out, ← HM.out, ha, hab, if_neg (show ¬ (a : Int) < 0 by omega), if_pos hlo]
      have hlo' : decide ((a : Int) < 10) = true := decide_eq_true (by omega)
      clear hneg hab hlo
      go_wp2_with (first
        | (at_builtin; refine wpList_append_own _ rfl (.tmp 58) (.tmp 59) 39 rfl w.heap.size 5 i0 (.int .u8 0) 1 1 Tryz.underlying39 hi hz0 hz1 hz2 rfl (by decide) u8 _ _ rfl (HC.out.alloc _).own ⟨wc.heap.size, 0, none⟩ 2 2 (bytesV [101, 43]) rfl rfl (built_two _ 101 43 101 43 rfl rfl) (bytesV_one _) (by unfold maxLen; first | omega | (simp only [List.length_append, List.length_cons, List.length_nil]; omega)) (by first | omega | (simp only [List.length_append, List.length_cons, List.length_nil]; omega)) (HC.out.alloc _).siz ?_; intro v5 w5 ho hg hnn; have H5 : Hid (OutAt w.heap.size w w5 v5 (M ++ [101, 43])) := (HC.out.alloc _).grow ho rfl hg; clear hnn ho hg)
        | (at_builtin; refine wpList_append_own _ rfl (.tmp 63) (.tmp 64) 39 rfl w.heap.size 5 i0 (.int .u8 0) 1 1 Tryz.underlying39 hi hz0 hz1 hz2 rfl (by decide) v5 _ _ rfl (H5.out.alloc _).own ⟨w5.heap.size, 0, none⟩ 1 1 (bytesV [48]) rfl rfl (built_one _ 48 48 rfl) (bytesV_one _) (by unfold maxLen; first | omega | (simp only [List.length_append, List.length_cons, List.length_nil]; omega)) (by first | omega | (simp only [List.length_append, List.length_cons, List.length_nil]; omega)) (H5.out.alloc _).siz ?_; intro v6 w6 ho hg hnn; have H6 : Hid (OutAt w.heap.size w w6 v6 (M ++ [101, 43] ++ [48])) := (H5.out.alloc _).grow ho rfl hg; clear hnn ho hg)
        | (go_at_call 19; refine (KA.out _ _ _ H6.out (by simp only [List.length_append, List.length_cons, List.length_nil]; omega)).mono ?_; rintro e w7 ⟨v7, rfl, hf⟩; rw [HT.out] at hf; have HF : Hid (OutAt w.heap.size w w7 v7 T) := hf; have hst := hf.str (by rw [← HT.out]; simp); clear hf))
      go_ret
      exact ⟨rfl, HF.out.bel⟩
    · have HT : Hid (M ++ [101, 43] ++ Lib.itoa (a : Int) = T) := by
        refine Lib.hid ?_
        rw [HTT.out, ← HM.out, ha, hab, if_neg (show ¬ (a : Int) < 0 by omega), if_neg hlo, List.append_nil]
      have hlo' : decide ((a : Int) < 10) = false := decide_eq_false (by omega)
      clear hneg hab hlo
      go_wp2_with (first
        | (at_builtin; refine wpList_append_own _ rfl (.tmp 58) (.tmp 59) 39 rfl w.heap.size 5 i0 (.int .u8 0) 1 1 Tryz.underlying39 hi hz0 hz1 hz2 rfl (by decide) u8 _ _ rfl (HC.out.alloc _).own ⟨wc.heap.size, 0, none⟩ 2 2 (bytesV [101, 43]) rfl rfl (built_two _ 101 43 101 43 rfl rfl) (bytesV_one _) (by unfold maxLen; first | omega | (simp only [List.length_append, List.length_cons, List.length_nil]; omega)) (by first | omega | (simp only [List.length_append, List.length_cons, List.length_nil]; omega)) (HC.out.alloc _).siz ?_; intro v5 w5 ho hg hnn; have H5 : Hid (OutAt w.heap.size w w5 v5 (M ++ [101, 43])) := (HC.out.alloc _).grow ho rfl hg; clear hnn ho hg)
        | (go_at_call 19; refine (KA.out _ _ _ H5.out (by simp only [List.length_append, List.length_cons, List.length_nil]; omega)).mono ?_; rintro e w7 ⟨v7, rfl, hf⟩; rw [HT.out] at hf; have HF : Hid (OutAt w.heap.size w w7 v7 T) := hf; have hst := hf.str (by rw [← HT.out]; simp); clear hf))
      go_ret
      exact ⟨rfl, HF.out.bel⟩
end Go.Proofs.Qxb6606417aGreatDoor
