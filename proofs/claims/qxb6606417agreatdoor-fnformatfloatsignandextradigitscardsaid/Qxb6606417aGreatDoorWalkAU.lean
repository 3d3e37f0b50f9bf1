import Derived.Test.Qxb6606417aGreatDoorWalkS
namespace Go.Proofs.Qxb6606417aGreatDoor
open Go.RowKit Go.PlainAid
set_option linter.unusedVariables false
set_option linter.unusedSimpArgs false
set_option maxRecDepth 100000

/-- 'append' into a buffer of an array with room: the bytes lie at its head. -/
theorem run_append_buf (w : World) (ty : TypeId) (g sCap : Nat) (cur : Array Value) (T : TypeId) (hg : w.heap[g]? = some (.cells cur T (0, 0)))
    (a : Addr) (m c : Nat) (news : List Value) (hl : news.length = m) (hnews : ∀ j u, news[j]? = some u → w.cell? (a.add j) = some u) (h1 : ∀ u ∈ news, u.oneCell' = true)
    (hroom : m ≤ sCap) (hfit : m ≤ cur.size) :
    (Builtin.append_ #[39, 39] ty #[.slice (some ⟨g, 0, none⟩) 0 sCap, .slice (some a) m c]).run Tryz.prog w =
      .ok (.slice (some ⟨g, 0, none⟩) m sCap) (w.setRow g (news ++ cur.toList.drop m).toArray) := by
  obtain ⟨i0, hi, hz0, hz1, hz2⟩ := info_parts info5
  have hf := run_firstCells_some (P := Tryz.prog) w i0.size m a m c news (by rw [hz1, hl]; omega) hnews
  have hst := run_storeCells_at Tryz.prog g 0 T news 0 cur w hg (by simp; omega) h1
  simp only [Nat.add_zero, Nat.zero_add, List.take_zero, List.nil_append, hl] at hst
  simp [Builtin.append_, run_underlying Tryz.underlying39, sizeOf, typeInfo, hi, Builtin.lenOf, hroom, hf, Addr.add_lit, hst]
theorem run_append_bufS (w : World) (ty : TypeId) (g sCap : Nat) (cur : Array Value) (T : TypeId) (hg : w.heap[g]? = some (.cells cur T (0, 0)))
    (s : ByteArray) (hroom : s.size ≤ sCap) (hfit : s.size ≤ cur.size) :
    (Builtin.append_ #[39, 9] ty #[.slice (some ⟨g, 0, none⟩) 0 sCap, .string s]).run Tryz.prog w =
      .ok (.slice (some ⟨g, 0, none⟩) s.size sCap) (w.setRow g (Lib.strCells s ++ cur.toList.drop s.size).toArray) := by
  obtain ⟨i0, hi, hz0, hz1, hz2⟩ := info_parts info5
  have hf := Lib.run_firstCells_string (P := Tryz.prog) w 1 s
  have hst := run_storeCells_at Tryz.prog g 0 T (Lib.strCells s) 0 cur w hg (by simpa [Lib.strCells_length] using hfit) (Lib.strCells_oneCell s)
  simp only [Nat.add_zero, Nat.zero_add, List.take_zero, List.nil_append, Lib.strCells_length] at hst
  simp [Builtin.append_, run_underlying Tryz.underlying39, run_underlying Tryz.underlying9, sizeOf, typeInfo, hi, hz1, Builtin.lenOf, hroom, hf, Addr.add_lit, hst]
theorem wpList_append_buf {ops : Array Oper} {rest : List Oper} {o : Oper} {a : Act} {Q : Exit → Act → World → Prop} (w : World) (hgd : o.guard = none) (s x : Operand)
    (ho : o.op = .call { callee := .builtin .append, args := #[s, x], argTypes := #[39, 39] }) (g sCap : Nat) (cur : Array Value) (T : TypeId) (hs : a.eval s = .slice (some ⟨g, 0, none⟩) 0 sCap) (hg : w.heap[g]? = some (.cells cur T (0, 0)))
    (ad : Addr) (m c : Nat) (news : List Value) (hx : a.eval x = .slice (some ad) m c) (hl : news.length = m) (hnews : ∀ j u, news[j]? = some u → w.cell? (ad.add j) = some u) (h1 : ∀ u ∈ news, u.oneCell' = true)
    (hroom : m ≤ sCap) (hfit : m ≤ cur.size) (hK : wpList Tryz.prog ops Q rest (a.put o.dst (.slice (some ⟨g, 0, none⟩) m sCap)) (w.setRow g (news ++ cur.toList.drop m).toArray)) : wpList Tryz.prog ops Q (o :: rest) a w := by
  refine wpList_plain hgd fun K hK' => ?_
  have hrun := run_append_buf w o.type g sCap cur T hg ad m c news hl hnews h1 hroom hfit
  unfold Oper.wp
  simp [execOp, ho, resolve, invoke, builtin, hs, hx, hrun, Result.andThen]
  exact hK' _ _ hK
theorem wpList_append_bufS {ops : Array Oper} {rest : List Oper} {o : Oper} {a : Act} {Q : Exit → Act → World → Prop} (w : World) (hgd : o.guard = none) (s x : Operand)
    (ho : o.op = .call { callee := .builtin .append, args := #[s, x], argTypes := #[39, 9] }) (g sCap : Nat) (cur : Array Value) (T : TypeId) (hs : a.eval s = .slice (some ⟨g, 0, none⟩) 0 sCap) (hg : w.heap[g]? = some (.cells cur T (0, 0)))
    (t : ByteArray) (hx : a.eval x = .string t) (hroom : t.size ≤ sCap) (hfit : t.size ≤ cur.size) (hK : wpList Tryz.prog ops Q rest (a.put o.dst (.slice (some ⟨g, 0, none⟩) t.size sCap)) (w.setRow g (Lib.strCells t ++ cur.toList.drop t.size).toArray)) : wpList Tryz.prog ops Q (o :: rest) a w := by
  refine wpList_plain hgd fun K hK' => ?_
  have hrun := run_append_bufS w o.type g sCap cur T hg t hroom hfit
  unfold Oper.wp
  simp [execOp, ho, resolve, invoke, builtin, hs, hx, hrun, Result.andThen]
  exact hK' _ _ hK
theorem setRow_buf {w : World} {g : Nat} {cur : Array Value} {T : TypeId} (hg : w.heap[g]? = some (.cells cur T (0, 0))) (hT : T ≠ 5) (L : List UInt8) (rest : List Value) : BufAt (w.setRow g (bytesV L ++ rest).toArray) g T L := by
  refine ⟨hT, (bytesV L ++ rest).toArray, setRow_heap w g cur _ T (0, 0) hg, fun j hj => ?_⟩
  rw [List.getElem?_toArray, List.getElem?_append_left (by rw [bytesV_len]; exact hj)]
  simp [bytesV, hj]
theorem below_setRow_at {B : Nat} {w0 w : World} (h : Below B w0 w) (g : Nat) (c : Array Value) (hg : B ≤ g) : Below B w0 (w.setRow g c) :=
  ⟨h.os, h.tape, h.output, by simpa [World.setRow] using h.size, fun k hk => by rw [setRow_other w g k c (by omega)]; exact h.block k hk⟩

set_option maxHeartbeats 1000000 in
theorem appendUint_walk (u g : Nat) (w : World) (E : Env w) (hg : w.heap[g]? = some (.cells (Array.replicate 20 (.int .u8 0)) 38 (0, 0))) (h0 : 0 < u) (h1 : u < 1000000000000000000) :
    Calls Tryz.prog 16 #[.slice (some ⟨g, 0, none⟩) 0 20, .int .u64 u, .int .i64 10] w fun e w' => e = .returned (.slice (some ⟨g, 0, none⟩) (Lib.nDigits u) 20) ∧ BufAt w' g 38 (Lib.decDigits u) ∧ Below g w w' := by
  have hlen := Lib.decDigits_length u
  have hnd := nDigits_lt (d := u) (n := 18) (by omega) (by omega)
  have hglt : g < w.heap.size := by
    rcases Nat.lt_or_ge g w.heap.size with h | h
    · exact h
    · rw [Array.getElem?_eq_none h] at hg; cases hg
  have k30 : Calls Tryz.prog 30 #[.slice (some ⟨g, 0, none⟩) 0 20, .int .u64 u, .int .i64 10] w fun e w' => e = .returned (.slice (some ⟨g, 0, none⟩) (Lib.nDigits u) 20) ∧ BufAt w' g 38 (Lib.decDigits u) ∧ Below g w w' := by
    by_cases hs : u < 100
    · have k48 : ∀ W : World, Calls Tryz.prog 48 #[.int .i64 u] W fun e w' => e = .returned (.string ⟨(Lib.decDigits u).toArray⟩) ∧ W = w' := fun W => (Tryz.internal_strconv_small u hs W).mono fun e w' h => ⟨h.1, h.2.symm⟩
      obtain ⟨t, ht⟩ : ∃ t : ByteArray, t = ⟨(Lib.decDigits u).toArray⟩ := ⟨_, rfl⟩
      rw [← ht] at k48
      have htz : t.size = Lib.nDigits u := by rw [ht, ← hlen]; simp [ByteArray.size]
      have HSC : Hid (Lib.strCells t = bytesV (Lib.decDigits u)) := by refine Lib.hid ?_; rw [ht]; simp [Lib.strCells, bytesV, byteV]
      have K48 : Hid _ := k48
      have HG : Hid (w.heap[g]? = some (.cells (Array.replicate 20 (.int .u8 0)) 38 (0, 0))) := hg
      have hlt : decide ((u : Int) < 100) = true := decide_eq_true (by omega)
      clear k48 ht hg E
      go_enter Tryz.func30, Tryz.ntmps30
      go_wp2_with (first
        | (go_at_call 48; refine (K48.out _).mono ?_; rintro e w' ⟨rfl, hw⟩; subst hw)
        | (at_builtin; refine wpList_append_bufS _ rfl (.tmp 13) (.tmp 16) rfl g 20 _ 38 rfl HG.out t rfl (by omega) (by simp; omega) ?_))
      go_ret
      refine ⟨by rw [← htz]; rfl, ?_, below_setRow_at (Below.refl _ _) g _ (Nat.le_refl _)⟩
      rw [HSC.out]
      exact setRow_buf HG.out (by decide) _ _
    · have hlt : decide ((u : Int) < 100) = false := decide_eq_false (by omega)
      have k49 : ∀ W : World, Env W → Calls Tryz.prog 49 #[.int .u64 u] W fun e w' => e = .returned (.int .i64 (Lib.nDigits u)) ∧ W = w' := fun W EW => (Tryz.internal_strconv_numDigits u (by omega) (by omega) W EW.p10).mono fun e w' h => ⟨h.1, h.2.symm⟩
      have k50 : ∀ W : World, W.heap[w.heap.size]? = some (.cells (Array.replicate 24 (.int .u8 0)) 73 (0, 0)) → Calls Tryz.prog 50 #[.slice (some ⟨w.heap.size, 0, none⟩) (Lib.nDigits u) 24, .int .u64 u] W fun e w' => e = .returned (.tuple #[]) ∧ BufAt w' w.heap.size 73 (Lib.decDigits u) ∧ Below w.heap.size W w' ∧ w'.heap.size = W.heap.size := fun W hW => base10_walk w.heap.size 24 u 24 73 W hW (by decide) (by omega) (by omega) (by omega)
      have K49 : Hid _ := k49
      have K50 : Hid _ := k50
      have HE : Hid (∀ W, Below w.heap.size w W → Env W) := fun W h => E.later h
      have HLN : Hid ((bytesV (Lib.decDigits u)).length = Lib.nDigits u) := by refine Lib.hid ?_; rw [bytesV_len, hlen]
      have HG : Hid (w.heap[g]? = some (.cells (Array.replicate 20 (.int .u8 0)) 38 (0, 0))) := hg
      have HCELL : Hid (∀ W : World, BufAt W w.heap.size 73 (Lib.decDigits u) → ∀ (j : Nat) (x : Value), (bytesV (Lib.decDigits u))[j]? = some x → W.cell? (Addr.add ⟨w.heap.size, 0, none⟩ j) = some x) := fun W h j x hj => by
        have hl : j < (Lib.decDigits u).length := by
          rcases Nat.lt_or_ge j (Lib.decDigits u).length with h3 | h3
          · exact h3
          · rw [bytesV, List.getElem?_map, List.getElem?_eq_none h3] at hj; cases hj
        rw [Addr.add_lit, Nat.zero_add, h.cell hl, ← hj]
        simp [bytesV, hl]
      clear k49 k50 E hlen hg
      have hsl := slice73 w.heap.size (Lib.nDigits u) (by omega)
      generalize Lib.nDigits u = nd at *
      go_enter Tryz.func30, Tryz.ntmps30
      go_upto_region 7 with (first
        | (go_at_call 49; refine (K49.out _ (HE.out _ ((Below.refl _ _).alloc (Nat.le_refl _) _))).mono ?_; rintro e w' ⟨rfl, hw⟩; subst hw)
        | (go_at_call 50; refine (K50.out _ (by exact heap_new' w _)).mono ?_; rintro e w2 ⟨rfl, hB, hL, _⟩; have B2 : Hid (Below w.heap.size w w2) := ((Below.refl _ _).alloc (Nat.le_refl _) _).trans hL; have D2 : Hid (BufAt w2 w.heap.size 73 (Lib.decDigits u)) := hB; have G2 : Hid (w2.heap[g]? = some (.cells (Array.replicate 20 (.int .u8 0)) 38 (0, 0))) := (by rw [B2.out.block g hglt]; exact HG.out); clear hB hL))
      go_wp2_with (at_builtin; refine wpList_append_buf _ rfl (.tmp 24) (.tmp 26) rfl g 20 _ 38 rfl G2.out ⟨w.heap.size, 0, none⟩ nd 24 (bytesV (Lib.decDigits u)) rfl HLN.out (HCELL.out _ D2.out) (bytesV_one _) (by omega) (by simp; omega) ?_)
      go_ret
      exact ⟨rfl, setRow_buf G2.out (by decide) _ _, below_setRow_at (B2.out.mono (by omega)) g _ (Nat.le_refl _)⟩
  have K30 := Lib.hid k30
  clear k30 E hlen
  generalize Lib.nDigits u = nd at *
  go_enter Tryz.func16, Tryz.ntmps16
  go_wp2_with (go_at_call 30; refine K30.out.mono ?_; rintro e w2 ⟨rfl, hB, hL⟩; have B2 : Hid (BufAt w2 g 38 (Lib.decDigits u)) := hB; have L2 : Hid (Below g w w2) := hL; clear hB hL)
  go_ret
  exact ⟨rfl, B2.out, L2.out⟩
end Go.Proofs.Qxb6606417aGreatDoor
