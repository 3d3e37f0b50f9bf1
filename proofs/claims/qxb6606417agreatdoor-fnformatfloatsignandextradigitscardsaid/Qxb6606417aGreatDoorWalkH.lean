import Derived.Test.Qxb6606417aGreatDoorWalkA
import Derived.Test.Qxb6606417aGreatDoorNum10
import Derived.OwnWalk
import Derived.Carry
import Derived.Lib.AppendStr
import Derived.Deep.DeepCutAuto
import Derived.Deep.LoopGhost
namespace Go.Proofs.Qxb6606417aGreatDoor
open Go.RowKit Go.PlainAid
set_option linter.unusedVariables false
set_option linter.unusedSimpArgs false
set_option maxRecDepth 100000

def byteV (b : UInt8) : Value := .int .u8 b.toNat
def bytesV (l : List UInt8) : List Value := l.map byteV
theorem bytesV_len (l : List UInt8) : (bytesV l).length = l.length := by simp [bytesV]
theorem bytesV_app (a b : List UInt8) : bytesV (a ++ b) = bytesV a ++ bytesV b := by simp [bytesV]
theorem bytesV_one (l : List UInt8) : ∀ u ∈ bytesV l, u.oneCell' = true := by
  intro u hu
  simp only [bytesV, List.mem_map] at hu
  obtain ⟨x, _, rfl⟩ := hu
  rfl
theorem info5 : (Tryz.prog.info? 5).map (fun i => (i.zero, i.size, i.bytes)) = some (some (.int .u8 0), 1, 1) := by kernel_rfl
theorem built_one (w1 : World) (b : UInt8) (x : Int) (hb : byteV b = .int .u8 x) : ∀ (j : Nat) (u : Value), (bytesV [b])[j]? = some u → (w1.alloc (.cells #[Value.int .u8 x] 5)).cell? (Addr.add ⟨w1.heap.size, 0, none⟩ j) = some u := by
  intro j u hj
  rw [Addr.add_lit, World.cell?_alloc_at _ _ _ _ rfl, Nat.zero_add, ← hj, ← hb]
  match j with
  | 0 => rfl
  | j + 1 => simp [bytesV]
theorem built_two (w1 : World) (a b : UInt8) (x y : Int) (ha : byteV a = .int .u8 x) (hb : byteV b = .int .u8 y) : ∀ (j : Nat) (u : Value), (bytesV [a, b])[j]? = some u → (w1.alloc (.cells #[Value.int .u8 x, Value.int .u8 y] 5)).cell? (Addr.add ⟨w1.heap.size, 0, none⟩ j) = some u := by
  intro j u hj
  rw [Addr.add_lit, World.cell?_alloc_at _ _ _ _ rfl, Nat.zero_add, ← hj, ← ha, ← hb]
  match j with
  | 0 => rfl
  | 1 => rfl
  | j + 2 => simp [bytesV]
theorem built_three (w1 : World) (a b c : UInt8) (x y z : Int) (ha : byteV a = .int .u8 x) (hb : byteV b = .int .u8 y) (hc : byteV c = .int .u8 z) : ∀ (j : Nat) (u : Value), (bytesV [a, b, c])[j]? = some u → (w1.alloc (.cells #[Value.int .u8 x, Value.int .u8 y, Value.int .u8 z] 5)).cell? (Addr.add ⟨w1.heap.size, 0, none⟩ j) = some u := by
  intro j u hj
  rw [Addr.add_lit, World.cell?_alloc_at _ _ _ _ rfl, Nat.zero_add, ← hj, ← ha, ← hb, ← hc]
  match j with
  | 0 => rfl
  | 1 => rfl
  | 2 => rfl
  | j + 3 => simp [bytesV]
/-- The row v holds the bytes L, from block N on; nothing older has turned. -/
structure OutAt (N : Nat) (w0 w : World) (v : Value) (L : List UInt8) : Prop where
  own : w.ownsRow N 5 1 v L.length (bytesV L)
  bel : Below N w0 w
  siz : N ≤ w.heap.size
theorem OutAt.grow {N : Nat} {w0 w w' : World} {v v' : Value} {L M : List UInt8} {n : Nat} (h : OutAt N w0 w v L) (ho : w'.ownsRow N 5 1 v' n (bytesV L ++ bytesV M)) (hn : n = L.length + M.length) (hg : w.grownBy w' v.ownBlock) : OutAt N w0 w' v' (L ++ M) := by
  refine ⟨?_, h.bel.grown hg h.siz (fun k e => ?_), Nat.le_trans h.siz hg.size⟩
  · rw [List.length_append, bytesV_app, ← hn]; exact ho
  · obtain ⟨_, ⟨rfl, _⟩ | ⟨g, c, cur, rfl, hb, _⟩⟩ := h.own
    · cases e
    · cases e; exact hb
theorem OutAt.alloc {N : Nat} {w0 w : World} {v : Value} {L : List UInt8} (h : OutAt N w0 w v L) (o : Obj) : OutAt N w0 (w.alloc o) v L := ⟨h.own.alloc o, h.bel.alloc h.siz o, by simp; exact Nat.le_succ_of_le h.siz⟩

/-- A buffer whose first cells hold these digits; no row of bytes is laid there. -/
def BufAt (w : World) (bb : Nat) (T : TypeId) (L : List UInt8) : Prop := T ≠ 5 ∧ ∃ C, w.heap[bb]? = some (.cells C T (0, 0)) ∧ ∀ j (h : j < L.length), C[j]? = some (byteV L[j])
theorem BufAt.cell {w : World} {bb : Nat} {T : TypeId} {L : List UInt8} (h : BufAt w bb T L) {j : Nat} (hj : j < L.length) : w.cell? ⟨bb, j, none⟩ = some (byteV L[j]) := by
  obtain ⟨_, C, h1, h2⟩ := h
  unfold World.cell?
  rw [h1]
  exact h2 j hj
theorem BufAt.lt {w : World} {bb : Nat} {T : TypeId} {L : List UInt8} (h : BufAt w bb T L) : bb < w.heap.size := by
  obtain ⟨_, C, h1, h2⟩ := h
  rcases Nat.lt_or_ge bb w.heap.size with h3 | h3
  · exact h3
  · rw [Array.getElem?_eq_none h3] at h1; cases h1
theorem BufAt.alloc {w : World} {bb : Nat} {T : TypeId} {L : List UInt8} (h : BufAt w bb T L) (o : Obj) : BufAt (w.alloc o) bb T L := by
  have hl := h.lt
  obtain ⟨h0, C, h1, h2⟩ := h
  exact ⟨h0, C, by rw [Below.heap_alloc w o bb hl]; exact h1, h2⟩
theorem BufAt.grow {w w' : World} {bb N n : Nat} {T : TypeId} {L : List UInt8} {v : Value} {xs : List Value} (h : BufAt w bb T L) (ho : w.ownsRow N 5 1 v n xs) (hg : w.grownBy w' v.ownBlock) : BufAt w' bb T L := by
  have hl := h.lt
  obtain ⟨h0, C, h1, h2⟩ := h
  refine ⟨h0, C, ?_, h2⟩
  rw [hg.block bb hl ?_]
  · exact h1
  · obtain ⟨_, ⟨rfl, _⟩ | ⟨g, c, cur, rfl, hb, hgc, _⟩⟩ := ho
    · intro e; cases e
    · intro e
      have : g = bb := by simpa [Value.ownBlock] using e.symm
      subst this
      rw [hgc] at h1
      cases h1
      exact h0 rfl
theorem BufAt.prefix {w : World} {bb : Nat} {T : TypeId} {L M : List UInt8} (h : BufAt w bb T (L ++ M)) : BufAt w bb T L := by
  obtain ⟨h0, C, h1, h2⟩ := h
  refine ⟨h0, C, h1, fun j hj => ?_⟩
  have := h2 j (by rw [List.length_append]; omega)
  rw [List.getElem_append_left hj] at this
  exact this
/-- What lies behind the first digit. -/
theorem BufAt.tail {w : World} {bb : Nat} {T : TypeId} {c : UInt8} {r : List UInt8} (h : BufAt w bb T (c :: r)) : ∀ (j : Nat) (u : Value), (bytesV r)[j]? = some u → w.cell? (Addr.add ⟨bb, 1, none⟩ j) = some u := by
  intro j u hj
  rw [bytesV, List.getElem?_map] at hj
  have hl : j < r.length := by
    rcases Nat.lt_or_ge j r.length with h3 | h3
    · exact h3
    · rw [List.getElem?_eq_none h3] at hj; cases hj
  rw [List.getElem?_eq_getElem hl] at hj
  have := h.cell (j := j + 1) (by simp; omega)
  rw [Addr.add_lit, Nat.add_comm, this]
  exact hj

/-! The text. -/
def expTxt (E : Int) : List UInt8 :=
  (if E < 0 then 45 else 43) :: (if E.natAbs < 10 then [48, UInt8.ofNat (48 + E.natAbs)] else if E.natAbs < 100 then [UInt8.ofNat (48 + E.natAbs / 10), UInt8.ofNat (48 + E.natAbs % 10)]
    else [UInt8.ofNat (48 + E.natAbs / 100), UInt8.ofNat (48 + E.natAbs / 10 % 10), UInt8.ofNat (48 + E.natAbs % 10)])
def mantTxt (c : UInt8) (r : List UInt8) (prec : Nat) : List UInt8 := c :: (if prec = 0 then [] else 46 :: (r ++ List.replicate (prec - r.length) 48))
theorem dig_val (r : Nat) (h : r < 10) : byteV (UInt8.ofNat (48 + r)) = .int .u8 (48 + (r : Int)) := by
  unfold byteV
  rw [ofNat_dig r h]; rfl
theorem dig_val' (r : Nat) (x : Int) (h : r < 10) (hx : x = r + 48) : byteV (UInt8.ofNat (48 + r)) = .int .u8 x := by
  rw [dig_val r h, hx, Int.add_comm]
def FmtPost (N : Nat) (w0 : World) (T : List UInt8) (e : Ending) (w' : World) : Prop := ∃ v', e = .returned v' ∧ OutAt N w0 w' v' T

set_option maxHeartbeats 4000000 in
theorem fmt_walk (N bb n0 : Nat) (T : TypeId) (c : UInt8) (r : List UInt8) (prec : Nat) (dp : Int) (sh : Bool) (v : Value) (w0 w : World) (hO : OutAt N w0 w v []) (hB : BufAt w bb T (c :: r)) (hn0 : r.length + 1 ≤ n0) (hn1 : n0 ≤ 32) (hr : r.length ≤ prec) (hp : prec ≤ 20) (hd1 : -398 ≤ dp) (hd2 : dp ≤ 398) :
    Calls Tryz.prog 79 #[v, .bool false, .slice (some ⟨bb, 0, none⟩) n0 n0, .int .i64 dp, .int .i64 (r.length + 1 : Nat), .int .i64 prec, .int .u8 101, .bool sh] w fun e w' => FmtPost N w0 (mantTxt c r prec ++ 101 :: expTxt (dp - 1)) e w' := by
  obtain ⟨i0, hi, hz0, hz1, hz2⟩ := info_parts info5
  have c0 := hB.cell (j := 0) (by simp)
  obtain ⟨x, hx⟩ : ∃ x : Nat, c.toNat = x := ⟨_, rfl⟩
  have HBY : Hid (byteV c = .int .u8 x) := by show Value.int .u8 (c.toNat : Int) = _; rw [hx]
  rw [List.getElem_cons_zero, HBY.out] at c0
  have hxl : x < 256 := by rw [← hx]; exact c.toNat_lt
  have HO : Hid (OutAt N w0 w v []) := hO
  have HB : Hid (BufAt w bb T (c :: r)) := hB
  obtain ⟨nd, hnd⟩ : ∃ nd, r.length + 1 = nd := ⟨_, rfl⟩
  have HND : Hid (r.length + 1 = nd) := hnd
  rw [hnd] at hn0
  have hnd1 : 1 ≤ nd := by omega
  have hnd2 : nd ≤ prec + 1 := by omega
  rw [hnd]
  have hne : ((nd : Int) != 0) = true := by simp; omega
  have hne2 : ((nd : Int) == 0) = false := by simp; omega
  clear hO hB hnd hx hr
  go_enter Tryz.func79, Tryz.ntmps79
  go_upto_if 92 with (at_builtin; refine wpList_append_own _ rfl (.tmp 87) (.tmp 89) 39 rfl N 5 i0 (.int .u8 0) 1 1 Tryz.underlying39 hi hz0 hz1 hz2 rfl (by decide) v _ _ rfl (HO.out.alloc _).own ⟨w.heap.size, 0, none⟩ 1 1 (bytesV [c]) rfl rfl (built_one _ c x HBY.out) (bytesV_one _) (by unfold maxLen; first | omega | (simp only [List.length_append, List.length_cons, List.length_nil]; omega)) (by first | omega | (simp only [List.length_append, List.length_cons, List.length_nil]; omega)) (HO.out.alloc _).siz ?_; intro v1 w1 ho hg hnn; have H1 : Hid (OutAt N w0 w1 v1 ([] ++ [c])) := (HO.out.alloc _).grow ho rfl hg; have HB1 : Hid (BufAt w1 bb T (c :: r)) := (HB.out.alloc _).grow (HO.out.alloc _).own hg; clear hnn ho hg)
  go_cut [0, 20, 21] (fun vv s20 s21 wx => OutAt N w0 wx vv (mantTxt c r prec))
  case first =>
    have hmin : min (nd : Int) ((prec : Int) + 1) = nd := by omega
    by_cases h0 : prec = 0
    · subst h0
      have hr0 : r = [] := List.length_eq_zero_iff.1 (by have := HND.out; omega)
      go_wp2_with fail
      go_meet
      rw [hr0]
      exact H1.out
    have hgt : decide ((prec : Int) > 0) = true := by simp; omega
    by_cases h1 : nd = 1
    · have hr0 : r = [] := List.length_eq_zero_iff.1 (by have := HND.out; omega)
      have hlt1 : decide ((1 : Int) < (nd : Int)) = false := by simp; omega
      have hcnt : (prec : Int) + 1 - 1 = prec := by omega
      subst h1
      go_upto_region 34 with (at_builtin; refine wpList_append_own _ rfl (.tmp 93) (.tmp 94) 39 rfl N 5 i0 (.int .u8 0) 1 1 Tryz.underlying39 hi hz0 hz1 hz2 rfl (by decide) v1 _ _ rfl (H1.out.alloc _).own ⟨w1.heap.size, 0, none⟩ 1 1 (bytesV [46]) rfl rfl (built_one _ 46 46 rfl) (bytesV_one _) (by unfold maxLen; first | omega | (simp only [List.length_append, List.length_cons, List.length_nil]; omega)) (by first | omega | (simp only [List.length_append, List.length_cons, List.length_nil]; omega)) (H1.out.alloc _).siz ?_; intro v2 w2 ho hg hnn; have H2 : Hid (OutAt N w0 w2 v2 ([] ++ [c] ++ [46])) := (H1.out.alloc _).grow ho rfl hg; clear hnn ho hg)
      go_loopw [0, 114] (fun vv i wx => ∃ k : Nat, k ≤ prec ∧ i = .int .i64 k ∧ OutAt N w0 wx vv ([] ++ [c] ++ [46] ++ List.replicate k 48)) (fun _ i _ => prec - (intOf i).toNat)
      case atStart => exact ⟨0, Nat.zero_le _, rfl, by rw [List.replicate_zero, List.append_nil]; exact H2.out⟩
      case round =>
        obtain ⟨k, hk, rfl, hOk⟩ := hrel
        have HK : Hid (OutAt N w0 wr u0 ([] ++ [c] ++ [46] ++ List.replicate k 48)) := hOk
        have hlen : ([] ++ [c] ++ [46] ++ List.replicate k 48).length ≤ 60 := by simp only [List.length_append, List.length_cons, List.length_nil, List.length_replicate]; have := HND.out; omega
        clear hOk
        by_cases hlt : k < prec
        · have hl' : decide ((k : Int) < (prec : Int)) = true := by simp; omega
          go_wp2_with (at_builtin; refine wpList_append_own _ rfl (.tmp 116) (.tmp 117) 39 rfl N 5 i0 (.int .u8 0) 1 1 Tryz.underlying39 hi hz0 hz1 hz2 rfl (by decide) u0 _ _ rfl (HK.out.alloc _).own ⟨wr.heap.size, 0, none⟩ 1 1 (bytesV [48]) rfl rfl (built_one _ 48 48 rfl) (bytesV_one _) (by unfold maxLen; first | omega | (simp only [List.length_append, List.length_cons, List.length_nil]; omega)) (by first | omega | (simp only [List.length_append, List.length_cons, List.length_nil]; omega)) (HK.out.alloc _).siz ?_; intro v4 w4 ho hg hnn; have H4 : Hid (OutAt N w0 w4 v4 ([] ++ [c] ++ [46] ++ List.replicate k 48 ++ [48])) := (HK.out.alloc _).grow ho rfl hg; clear hnn ho hg)
          refine ⟨⟨k + 1, hlt, by go_num, ?_⟩, by simp [intOf]; omega⟩
          rw [List.replicate_succ', ← List.append_assoc]
          exact H4.out
        · have hl' : decide ((k : Int) < (prec : Int)) = false := by simp; omega
          obtain rfl : k = prec := by omega
          go_wp2_with fail
          go_meet
          have : mantTxt c r k = [] ++ [c] ++ [46] ++ List.replicate k 48 := by unfold mantTxt; rw [if_neg h0, hr0]; simp
          rw [this]; exact HK.out
    · have hlt1 : decide ((1 : Int) < (nd : Int)) = true := by simp; omega
      have hmd : nd - 1 + 1 = nd := by omega
      have hl1 : (bytesV r).length = (nd - 1) * 1 := by rw [bytesV_len]; have := HND.out; omega
      have hcnt : (prec : Int) + 1 - nd = ((prec + 1 - nd : Nat) : Int) := by omega
      obtain ⟨cn, hcn⟩ : ∃ cn, prec + 1 - nd = cn := ⟨_, rfl⟩
      have HCN : Hid (prec + 1 - nd = cn) := hcn
      have hcnb : cn ≤ 20 := by omega
      rw [hcn] at hcnt
      clear hcn
      go_upto_region 34 with (first
        | (at_builtin; refine wpList_append_own _ rfl (.tmp 93) (.tmp 94) 39 rfl N 5 i0 (.int .u8 0) 1 1 Tryz.underlying39 hi hz0 hz1 hz2 rfl (by decide) v1 _ _ rfl (H1.out.alloc _).own ⟨w1.heap.size, 0, none⟩ 1 1 (bytesV [46]) rfl rfl (built_one _ 46 46 rfl) (bytesV_one _) (by unfold maxLen; first | omega | (simp only [List.length_append, List.length_cons, List.length_nil]; omega)) (by first | omega | (simp only [List.length_append, List.length_cons, List.length_nil]; omega)) (H1.out.alloc _).siz ?_; intro v2 w2 ho hg hnn; have H2 : Hid (OutAt N w0 w2 v2 ([] ++ [c] ++ [46])) := (H1.out.alloc _).grow ho rfl hg; have HB2 : Hid (BufAt w2 bb T (c :: r)) := (HB1.out.alloc _).grow (H1.out.alloc _).own hg; clear hnn ho hg)
        | (at_builtin; refine wpList_append_own _ rfl (.tmp 103) (.tmp 107) 39 rfl N 5 i0 (.int .u8 0) 1 1 Tryz.underlying39 hi hz0 hz1 hz2 rfl (by decide) v2 _ _ rfl H2.out.own ⟨bb, 1, none⟩ (nd - 1) (n0 - 1) (bytesV r) rfl hl1 HB2.out.tail (bytesV_one _) (by unfold maxLen; first | omega | (simp only [List.length_append, List.length_cons, List.length_nil]; omega)) (by first | omega | (simp only [List.length_append, List.length_cons, List.length_nil]; omega)) H2.out.siz ?_; intro v3 w3 ho hg hnn; have H3 : Hid (OutAt N w0 w3 v3 ([] ++ [c] ++ [46] ++ r)) := H2.out.grow ho (by have := HND.out; omega) hg; clear hnn ho hg))
      go_loopw [0, 114] (fun vv i wx => ∃ k : Nat, k ≤ cn ∧ i = .int .i64 k ∧ OutAt N w0 wx vv ([] ++ [c] ++ [46] ++ r ++ List.replicate k 48)) (fun _ i _ => cn - (intOf i).toNat)
      case atStart => exact ⟨0, Nat.zero_le _, rfl, by rw [List.replicate_zero, List.append_nil]; exact H3.out⟩
      case round =>
        obtain ⟨k, hk, rfl, hOk⟩ := hrel
        have HK : Hid (OutAt N w0 wr u0 ([] ++ [c] ++ [46] ++ r ++ List.replicate k 48)) := hOk
        have hlen : ([] ++ [c] ++ [46] ++ r ++ List.replicate k 48).length ≤ 60 := by simp only [List.length_append, List.length_cons, List.length_nil, List.length_replicate]; have := HND.out; omega
        clear hOk
        by_cases hlt : k < cn
        · have hl' : decide ((k : Int) < (cn : Int)) = true := by simp; omega
          go_wp2_with (at_builtin; refine wpList_append_own _ rfl (.tmp 116) (.tmp 117) 39 rfl N 5 i0 (.int .u8 0) 1 1 Tryz.underlying39 hi hz0 hz1 hz2 rfl (by decide) u0 _ _ rfl (HK.out.alloc _).own ⟨wr.heap.size, 0, none⟩ 1 1 (bytesV [48]) rfl rfl (built_one _ 48 48 rfl) (bytesV_one _) (by unfold maxLen; first | omega | (simp only [List.length_append, List.length_cons, List.length_nil]; omega)) (by first | omega | (simp only [List.length_append, List.length_cons, List.length_nil]; omega)) (HK.out.alloc _).siz ?_; intro v4 w4 ho hg hnn; have H4 : Hid (OutAt N w0 w4 v4 ([] ++ [c] ++ [46] ++ r ++ List.replicate k 48 ++ [48])) := (HK.out.alloc _).grow ho rfl hg; clear hnn ho hg)
          refine ⟨⟨k + 1, hlt, by go_num, ?_⟩, by simp [intOf]; omega⟩
          rw [List.replicate_succ', ← List.append_assoc]
          exact H4.out
        · have hl' : decide ((k : Int) < (cn : Int)) = false := by simp; omega
          obtain rfl : k = cn := by omega
          go_wp2_with fail
          go_meet
          have : mantTxt c r prec = [] ++ [c] ++ [46] ++ r ++ List.replicate k 48 := by unfold mantTxt; rw [if_neg h0, show prec - r.length = k from by have := HND.out; have := HCN.out; omega]; simp
          rw [this]; exact HK.out
  case rest =>
    have HC : Hid (OutAt N w0 wc u0 (mantTxt c r prec)) := hcut
    have hML : (mantTxt c r prec).length ≤ 60 := by
      unfold mantTxt
      have := HND.out
      split <;> simp <;> omega
    obtain ⟨M, hM⟩ : ∃ M, mantTxt c r prec = M := ⟨_, rfl⟩
    rw [hM] at HC hML
    have HM : Hid (mantTxt c r prec = M) := hM
    clear hcut hM H1 HB1 HB HO c0 HBY HND
    by_cases hsg : 0 ≤ dp - 1
    · obtain ⟨e, rfl⟩ : ∃ e : Nat, dp = e + 1 := ⟨(dp - 1).toNat, by omega⟩
      have he0 : (e : Int) + 1 - 1 = e := by omega
      have hneg : decide ((e : Int) < 0) = false := by simp
      have hs : ¬ ((e : Int) < 0) := by omega
      have hab : (e : Int).natAbs = e := by omega
      by_cases hlo : e < 10
      · have HT : Hid (mantTxt c r prec ++ 101 :: expTxt ((e : Int) + 1 - 1) = M ++ [101] ++ [43] ++ [48, UInt8.ofNat (48 + e)]) := by show _ = _; rw [he0, HM.out]; unfold expTxt; rw [if_neg hs, hab, if_pos hlo]; simp
        have hlo' : decide ((e : Int) < 10) = true := by simp; omega
        clear hs hab
        go_wp2_with (first
          | (at_builtin; refine wpList_append_own _ rfl (.tmp 120) (.tmp 122) 39 rfl N 5 i0 (.int .u8 0) 1 1 Tryz.underlying39 hi hz0 hz1 hz2 rfl (by decide) u0 _ _ rfl (HC.out.alloc _).own ⟨wc.heap.size, 0, none⟩ 1 1 (bytesV [101]) rfl rfl (built_one _ 101 101 rfl) (bytesV_one _) (by unfold maxLen; first | omega | (simp only [List.length_append, List.length_cons, List.length_nil]; omega)) (by first | omega | (simp only [List.length_append, List.length_cons, List.length_nil]; omega)) (HC.out.alloc _).siz ?_; intro v5 w5 ho hg hnn; have H5 : Hid (OutAt N w0 w5 v5 (M ++ [101])) := (HC.out.alloc _).grow ho rfl hg; clear hnn ho hg)
          | (at_builtin; refine wpList_append_own _ rfl (.tmp 132) (.tmp 134) 39 rfl N 5 i0 (.int .u8 0) 1 1 Tryz.underlying39 hi hz0 hz1 hz2 rfl (by decide) v5 _ _ rfl (H5.out.alloc _).own ⟨w5.heap.size, 0, none⟩ 1 1 (bytesV [43]) rfl rfl (built_one _ 43 43 rfl) (bytesV_one _) (by unfold maxLen; first | omega | (simp only [List.length_append, List.length_cons, List.length_nil]; omega)) (by first | omega | (simp only [List.length_append, List.length_cons, List.length_nil]; omega)) (H5.out.alloc _).siz ?_; intro v6 w6 ho hg hnn; have H6 : Hid (OutAt N w0 w6 v6 (M ++ [101] ++ [43])) := (H5.out.alloc _).grow ho rfl hg; clear hnn ho hg)
          | (at_builtin; refine wpList_append_own _ rfl (.tmp 155) (.tmp 159) 39 rfl N 5 i0 (.int .u8 0) 1 1 Tryz.underlying39 hi hz0 hz1 hz2 rfl (by decide) v6 _ _ rfl (H6.out.alloc _).own ⟨w6.heap.size, 0, none⟩ 2 2 (bytesV [48, UInt8.ofNat (48 + e)]) rfl rfl (built_two _ 48 _ 48 _ rfl (dig_val' e _ hlo (by omega))) (bytesV_one _) (by unfold maxLen; first | omega | (simp only [List.length_append, List.length_cons, List.length_nil]; omega)) (by first | omega | (simp only [List.length_append, List.length_cons, List.length_nil]; omega)) (H6.out.alloc _).siz ?_; intro v7 w7 ho hg hnn; have H7 : Hid (OutAt N w0 w7 v7 (M ++ [101] ++ [43] ++ [48, UInt8.ofNat (48 + e)])) := (H6.out.alloc _).grow ho rfl hg; clear hnn ho hg))
        go_ret
        have hfin := H7.out
        rw [← HT.out] at hfin
        first | exact ⟨_, rfl, hfin⟩ | (rw [he0] at hfin; exact ⟨_, rfl, hfin⟩)
      have hlo' : decide ((e : Int) < 10) = false := by simp; omega
      by_cases hmi : e < 100
      · have HT : Hid (mantTxt c r prec ++ 101 :: expTxt ((e : Int) + 1 - 1) = M ++ [101] ++ [43] ++ [UInt8.ofNat (48 + e / 10), UInt8.ofNat (48 + e % 10)]) := by show _ = _; rw [he0, HM.out]; unfold expTxt; rw [if_neg hs, hab, if_neg hlo, if_pos hmi]; simp
        have hmi' : decide ((e : Int) < 100) = true := by simp; omega
        clear hs hab
        go_wp2_with (first
          | (at_builtin; refine wpList_append_own _ rfl (.tmp 120) (.tmp 122) 39 rfl N 5 i0 (.int .u8 0) 1 1 Tryz.underlying39 hi hz0 hz1 hz2 rfl (by decide) u0 _ _ rfl (HC.out.alloc _).own ⟨wc.heap.size, 0, none⟩ 1 1 (bytesV [101]) rfl rfl (built_one _ 101 101 rfl) (bytesV_one _) (by unfold maxLen; first | omega | (simp only [List.length_append, List.length_cons, List.length_nil]; omega)) (by first | omega | (simp only [List.length_append, List.length_cons, List.length_nil]; omega)) (HC.out.alloc _).siz ?_; intro v5 w5 ho hg hnn; have H5 : Hid (OutAt N w0 w5 v5 (M ++ [101])) := (HC.out.alloc _).grow ho rfl hg; clear hnn ho hg)
          | (at_builtin; refine wpList_append_own _ rfl (.tmp 132) (.tmp 134) 39 rfl N 5 i0 (.int .u8 0) 1 1 Tryz.underlying39 hi hz0 hz1 hz2 rfl (by decide) v5 _ _ rfl (H5.out.alloc _).own ⟨w5.heap.size, 0, none⟩ 1 1 (bytesV [43]) rfl rfl (built_one _ 43 43 rfl) (bytesV_one _) (by unfold maxLen; first | omega | (simp only [List.length_append, List.length_cons, List.length_nil]; omega)) (by first | omega | (simp only [List.length_append, List.length_cons, List.length_nil]; omega)) (H5.out.alloc _).siz ?_; intro v6 w6 ho hg hnn; have H6 : Hid (OutAt N w0 w6 v6 (M ++ [101] ++ [43])) := (H5.out.alloc _).grow ho rfl hg; clear hnn ho hg)
          | (at_builtin; refine wpList_append_own _ rfl (.tmp 164) (.tmp 173) 39 rfl N 5 i0 (.int .u8 0) 1 1 Tryz.underlying39 hi hz0 hz1 hz2 rfl (by decide) v6 _ _ rfl (H6.out.alloc _).own ⟨w6.heap.size, 0, none⟩ 2 2 (bytesV [UInt8.ofNat (48 + e / 10), UInt8.ofNat (48 + e % 10)]) rfl rfl (built_two _ _ _ _ _ (dig_val' (e / 10) _ (by omega) (by omega)) (dig_val' (e % 10) _ (by omega) (by omega))) (bytesV_one _) (by unfold maxLen; first | omega | (simp only [List.length_append, List.length_cons, List.length_nil]; omega)) (by first | omega | (simp only [List.length_append, List.length_cons, List.length_nil]; omega)) (H6.out.alloc _).siz ?_; intro v7 w7 ho hg hnn; have H7 : Hid (OutAt N w0 w7 v7 (M ++ [101] ++ [43] ++ [UInt8.ofNat (48 + e / 10), UInt8.ofNat (48 + e % 10)])) := (H6.out.alloc _).grow ho rfl hg; clear hnn ho hg))
        go_ret
        have hfin := H7.out
        rw [← HT.out] at hfin
        first | exact ⟨_, rfl, hfin⟩ | (rw [he0] at hfin; exact ⟨_, rfl, hfin⟩)
      · have HT : Hid (mantTxt c r prec ++ 101 :: expTxt ((e : Int) + 1 - 1) = M ++ [101] ++ [43] ++ [UInt8.ofNat (48 + e / 100), UInt8.ofNat (48 + e / 10 % 10), UInt8.ofNat (48 + e % 10)]) := by show _ = _; rw [he0, HM.out]; unfold expTxt; rw [if_neg hs, hab, if_neg hlo, if_neg hmi]; simp
        have hmi' : decide ((e : Int) < 100) = false := by simp; omega
        clear hs hab
        go_wp2_with (first
          | (at_builtin; refine wpList_append_own _ rfl (.tmp 120) (.tmp 122) 39 rfl N 5 i0 (.int .u8 0) 1 1 Tryz.underlying39 hi hz0 hz1 hz2 rfl (by decide) u0 _ _ rfl (HC.out.alloc _).own ⟨wc.heap.size, 0, none⟩ 1 1 (bytesV [101]) rfl rfl (built_one _ 101 101 rfl) (bytesV_one _) (by unfold maxLen; first | omega | (simp only [List.length_append, List.length_cons, List.length_nil]; omega)) (by first | omega | (simp only [List.length_append, List.length_cons, List.length_nil]; omega)) (HC.out.alloc _).siz ?_; intro v5 w5 ho hg hnn; have H5 : Hid (OutAt N w0 w5 v5 (M ++ [101])) := (HC.out.alloc _).grow ho rfl hg; clear hnn ho hg)
          | (at_builtin; refine wpList_append_own _ rfl (.tmp 132) (.tmp 134) 39 rfl N 5 i0 (.int .u8 0) 1 1 Tryz.underlying39 hi hz0 hz1 hz2 rfl (by decide) v5 _ _ rfl (H5.out.alloc _).own ⟨w5.heap.size, 0, none⟩ 1 1 (bytesV [43]) rfl rfl (built_one _ 43 43 rfl) (bytesV_one _) (by unfold maxLen; first | omega | (simp only [List.length_append, List.length_cons, List.length_nil]; omega)) (by first | omega | (simp only [List.length_append, List.length_cons, List.length_nil]; omega)) (H5.out.alloc _).siz ?_; intro v6 w6 ho hg hnn; have H6 : Hid (OutAt N w0 w6 v6 (M ++ [101] ++ [43])) := (H5.out.alloc _).grow ho rfl hg; clear hnn ho hg)
          | (at_builtin; refine wpList_append_own _ rfl (.tmp 136) (.tmp 150) 39 rfl N 5 i0 (.int .u8 0) 1 1 Tryz.underlying39 hi hz0 hz1 hz2 rfl (by decide) v6 _ _ rfl (H6.out.alloc _).own ⟨w6.heap.size, 0, none⟩ 3 3 (bytesV [UInt8.ofNat (48 + e / 100), UInt8.ofNat (48 + e / 10 % 10), UInt8.ofNat (48 + e % 10)]) rfl rfl (built_three _ _ _ _ _ _ _ (dig_val' (e / 100) _ (by omega) (by omega)) (dig_val' (e / 10 % 10) _ (by omega) (by omega)) (dig_val' (e % 10) _ (by omega) (by omega))) (bytesV_one _) (by unfold maxLen; first | omega | (simp only [List.length_append, List.length_cons, List.length_nil]; omega)) (by first | omega | (simp only [List.length_append, List.length_cons, List.length_nil]; omega)) (H6.out.alloc _).siz ?_; intro v7 w7 ho hg hnn; have H7 : Hid (OutAt N w0 w7 v7 (M ++ [101] ++ [43] ++ [UInt8.ofNat (48 + e / 100), UInt8.ofNat (48 + e / 10 % 10), UInt8.ofNat (48 + e % 10)])) := (H6.out.alloc _).grow ho rfl hg; clear hnn ho hg))
        go_ret
        have hfin := H7.out
        rw [← HT.out] at hfin
        first | exact ⟨_, rfl, hfin⟩ | (rw [he0] at hfin; exact ⟨_, rfl, hfin⟩)
    · obtain ⟨e, rfl⟩ : ∃ e : Nat, dp = 1 - e := ⟨(1 - dp).toNat, by omega⟩
      have he0 : 1 - (e : Int) - 1 = -e := by omega
      have hneg : decide (-(e : Int) < 0) = true := by simp; omega
      have hnn0 : -(-(e : Int)) = e := by omega
      have hs : (-(e : Int) < 0) := by omega
      have hab : (-(e : Int)).natAbs = e := by omega
      by_cases hlo : e < 10
      · have HT : Hid (mantTxt c r prec ++ 101 :: expTxt (1 - (e : Int) - 1) = M ++ [101] ++ [45] ++ [48, UInt8.ofNat (48 + e)]) := by show _ = _; rw [he0, HM.out]; unfold expTxt; rw [if_pos hs, hab, if_pos hlo]; simp
        have hlo' : decide ((e : Int) < 10) = true := by simp; omega
        clear hs hab
        go_wp2_with (first
          | (at_builtin; refine wpList_append_own _ rfl (.tmp 120) (.tmp 122) 39 rfl N 5 i0 (.int .u8 0) 1 1 Tryz.underlying39 hi hz0 hz1 hz2 rfl (by decide) u0 _ _ rfl (HC.out.alloc _).own ⟨wc.heap.size, 0, none⟩ 1 1 (bytesV [101]) rfl rfl (built_one _ 101 101 rfl) (bytesV_one _) (by unfold maxLen; first | omega | (simp only [List.length_append, List.length_cons, List.length_nil]; omega)) (by first | omega | (simp only [List.length_append, List.length_cons, List.length_nil]; omega)) (HC.out.alloc _).siz ?_; intro v5 w5 ho hg hnn; have H5 : Hid (OutAt N w0 w5 v5 (M ++ [101])) := (HC.out.alloc _).grow ho rfl hg; clear hnn ho hg)
          | (at_builtin; refine wpList_append_own _ rfl (.tmp 132) (.tmp 134) 39 rfl N 5 i0 (.int .u8 0) 1 1 Tryz.underlying39 hi hz0 hz1 hz2 rfl (by decide) v5 _ _ rfl (H5.out.alloc _).own ⟨w5.heap.size, 0, none⟩ 1 1 (bytesV [45]) rfl rfl (built_one _ 45 45 rfl) (bytesV_one _) (by unfold maxLen; first | omega | (simp only [List.length_append, List.length_cons, List.length_nil]; omega)) (by first | omega | (simp only [List.length_append, List.length_cons, List.length_nil]; omega)) (H5.out.alloc _).siz ?_; intro v6 w6 ho hg hnn; have H6 : Hid (OutAt N w0 w6 v6 (M ++ [101] ++ [45])) := (H5.out.alloc _).grow ho rfl hg; clear hnn ho hg)
          | (at_builtin; refine wpList_append_own _ rfl (.tmp 155) (.tmp 159) 39 rfl N 5 i0 (.int .u8 0) 1 1 Tryz.underlying39 hi hz0 hz1 hz2 rfl (by decide) v6 _ _ rfl (H6.out.alloc _).own ⟨w6.heap.size, 0, none⟩ 2 2 (bytesV [48, UInt8.ofNat (48 + e)]) rfl rfl (built_two _ 48 _ 48 _ rfl (dig_val' e _ hlo (by omega))) (bytesV_one _) (by unfold maxLen; first | omega | (simp only [List.length_append, List.length_cons, List.length_nil]; omega)) (by first | omega | (simp only [List.length_append, List.length_cons, List.length_nil]; omega)) (H6.out.alloc _).siz ?_; intro v7 w7 ho hg hnn; have H7 : Hid (OutAt N w0 w7 v7 (M ++ [101] ++ [45] ++ [48, UInt8.ofNat (48 + e)])) := (H6.out.alloc _).grow ho rfl hg; clear hnn ho hg))
        go_ret
        have hfin := H7.out
        rw [← HT.out] at hfin
        first | exact ⟨_, rfl, hfin⟩ | (rw [he0] at hfin; exact ⟨_, rfl, hfin⟩)
      have hlo' : decide ((e : Int) < 10) = false := by simp; omega
      by_cases hmi : e < 100
      · have HT : Hid (mantTxt c r prec ++ 101 :: expTxt (1 - (e : Int) - 1) = M ++ [101] ++ [45] ++ [UInt8.ofNat (48 + e / 10), UInt8.ofNat (48 + e % 10)]) := by show _ = _; rw [he0, HM.out]; unfold expTxt; rw [if_pos hs, hab, if_neg hlo, if_pos hmi]; simp
        have hmi' : decide ((e : Int) < 100) = true := by simp; omega
        clear hs hab
        go_wp2_with (first
          | (at_builtin; refine wpList_append_own _ rfl (.tmp 120) (.tmp 122) 39 rfl N 5 i0 (.int .u8 0) 1 1 Tryz.underlying39 hi hz0 hz1 hz2 rfl (by decide) u0 _ _ rfl (HC.out.alloc _).own ⟨wc.heap.size, 0, none⟩ 1 1 (bytesV [101]) rfl rfl (built_one _ 101 101 rfl) (bytesV_one _) (by unfold maxLen; first | omega | (simp only [List.length_append, List.length_cons, List.length_nil]; omega)) (by first | omega | (simp only [List.length_append, List.length_cons, List.length_nil]; omega)) (HC.out.alloc _).siz ?_; intro v5 w5 ho hg hnn; have H5 : Hid (OutAt N w0 w5 v5 (M ++ [101])) := (HC.out.alloc _).grow ho rfl hg; clear hnn ho hg)
          | (at_builtin; refine wpList_append_own _ rfl (.tmp 132) (.tmp 134) 39 rfl N 5 i0 (.int .u8 0) 1 1 Tryz.underlying39 hi hz0 hz1 hz2 rfl (by decide) v5 _ _ rfl (H5.out.alloc _).own ⟨w5.heap.size, 0, none⟩ 1 1 (bytesV [45]) rfl rfl (built_one _ 45 45 rfl) (bytesV_one _) (by unfold maxLen; first | omega | (simp only [List.length_append, List.length_cons, List.length_nil]; omega)) (by first | omega | (simp only [List.length_append, List.length_cons, List.length_nil]; omega)) (H5.out.alloc _).siz ?_; intro v6 w6 ho hg hnn; have H6 : Hid (OutAt N w0 w6 v6 (M ++ [101] ++ [45])) := (H5.out.alloc _).grow ho rfl hg; clear hnn ho hg)
          | (at_builtin; refine wpList_append_own _ rfl (.tmp 164) (.tmp 173) 39 rfl N 5 i0 (.int .u8 0) 1 1 Tryz.underlying39 hi hz0 hz1 hz2 rfl (by decide) v6 _ _ rfl (H6.out.alloc _).own ⟨w6.heap.size, 0, none⟩ 2 2 (bytesV [UInt8.ofNat (48 + e / 10), UInt8.ofNat (48 + e % 10)]) rfl rfl (built_two _ _ _ _ _ (dig_val' (e / 10) _ (by omega) (by omega)) (dig_val' (e % 10) _ (by omega) (by omega))) (bytesV_one _) (by unfold maxLen; first | omega | (simp only [List.length_append, List.length_cons, List.length_nil]; omega)) (by first | omega | (simp only [List.length_append, List.length_cons, List.length_nil]; omega)) (H6.out.alloc _).siz ?_; intro v7 w7 ho hg hnn; have H7 : Hid (OutAt N w0 w7 v7 (M ++ [101] ++ [45] ++ [UInt8.ofNat (48 + e / 10), UInt8.ofNat (48 + e % 10)])) := (H6.out.alloc _).grow ho rfl hg; clear hnn ho hg))
        go_ret
        have hfin := H7.out
        rw [← HT.out] at hfin
        first | exact ⟨_, rfl, hfin⟩ | (rw [he0] at hfin; exact ⟨_, rfl, hfin⟩)
      · have HT : Hid (mantTxt c r prec ++ 101 :: expTxt (1 - (e : Int) - 1) = M ++ [101] ++ [45] ++ [UInt8.ofNat (48 + e / 100), UInt8.ofNat (48 + e / 10 % 10), UInt8.ofNat (48 + e % 10)]) := by show _ = _; rw [he0, HM.out]; unfold expTxt; rw [if_pos hs, hab, if_neg hlo, if_neg hmi]; simp
        have hmi' : decide ((e : Int) < 100) = false := by simp; omega
        clear hs hab
        go_wp2_with (first
          | (at_builtin; refine wpList_append_own _ rfl (.tmp 120) (.tmp 122) 39 rfl N 5 i0 (.int .u8 0) 1 1 Tryz.underlying39 hi hz0 hz1 hz2 rfl (by decide) u0 _ _ rfl (HC.out.alloc _).own ⟨wc.heap.size, 0, none⟩ 1 1 (bytesV [101]) rfl rfl (built_one _ 101 101 rfl) (bytesV_one _) (by unfold maxLen; first | omega | (simp only [List.length_append, List.length_cons, List.length_nil]; omega)) (by first | omega | (simp only [List.length_append, List.length_cons, List.length_nil]; omega)) (HC.out.alloc _).siz ?_; intro v5 w5 ho hg hnn; have H5 : Hid (OutAt N w0 w5 v5 (M ++ [101])) := (HC.out.alloc _).grow ho rfl hg; clear hnn ho hg)
          | (at_builtin; refine wpList_append_own _ rfl (.tmp 132) (.tmp 134) 39 rfl N 5 i0 (.int .u8 0) 1 1 Tryz.underlying39 hi hz0 hz1 hz2 rfl (by decide) v5 _ _ rfl (H5.out.alloc _).own ⟨w5.heap.size, 0, none⟩ 1 1 (bytesV [45]) rfl rfl (built_one _ 45 45 rfl) (bytesV_one _) (by unfold maxLen; first | omega | (simp only [List.length_append, List.length_cons, List.length_nil]; omega)) (by first | omega | (simp only [List.length_append, List.length_cons, List.length_nil]; omega)) (H5.out.alloc _).siz ?_; intro v6 w6 ho hg hnn; have H6 : Hid (OutAt N w0 w6 v6 (M ++ [101] ++ [45])) := (H5.out.alloc _).grow ho rfl hg; clear hnn ho hg)
          | (at_builtin; refine wpList_append_own _ rfl (.tmp 136) (.tmp 150) 39 rfl N 5 i0 (.int .u8 0) 1 1 Tryz.underlying39 hi hz0 hz1 hz2 rfl (by decide) v6 _ _ rfl (H6.out.alloc _).own ⟨w6.heap.size, 0, none⟩ 3 3 (bytesV [UInt8.ofNat (48 + e / 100), UInt8.ofNat (48 + e / 10 % 10), UInt8.ofNat (48 + e % 10)]) rfl rfl (built_three _ _ _ _ _ _ _ (dig_val' (e / 100) _ (by omega) (by omega)) (dig_val' (e / 10 % 10) _ (by omega) (by omega)) (dig_val' (e % 10) _ (by omega) (by omega))) (bytesV_one _) (by unfold maxLen; first | omega | (simp only [List.length_append, List.length_cons, List.length_nil]; omega)) (by first | omega | (simp only [List.length_append, List.length_cons, List.length_nil]; omega)) (H6.out.alloc _).siz ?_; intro v7 w7 ho hg hnn; have H7 : Hid (OutAt N w0 w7 v7 (M ++ [101] ++ [45] ++ [UInt8.ofNat (48 + e / 100), UInt8.ofNat (48 + e / 10 % 10), UInt8.ofNat (48 + e % 10)])) := (H6.out.alloc _).grow ho rfl hg; clear hnn ho hg))
        go_ret
        have hfin := H7.out
        rw [← HT.out] at hfin
        first | exact ⟨_, rfl, hfin⟩ | (rw [he0] at hfin; exact ⟨_, rfl, hfin⟩)
end Go.Proofs.Qxb6606417aGreatDoor
