import Derived.Test.Qxb6609503aFmtWalkM
import Derived.Test.Qxb6609503aFmtWalkN
import Derived.LaidEql
import Derived.Deep.LoopGhost
namespace Go.Proofs.Qxb6609503aFmt
open Go.RowKit Go.PlainAid Go.Maps
set_option linter.unusedVariables false

theorem cmp108 : (Tryf.prog.info? 108).map (·.comparable) = some true := by kernel_rfl
theorem some128 : (Tryf.prog.info? 128).isSome = true := by kernel_rfl
theorem same108 (d : Nat) (pE : Addr) (X : World) : (Op.equalIn (d + 2) 28 (.iface 108 (.pointer (some pE))) (.iface 108 (.pointer (some pE)))).run Tryf.prog X = .ok true X := by
  obtain ⟨i, hi, hc⟩ := Option.map_eq_some_iff.1 cmp108
  obtain ⟨j, hj⟩ := Option.isSome_iff_exists.1 some128
  exact run_equalIn_iface_ptr_same X d pE Tryf.underlying28 Tryf.underlying108 hi hc hj
theorem eq_nil (pE : Addr) (X : World) : (binOp BinOp.eql 28 .nilIface (.iface 108 (.pointer (some pE)))).run Tryf.prog X = .ok (.bool false) X := by kernel_rfl
theorem ne_self (pE : Addr) (X : World) : (binOp BinOp.neq 28 (.iface 108 (.pointer (some pE))) (.iface 108 (.pointer (some pE)))).run Tryf.prog X = .ok (.bool false) X := by
  simp only [binOp]
  simp [Op.equal, Op.maxDepth, same108 9998 pE X]
theorem eq_self (pE : Addr) (X : World) : (binOp BinOp.eql 28 (.iface 108 (.pointer (some pE))) (.iface 108 (.pointer (some pE)))).run Tryf.prog X = .ok (.bool true) X := by
  simp only [binOp]
  simp [Op.equal, Op.maxDepth, same108 9998 pE X]

theorem Ch.of3 {w w' : World} {ro : Nat → Nat} {rb sb bb : Nat} (h : Fr3 w w' rb sb bb) (h1 : ro rb = 9) (h2 : ro sb = 10) (h3 : ro bb = 11) : Ch [9, 10, 11] w w' ro ro :=
  ⟨h.os, h.tape, h.output, by rw [h.size]; exact Nat.le_refl _, fun k hk hn => h.block k (fun e => hn (by rw [e, h1]; simp)) (fun e => hn (by rw [e, h2]; simp)) (fun e => hn (by rw [e, h3]; simp)), fun _ _ => rfl⟩
theorem Rd.ch {w w' : World} {ro ro' : Nat → Nat} {S : List Nat} {rb sb bb j : Nat} {s : ByteArray} (h : Rd w rb sb bb s j) (c : Ch S w w' ro ro') (h1 : ro rb ∉ S) (h2 : ro sb ∉ S) (h3 : ro bb ∉ S) : Rd w' rb sb bb s j := by
  obtain ⟨r, k, pos, lb, M, h⟩ := h
  exact ⟨r, k, pos, lb, M, { h with rd := c.heap h.rd h1, sr := c.heap h.sr h2, bf := c.heap h.bf h3 }⟩
/-- Line and column, or the token, written anew. -/
theorem St.setPar {w : World} {ro : Nat → Nat} {N pb hb mt mi rb : Nat} {line col : Int} {vt vo vx vi : Value} {la : Nat} {ps : Pl.PS} (h : St w ro N pb hb mt mi rb line col vt vo vx vi la ps) (line' col' : Int) (vt' : Value) (i : Nat) (v : Value)
    (hc : #[Value.pointer (some ⟨rb, 0, none⟩), .int .i64 line', .int .i64 col', vt', .pointer (some ⟨hb, 0, none⟩), .map (some mt), .map (some mi), .int .i32 la] = #[Value.pointer (some ⟨rb, 0, none⟩), .int .i64 line, .int .i64 col, vt, .pointer (some ⟨hb, 0, none⟩), .map (some mt), .map (some mi), .int .i32 la].setIfInBounds i v) :
    St (w.setCell ⟨pb, i, none⟩ v) ro N pb hb mt mi rb line' col' vt' vo vx vi la ps ∧ Ch [1] w (w.setCell ⟨pb, i, none⟩ v) ro ro := by
  have c : Ch [1] w (w.setCell ⟨pb, i, none⟩ v) ro ro := Ch.setCell w ro _ _ h.r1
  obtain ⟨D1, o1, n1⟩ := h.mT
  obtain ⟨D2, o2, n2⟩ := h.mI
  refine ⟨?_, c⟩
  exact
    { par := by rw [setCell_eq_setRow w pb i _ _ (0, 0) _ h.par]; unfold parCells; rw [hc]; exact setRow_heap w pb _ _ 58 (0, 0) h.par
      his := c.heap h.his (by rw [h.r2]; decide)
      ops := c.row h.ops (fun g hg => by rw [h.r5 g hg]; decide)
      txs := c.row h.txs (fun g hg => by rw [h.r6 g hg]; decide)
      its := c.row h.its (fun g hg => by rw [h.r7 g hg]; decide)
      mT := ⟨D1, c.map o1 (by rw [h.r3]; decide), n1⟩
      mI := ⟨D2, c.map o2 (by rw [h.r4]; decide), n2⟩
      r1 := h.r1, r2 := h.r2, r3 := h.r3, r4 := h.r4, r5 := h.r5, r6 := h.r6, r7 := h.r7
      siz := Nat.le_trans h.siz c.size
      inv := h.inv
      la := h.la }

abbrev S11 : List Nat := [1, 2, 3, 4, 5, 6, 7, 8, 9, 10, 11]
/-- The parser's loop: j bytes read, tok half read, the state ps. -/
structure PI (w wr : World) (ro ro' : Nat → Nat) (N pb hb mt mi rb sb bb : Nat) (s : ByteArray) (line col : Int) (vt vo vx vi : Value) (la : Nat) (ps fin : Pl.PS) (j : Nat) (tok : List UInt8) : Prop where
  ch : Ch S11 w wr ro ro'
  st : St wr ro' N pb hb mt mi rb line col vt vo vx vi la ps
  rd : Rd wr rb sb bb s j
  r9 : ro' rb = 9
  r10 : ro' sb = 10
  r11 : ro' bb = 11
  tk : wr.ownsRow N 5 1 vt tok.length (bytesV tok)
  r8 : ∀ g, vt.ownBlock = some g → ro' g = 8
  pf : Pl.PF (s.data.toList.drop j) tok ps fin
  cnt : ps.ops.length + tok.length ≤ j
  nn : ps.nums.length ≤ ps.ops.length
  ii : ps.items.length ≤ ps.ops.length
  jl : j ≤ s.size
  l0 : 0 ≤ line
  l1 : line ≤ j + 1
  c0 : 0 ≤ col
  c1 : col ≤ j + 1

theorem row_SlB {w : World} {N g n cap : Nat} {tok : List UInt8} (h : w.ownsRow N 5 1 (.slice (some ⟨g, 0, none⟩) n cap) n (bytesV tok)) : SlB w g 0 tok := fun i hi => by
  have hl : tok.length = n * 1 := by rw [← h.1, bytesV_len]
  rw [Nat.zero_add, h.cellAt i (by omega)]
  unfold bytesV
  rw [List.getElem?_map, List.getElem?_eq_getElem hi, List.getD_eq_getElem?_getD, List.getElem?_eq_getElem hi]
  rfl
theorem row_cap {w : World} {N g n cap : Nat} {xs : List Value} (h : w.ownsRow N 5 1 (.slice (some ⟨g, 0, none⟩) n cap) n xs) : n ≤ cap := by
  rcases h.2 with ⟨h', _⟩ | ⟨g', cap', cur, h', _, _, hc, _⟩
  · simp at h'
  · simp only [Value.slice.injEq, Option.some.injEq, Addr.mk.injEq, and_true, true_and] at h'
    obtain ⟨_, rfl⟩ := h'
    exact hc
theorem row_reset {w : World} {N g n cap : Nat} {xs : List Value} (h : w.ownsRow N 5 1 (.slice (some ⟨g, 0, none⟩) n cap) n xs) : w.ownsRow N 5 1 (.slice (some ⟨g, 0, none⟩) 0 cap) 0 (bytesV []) := by
  rcases h.2 with ⟨h', _⟩ | ⟨g', cap', cur, h', hb, hg, hc, hm, hs, _⟩
  · simp at h'
  · simp only [Value.slice.injEq, Option.some.injEq, Addr.mk.injEq, and_true, true_and] at h'
    obtain ⟨rfl, rfl⟩ := h'
    exact ⟨rfl, .inr ⟨g, cap, cur, rfl, hb, hg, Nat.zero_le _, hm, hs, by simp [bytesV]⟩⟩
theorem addP_len (ps : Pl.PS) (o : Pl.Op3) (h1 : ps.nums.length ≤ ps.ops.length) (h2 : ps.items.length ≤ ps.ops.length) :
    (Pl.addP ps o).ops.length = ps.ops.length + 1 ∧ (Pl.addP ps o).nums.length ≤ (Pl.addP ps o).ops.length ∧ (Pl.addP ps o).items.length ≤ (Pl.addP ps o).ops.length := by
  have e : (Pl.addP ps o).ops.length = ps.ops.length + 1 := by rw [Pl.addP_ops]; simp
  refine ⟨e, ?_, ?_⟩
  · rw [e, Pl.addP_nums]
    unfold Pl.numsOf
    split
    · omega
    · simp; omega
  · rw [e]
    unfold Pl.addP Pl.itemsOf
    split
    · split
      · show ps.items.length ≤ _; omega
      · show (ps.items ++ [o.it]).length ≤ _; simp; omega
    · show ps.items.length ≤ _; omega

section
variable {w wr : World} {ro ro' : Nat → Nat} {N pb hb mt mi rb sb bb : Nat} {s : ByteArray} {line col : Int} {vt vo vx vi : Value} {la : Nat} {ps fin : Pl.PS} {j : Nat} {tok : List UInt8}
/-- Behind the reading of a byte: all but the reader is as it was. -/
theorem PI.read (h : PI w wr ro ro' N pb hb mt mi rb sb bb s line col vt vo vx vi la ps fin j tok) {w1 : World} (f : Fr3 wr w1 rb sb bb) :
    Ch [9, 10, 11] wr w1 ro' ro' ∧ Ch S11 w w1 ro ro' ∧ St w1 ro' N pb hb mt mi rb line col vt vo vx vi la ps ∧ w1.ownsRow N 5 1 vt tok.length (bytesV tok) := by
  have c := Ch.of3 (ro := ro') f h.r9 h.r10 h.r11
  exact ⟨c, h.ch.trans (c.mono (by simp)), h.st.other c (by simp), c.row h.tk (fun g hg => by rw [h.r8 g hg]; decide)⟩
/-- A byte taken into the token. -/
theorem PI.take (h : PI w wr ro ro' N pb hb mt mi rb sb bb s line col vt vo vx vi la ps fin j tok) {w1 w4 : World} {v' : Value} (f : Fr3 wr w1 rb sb bb) (hr : Rd w1 rb sb bb s (j + 1)) (hj : j < s.size) (b : UInt8) (hb' : s.data.toList.getD j 0 = b) (he : Pl.endsB b = false)
    (hown : w4.ownsRow N 5 1 v' (tok.length + 1) (bytesV tok ++ bytesV [b])) (hgr : (w1.alloc (.cells #[byteV b] 5)).grownBy w4 vt.ownBlock) (hat : v'.ownBlock = vt.ownBlock ∨ v'.ownBlock = some (w1.alloc (.cells #[byteV b] 5)).heap.size) :
    ∃ ro4, PI w ((w4.setCell ⟨pb, 3, none⟩ v').setCell ⟨pb, 2, none⟩ (.int .i64 (col + 1))) ro ro4 N pb hb mt mi rb sb bb s line (col + 1) v' vo vx vi la ps fin (j + 1) (tok ++ [b]) := by
  obtain ⟨c1, c01, st1, tk1⟩ := h.read f
  have ca : Ch [] w1 (w1.alloc (.cells #[byteV b] 5)) ro' (newRole ro' w1.heap.size 0) := Ch.alloc w1 ro' 0 _
  have hlt : ∀ g, vt.ownBlock = some g → g < w1.heap.size := fun g hg => (tk1.lt g hg).2
  have hsz : w1.heap.size ≤ (w1.alloc (.cells #[byteV b] 5)).heap.size := ca.size
  have cp := Ch.append (c := 8) (ro := newRole ro' w1.heap.size 0) hgr (fun g hg => by rw [newRole_old (hlt g hg)]; exact h.r8 g hg) hat (fun g hg => Nat.lt_of_lt_of_le (hlt g hg) hsz)
  have hr8 := cp.2
  have c8 : Ch [8] w1 w4 ro' (newRole (newRole ro' w1.heap.size 0) (w1.alloc (.cells #[byteV b] 5)).heap.size 8) := (ca.mono (by simp)).trans cp.1
  generalize newRole (newRole ro' w1.heap.size 0) (w1.alloc (.cells #[byteV b] 5)).heap.size 8 = ro4 at c8 hr8
  have st4 := st1.other c8 (by simp)
  obtain ⟨st5, c5⟩ := st4.setPar line col v' 3 v' rfl
  obtain ⟨st6, c6⟩ := st5.setPar line (col + 1) v' 2 (.int .i64 (col + 1)) rfl
  have c56 : Ch [1] w4 ((w4.setCell ⟨pb, 3, none⟩ v').setCell ⟨pb, 2, none⟩ (.int .i64 (col + 1))) ro4 ro4 := c5.trans c6
  have c16 : Ch [1, 8] w1 ((w4.setCell ⟨pb, 3, none⟩ v').setCell ⟨pb, 2, none⟩ (.int .i64 (col + 1))) ro' ro4 := (c8.mono (by simp)).trans (c56.mono (by simp))
  obtain ⟨r, k, pos, lb, M, hR⟩ := hr
  have hd : s.data.toList.drop j = b :: s.data.toList.drop (j + 1) := by
    have hx : j < s.data.toList.length := by rw [bs_len]; exact hj
    rw [List.drop_eq_getElem_cons hx, ← hb', List.getD_eq_getElem?_getD, List.getElem?_eq_getElem hx]; rfl
  have hp := h.pf
  rw [hd] at hp
  obtain ⟨hp1, hp2⟩ := hp
  rw [if_neg (by rw [he]; decide)] at hp2
  refine ⟨ro4, ?_⟩
  exact
    { ch := c01.trans (c16.mono (by simp))
      st := st6
      rd := Rd.ch ⟨r, k, pos, lb, M, hR⟩ c16 (by rw [h.r9]; decide) (by rw [h.r10]; decide) (by rw [h.r11]; decide)
      r9 := c16.role' hR.rd h.r9
      r10 := c16.role' hR.sr h.r10
      r11 := c16.role' hR.bf h.r11
      tk := by
        rw [List.length_append, bytesV_app]
        exact c56.row hown (fun g hg => by rw [hr8 g hg]; decide)
      r8 := hr8
      pf := hp2
      cnt := by have := h.cnt; simp; omega
      nn := h.nn
      ii := h.ii
      jl := hj
      l0 := h.l0
      l1 := by have := h.l1; omega
      c0 := by have := h.c0; omega
      c1 := by have := h.c1; omega }
/-- A byte between tokens. -/
theorem PI.skip (h : PI w wr ro ro' N pb hb mt mi rb sb bb s line col vt vo vx vi la ps fin j tok) {w1 : World} (f : Fr3 wr w1 rb sb bb) (hr : Rd w1 rb sb bb s (j + 1)) (hj : j < s.size) (ht : tok = []) (b : UInt8) (hb' : s.data.toList.getD j 0 = b) (he : Pl.endsB b = true) :
    PI w w1 ro ro' N pb hb mt mi rb sb bb s line col vt vo vx vi la ps fin (j + 1) [] := by
  obtain ⟨c1, c01, st1, tk1⟩ := h.read f
  subst ht
  have hd : s.data.toList.drop j = b :: s.data.toList.drop (j + 1) := by
    have hx : j < s.data.toList.length := by rw [bs_len]; exact hj
    rw [List.drop_eq_getElem_cons hx, ← hb', List.getD_eq_getElem?_getD, List.getElem?_eq_getElem hx]; rfl
  have hp := h.pf
  rw [hd] at hp
  obtain ⟨hp1, hp2⟩ := hp
  rw [if_pos he] at hp2
  have hp3 : Pl.PF (s.data.toList.drop (j + 1)) [] ps fin := by
    rcases hp2 with ⟨_, hp3⟩ | ⟨hp3, _⟩
    · exact hp3
    · exact absurd rfl hp3
  exact
    { ch := c01, st := st1, rd := hr, r9 := h.r9, r10 := h.r10, r11 := h.r11, tk := tk1, r8 := h.r8, pf := hp3
      cnt := by have := h.cnt; omega
      nn := h.nn, ii := h.ii, jl := hj, l0 := h.l0
      l1 := by have := h.l1; omega
      c0 := h.c0
      c1 := by have := h.c1; omega }
/-- Line and column behind a byte that ends tokens. -/
theorem PI.setLC (h : PI w wr ro ro' N pb hb mt mi rb sb bb s line col vt vo vx vi la ps fin j []) (line' col' : Int) (wx : World) (hst : St wx ro' N pb hb mt mi rb line' col' vt vo vx vi la ps) (c : Ch [1] wr wx ro' ro') (h1 : 0 ≤ line' ∧ line' ≤ j + 1) (h2 : 0 ≤ col' ∧ col' ≤ j + 1) :
    PI w wx ro ro' N pb hb mt mi rb sb bb s line' col' vt vo vx vi la ps fin j [] :=
  { ch := h.ch.trans (c.mono (by simp)), st := hst, rd := h.rd.ch c (by rw [h.r9]; decide) (by rw [h.r10]; decide) (by rw [h.r11]; decide), r9 := h.r9, r10 := h.r10, r11 := h.r11
    tk := c.row h.tk (fun g hg => by rw [h.r8 g hg]; decide), r8 := h.r8, pf := h.pf, cnt := h.cnt, nn := h.nn, ii := h.ii, jl := h.jl, l0 := h1.1, l1 := h1.2, c0 := h2.1, c1 := h2.2 }
end

/-- A token ended by a byte. -/
theorem PI.added {w wr w2 : World} {ro ro' ro2 : Nat → Nat} {N pb hb mt mi rb sb bb : Nat} {s : ByteArray} {line col : Int} {g tc : Nat} {vo vx vi vo2 vx2 vi2 : Value} {la la2 : Nat} {ps fin : Pl.PS} {j : Nat} {tok : List UInt8} {o : Pl.Op3}
    (h : PI w wr ro ro' N pb hb mt mi rb sb bb s line col (.slice (some ⟨g, 0, none⟩) tok.length tc) vo vx vi la ps fin j tok) {w1 : World} (f : Fr3 wr w1 rb sb bb) (hr : Rd w1 rb sb bb s (j + 1)) (hj : j < s.size) (ht : tok ≠ [])
    (hpf : Pl.PF (s.data.toList.drop (j + 1)) [] (Pl.addP ps o) fin)
    (c2 : Ch [1, 2, 3, 4, 5, 6, 7] w1 w2 ro' ro2) (hs2 : St w2 ro2 N pb hb mt mi rb line col (.slice (some ⟨g, 0, none⟩) tok.length tc) vo2 vx2 vi2 la2 (Pl.addP ps o)) :
    PI w (w2.setCell ⟨pb, 3, none⟩ (.slice (some ⟨g, 0, none⟩) 0 tc)) ro ro2 N pb hb mt mi rb sb bb s line col (.slice (some ⟨g, 0, none⟩) 0 tc) vo2 vx2 vi2 la2 (Pl.addP ps o) fin (j + 1) [] := by
  obtain ⟨c1, c01, st1, tk1⟩ := h.read f
  obtain ⟨st3, c3⟩ := hs2.setPar line col (.slice (some ⟨g, 0, none⟩) 0 tc) 3 (.slice (some ⟨g, 0, none⟩) 0 tc) rfl
  have c13 : Ch [1, 2, 3, 4, 5, 6, 7] w1 (w2.setCell ⟨pb, 3, none⟩ (.slice (some ⟨g, 0, none⟩) 0 tc)) ro' ro2 := c2.trans (c3.mono (by simp))
  obtain ⟨r, k, pos, lb, M, hR⟩ := hr
  have hg8 := h.r8 g rfl
  obtain ⟨e1, e2, e3⟩ := addP_len ps o h.nn h.ii
  have hl : 1 ≤ tok.length := List.length_pos_iff.2 ht
  have tk2 := c13.row tk1 (fun g' hg' => by rw [h.r8 g' hg']; decide)
  exact
    { ch := c01.trans (c13.mono (by simp))
      st := st3
      rd := Rd.ch ⟨r, k, pos, lb, M, hR⟩ c13 (by rw [h.r9]; decide) (by rw [h.r10]; decide) (by rw [h.r11]; decide)
      r9 := c13.role' hR.rd h.r9
      r10 := c13.role' hR.sr h.r10
      r11 := c13.role' hR.bf h.r11
      tk := row_reset tk2
      r8 := fun g' hg' => by cases hg'; exact (c13.role g (tk1.lt g rfl).2).trans hg8
      pf := hpf
      cnt := by have := h.cnt; rw [e1]; simp; omega
      nn := e2
      ii := e3
      jl := hj
      l0 := h.l0
      l1 := by have := h.l1; omega
      c0 := h.c0
      c1 := by have := h.c1; omega }

def ParsePost (w : World) (ro : Nat → Nat) (N pb hb mt mi rb : Nat) (fin : Pl.PS) (e : Ending) (w' : World) : Prop :=
  e = .returned .nilIface ∧ ∃ ro' line col vt vo vx vi la, Ch S11 w w' ro ro' ∧ St w' ro' N pb hb mt mi rb line col vt vo vx vi la fin

set_option maxHeartbeats 8000000 in
set_option maxRecDepth 100000 in
theorem parse_any (w : World) (ro : Nat → Nat) (N pb hb mt mi rb sb bb : Nat) (s : ByteArray) (line col : Int) (vt vo vx vi : Value) (la : Nat) (ps fin : Pl.PS) (pE : Addr)
    (h : PI w w ro ro N pb hb mt mi rb sb bb s line col vt vo vx vi la ps fin 0 []) (h1 : rb ≠ sb) (h2 : rb ≠ bb) (h3 : sb ≠ bb) (hs : s.size ≤ 1048576)
    (hE : w.cell? ⟨0, 0, none⟩ = some (.iface 108 (.pointer (some pE)))) (hE0 : rb ≠ 0 ∧ sb ≠ 0 ∧ bb ≠ 0) (hr0 : ro 0 ∉ S11) :
    Calls Tryf.prog 13 #[.pointer (some ⟨pb, 0, none⟩)] w fun e w' => ParsePost w ro N pb hb mt mi rb fin e w' := by
  obtain ⟨i0, hi, hz0, hz1, hz2⟩ := info_parts info5
  have H : Hid (PI w w ro ro N pb hb mt mi rb sb bb s line col vt vo vx vi la ps fin 0 []) := h
  have HE : Hid (∀ X ro', Ch S11 w X ro ro' → X.cell? ⟨0, 0, none⟩ = some (.iface 108 (.pointer (some pE)))) := fun X ro' c =>
    (World.cell?_of_block (a := ⟨0, 0, none⟩) (c.block 0 (World.block_lt_of_cell? w ⟨0, 0, none⟩ hE) hr0)).trans hE
  clear h hE
  go_enter Tryf.func13, Tryf.ntmps13
  go_wp2_with fail
  go_loopg [] s.size (fun k wr => ∃ ro' line col vt vo vx vi la ps j tok, k = s.size - j ∧ PI w wr ro ro' N pb hb mt mi rb sb bb s line col vt vo vx vi la ps fin j tok)
  case atStart => exact ⟨ro, line, col, vt, vo, vx, vi, la, ps, 0, [], rfl, H.out⟩
  case round =>
    clear H
    obtain ⟨ro', line', col', vt', vo', vx', vi', la', ps', j, tok, rfl, hP⟩ := hrel
    have HP : Hid (PI w wr ro ro' N pb hb mt mi rb sb bb s line' col' vt' vo' vx' vi' la' ps' fin j tok) := hP
    obtain ⟨c0, _, _, _, _, _, _, _⟩ := hP.st.c
    have hjl := hP.jl
    clear hP
    go_wp2_with fail
    refine (readByte_any rb sb bb j s _ wr HP.out.rd h1 h2 h3 (by omega) (HE.out wr ro' HP.out.ch) hE0 ⟨_, _, rfl⟩).mono ?_
    rintro e w1 ⟨hf, hA, hB⟩
    have HF : Hid (Fr3 wr w1 rb sb bb) := hf
    have q0 : w1.cell? ⟨0, 0, none⟩ = some (.iface 108 (.pointer (some pE))) := HE.out w1 ro' (HP.out.read hf).2.1
    have hst1 := (HP.out.read hf).2.2.1
    obtain ⟨k0, k1, k2, k3, k4, _, _, _⟩ := hst1.c
    have m1 := hst1.fp 1
    have m2 := hst1.fp 2
    have m3 := hst1.fp 3
    have hvt : ∃ oa cap, vt' = .slice oa tok.length cap := by
      rcases HP.out.tk.2 with ⟨hv, h0⟩ | ⟨g, cap, cur, hv, _⟩
      · exact ⟨none, 0, by rw [hv, h0]⟩
      · exact ⟨_, cap, hv⟩
    obtain ⟨oa, tc, rfl⟩ := hvt
    have hl0 := HP.out.l0
    have hl1 := HP.out.l1
    have hc0 := HP.out.c0
    have hc1 := HP.out.c1
    clear hf hst1 c0
    by_cases hj : j < s.size
    case neg =>
      obtain rfl := hB (by omega)
      clear hA hB
      have hqe := eq_self pE
      have hqs := ne_self pE
      have HMID : Hid (w1.ownsRow N 5 1 (.slice oa tok.length tc) tok.length (bytesV tok) ∧ St w1 ro' N pb hb mt mi rb line' col' (.slice oa tok.length tc) vo' vx' vi' la' ps' ∧ Ch S11 w w1 ro ro') := ⟨(HP.out.read HF.out).2.2.2, (HP.out.read HF.out).2.2.1, (HP.out.read HF.out).2.1⟩
      have hd : s.data.toList.drop j = [] := List.drop_eq_nil_of_le (by rw [bs_len]; omega)
      have hp := HP.out.pf
      rw [hd] at hp
      have HPP : Hid ((tok = [] ∧ ps' = fin) ∨ (tok ≠ [] ∧ Pl.AddOk tok ps' fin)) := hp
      clear hp hd
      go_upto_if 68 with fail
      go_cut [] from 68 to 118 (fun wx => ∃ ro2 vt2 vo2 vx2 vi2 la2, Ch S11 w wx ro ro2 ∧ St wx ro2 N pb hb mt mi rb line' col' vt2 vo2 vx2 vi2 la2 fin)
      case first =>
        rcases HPP.out with ⟨ht, hfin⟩ | ⟨ht, o, hok, htk, hen, hfin⟩
        · subst ht
          have HFIN : Hid (ps' = fin) := hfin
          clear hfin HPP
          go_wp2_with fail
          go_meet
          exact ⟨_, _, _, _, _, _, HMID.out.2.2, HFIN.out ▸ HMID.out.2.1⟩
        · subst htk
          have hl : 0 < (Pl.tokOf o).length := List.length_pos_iff.2 ht
          obtain ⟨g, cap, hv, _, hgl⟩ := HMID.out.1.form hl
          obtain ⟨rfl, rfl⟩ : oa = some ⟨g, 0, none⟩ ∧ tc = cap := by
            simp only [Value.slice.injEq, true_and] at hv
            exact hv
          have hrow := HMID.out.1
          have hcnt := HP.out.cnt
          have hIt : o.k ≤ 2 → o.it.length ≤ 1048576 := fun hk => by
            have := tok_len o
            rw [if_pos hk] at this
            omega
          have HADD : Hid (Calls Tryf.prog 17 #[.pointer (some ⟨pb, 0, none⟩)] w1 fun e w' => AddPost w1 ro' N pb hb mt mi rb line' col' (.slice (some ⟨g, 0, none⟩) (Pl.tokOf o).length tc) (Pl.addP ps' o) e w') :=
            add_any w1 ro' N pb hb mt mi rb line' col' vo' vx' vi' la' ps' o g tc HMID.out.2.1 hok (row_SlB hrow) (row_cap hrow) hgl (HP.out.r8 g rfl) hIt hen (by omega) HP.out.nn HP.out.ii
          have HFIN : Hid (fin = Pl.addP ps' o) := hfin
          clear hrow hok hen ht hIt hv hfin HPP
          go_wp2_with fail
          refine HADD.out.mono ?_
          rintro e w2 ⟨rfl, ro2, vo2, vx2, vi2, la2, hc2, hs2⟩
          obtain ⟨_, _, _, x3, _, _, _, _⟩ := hs2.c
          have xf := hs2.fp 3
          have HC2 : Hid (_) := hc2
          have HS2 : Hid (_) := hs2
          clear hc2 hs2
          go_wp2_with fail
          go_meet
          obtain ⟨st3, c3⟩ := HS2.out.setPar line' col' (.slice (some ⟨g, 0, none⟩) 0 tc) 3 (.slice (some ⟨g, 0, none⟩) 0 tc) rfl
          exact ⟨_, _, _, _, _, _, (HMID.out.2.2.trans (HC2.out.mono (by simp))).trans (c3.mono (by simp)), HFIN.out ▸ st3⟩
      case rest =>
        obtain ⟨ro2, vt2, vo2, vx2, vi2, la2, hc2, hs2⟩ := hcut
        have y0 : wc.cell? ⟨0, 0, none⟩ = some (.iface 108 (.pointer (some pE))) := HE.out wc ro2 hc2
        have HC2 : Hid (_) := hc2
        have HS2 : Hid (_) := hs2
        clear hc2 hs2 q0 k0 k1 k2 k3 k4 m1 m2 m3 HMID
        go_wp2_with fail
        go_ret
        exact ⟨rfl, ro2, line', col', vt2, vo2, vx2, vi2, la2, HC2.out, HS2.out⟩
    case pos =>
      obtain ⟨rfl, hr1⟩ := hA hj
      obtain ⟨b, hb⟩ : ∃ b : UInt8, s.data.toList.getD j 0 = b := ⟨_, rfl⟩
      rw [hb]
      have HBY : Hid (s.data.toList.getD j 0 = b) := hb
      have HR1 : Hid (Rd w1 rb sb bb s (j + 1)) := hr1
      clear hA hB hb hr1
      have hbl : (b.toNat : Int) < 256 := by have := b.toNat_lt; omega
      unfold byteV
      cases he : Pl.endsB b
      · have HK : Hid (∀ X : World, Dr w1 X → Fr3 wr X rb sb bb ∧ Rd X rb sb bb s (j + 1) ∧ X.ownsRow N 5 1 (.slice oa tok.length tc) tok.length (bytesV tok) ∧ X.cell? ⟨pb, 3, none⟩ = some (.slice oa tok.length tc)) := fun X hX => by
          refine ⟨HF.out.trans (Fr3.dr hX), ?_, ?_, ?_⟩
          · obtain ⟨n, rfl⟩ := hX; obtain ⟨r, k, pos, lb, M, hR⟩ := HR1.out; exact ⟨r, k, pos, lb, M, { hR with }⟩
          · obtain ⟨n, rfl⟩ := hX; exact (HP.out.read HF.out).2.2.2
          · obtain ⟨n, rfl⟩ := hX; exact k3
        have HK2 : Hid (∀ X w4 : World, Dr w1 X → (X.alloc (.cells #[byteV b] 5)).grownBy w4 (Value.slice oa tok.length tc).ownBlock → w4.cell? ⟨pb, 3, none⟩ = some (.slice oa tok.length tc) ∧ w4.frozen? ⟨pb, 3, none⟩ = false ∧ w4.cell? ⟨pb, 2, none⟩ = some (.int .i64 col') ∧ w4.frozen? ⟨pb, 2, none⟩ = false) := fun X w4 hX hg => by
          have hh : X.heap = w1.heap := by obtain ⟨n, rfl⟩ := hX; rfl
          have hpl : pb < X.heap.size := by rw [hh]; exact World.block_lt_of_cell? w1 ⟨pb, 3, none⟩ k3
          have hne : some pb ≠ (Value.slice oa tok.length tc).ownBlock := fun e => by
            have h5 := HP.out.r8 pb e.symm
            rw [HP.out.st.r1] at h5
            cases h5
          have e1 : w4.heap[pb]? = w1.heap[pb]? := ((hg.block pb (by simp; omega) hne).trans (heap_alloc_old X _ hpl)).trans (by rw [hh])
          exact ⟨(World.cell?_of_block e1).trans k3, (World.frozen?_of_block e1).trans m3, (World.cell?_of_block e1).trans k2, (World.frozen?_of_block e1).trans m2⟩
        have hNw : N ≤ w1.heap.size := (HP.out.read HF.out).2.2.1.siz
        have hcnt := HP.out.cnt
        clear m1 m2 m3 k0 k4 q0
        go_upto_if 37 with (go_at_call 16; refine (ends_any b _).mono ?_; rintro e w' ⟨rfl, hw⟩; subst hw; rw [he])
        go_cut [] from 37 to 118 (fun wx => Dr w1 wx)
        case first =>
          by_cases ht : tok.length = 0
          · have e1 : ((tok.length : Int) == 0) = true := beq_iff_eq.2 (by omega)
            go_wp2_with fail
            go_quiet (fail)
            go_wp2_with fail
            go_meet
            exact ⟨nq, rfl⟩
          · have e1 : ((tok.length : Int) == 0) = false := beq_eq_false_iff_ne.2 (by omega)
            go_wp2_with fail
            go_meet
            exact Dr.refl _
        case rest =>
          obtain ⟨y1, y2, y3, y4⟩ := HK.out wc hcut
          have HY3 : Hid (_) := y3
          have HD : Hid (Dr w1 wc) := hcut
          have HY1 : Hid (_) := y1
          have HY2 : Hid (_) := y2
          have hNc : N ≤ (wc.alloc (.cells #[byteV b] 5)).heap.size := by
            obtain ⟨n, rfl⟩ := hcut
            simp
            omega
          have HNC : Hid (_) := hNc
          have HO : Hid ((wc.alloc (.cells #[byteV b] 5)).ownsRow N 5 1 (.slice oa tok.length tc) tok.length (bytesV tok)) := y3.alloc _
          have HB1 : Hid (∀ j u, (bytesV [b])[j]? = some u → (wc.alloc (.cells #[byteV b] 5)).cell? ((⟨wc.heap.size, 0, none⟩ : Addr).add j) = some u) := World.news_of_block (cs := #[byteV b]) (heap_alloc_new wc _)
          clear y1 y2 y3 hcut hNc k1 k2 k3 hNw
          go_wp2_with (at_builtin; refine wpList_append_lies _ rfl (.tmp 50) (.tmp 52) 22 rfl N 5 i0 (.int .u8 0) 1 1 Tryf.underlying22 hi hz0 hz1 hz2 rfl (by decide) (.slice oa tok.length tc) tok.length (bytesV tok) rfl HO.out ⟨wc.heap.size, 0, none⟩ 1 1 (bytesV [b]) rfl rfl HB1.out (bytesV_one _) (by decide) (by unfold maxLen; omega) (by omega) HNC.out _ rfl ?_; intro g cap2 w4 hown hgr hat hlt; obtain ⟨z3, zf3, z2, zf2⟩ := HK2.out wc w4 HD.out hgr)
          obtain ⟨ro4, hP4⟩ := PI.take HP.out HY1.out HY2.out hj b HBY.out he hown hgr (hat.elim (fun e => .inl (by rw [e]; rfl)) (fun e => .inr (by rw [e]; rfl)))
          go_roundg (s.size - (j + 1))
          case measure => omega
          case rel => exact ⟨ro4, _, _, _, _, _, _, _, _, j + 1, tok ++ [b], rfl, hP4⟩
      · have HMID : Hid (w1.ownsRow N 5 1 (.slice oa tok.length tc) tok.length (bytesV tok) ∧ St w1 ro' N pb hb mt mi rb line' col' (.slice oa tok.length tc) vo' vx' vi' la' ps') := ⟨(HP.out.read HF.out).2.2.2, (HP.out.read HF.out).2.2.1⟩
        go_upto_if 68 with (go_at_call 16; refine (ends_any b _).mono ?_; rintro e w' ⟨rfl, hw⟩; subst hw; rw [he])
        go_cut [] from 68 to 118 (fun wx => ∃ ro2 vt2 vo2 vx2 vi2 la2 ps2, PI w wx ro ro2 N pb hb mt mi rb sb bb s line' col' vt2 vo2 vx2 vi2 la2 ps2 fin (j + 1) [])
        case first =>
          by_cases ht : tok = []
          · have HSK : Hid (PI w w1 ro ro' N pb hb mt mi rb sb bb s line' col' (.slice oa tok.length tc) vo' vx' vi' la' ps' fin (j + 1) []) := HP.out.skip HF.out HR1.out hj ht b HBY.out he
            subst ht
            clear HMID HP
            go_wp2_with fail
            go_meet
            exact ⟨_, _, _, _, _, _, _, HSK.out⟩
          · have hl : 0 < tok.length := List.length_pos_iff.2 ht
            have hd : s.data.toList.drop j = b :: s.data.toList.drop (j + 1) := by
              have hx : j < s.data.toList.length := by rw [bs_len]; exact hj
              rw [List.drop_eq_getElem_cons hx, ← HBY.out, List.getD_eq_getElem?_getD, List.getElem?_eq_getElem hx]; rfl
            have hp := HP.out.pf
            rw [hd] at hp
            obtain ⟨hp1, hp2⟩ := hp
            rw [if_pos he] at hp2
            obtain ⟨ps2, ⟨o, hok, rfl, hen, rfl⟩, hpf⟩ : ∃ ps2, Pl.AddOk tok ps' ps2 ∧ Pl.PF (s.data.toList.drop (j + 1)) [] ps2 fin := by
              rcases hp2 with ⟨h0, _⟩ | ⟨_, h0⟩
              · exact absurd h0 ht
              · exact h0
            obtain ⟨g, cap, hv, _, hgl⟩ := HMID.out.1.form hl
            obtain ⟨rfl, rfl⟩ : oa = some ⟨g, 0, none⟩ ∧ tc = cap := by
              simp only [Value.slice.injEq, true_and] at hv
              exact hv
            have hrow := HMID.out.1
            have hcnt := HP.out.cnt
            have hIt : o.k ≤ 2 → o.it.length ≤ 1048576 := fun hk => by
              have := tok_len o
              rw [if_pos hk] at this
              omega
            have HADD : Hid (Calls Tryf.prog 17 #[.pointer (some ⟨pb, 0, none⟩)] w1 fun e w' => AddPost w1 ro' N pb hb mt mi rb line' col' (.slice (some ⟨g, 0, none⟩) (Pl.tokOf o).length tc) (Pl.addP ps' o) e w') :=
              add_any w1 ro' N pb hb mt mi rb line' col' vo' vx' vi' la' ps' o g tc HMID.out.2 hok (row_SlB hrow) (row_cap hrow) hgl (HP.out.r8 g rfl) hIt hen (by omega) HP.out.nn HP.out.ii
            have HPF : Hid (_) := hpf
            have HT : Hid (Pl.tokOf o ≠ []) := ht
            clear hp2 hpf hrow hd hok hen ht hIt hv
            go_wp2_with fail
            refine HADD.out.mono ?_
            rintro e w2 ⟨rfl, ro2, vo2, vx2, vi2, la2, hc2, hs2⟩
            obtain ⟨_, _, _, x3, _, _, _, _⟩ := hs2.c
            have xf := hs2.fp 3
            have HC2 : Hid (_) := hc2
            have HS2 : Hid (_) := hs2
            clear hc2 hs2
            go_wp2_with fail
            go_meet
            exact ⟨_, _, _, _, _, _, _, PI.added HP.out HF.out HR1.out hj HT.out HPF.out HC2.out HS2.out⟩
        case rest =>
          obtain ⟨ro2, vt2, vo2, vx2, vi2, la2, ps2, hP2⟩ := hcut
          have HP2 : Hid (_) := hP2
          have y0 : wc.cell? ⟨0, 0, none⟩ = some (.iface 108 (.pointer (some pE))) := HE.out wc ro2 hP2.ch
          obtain ⟨_, x1, x2, _, _, _, _, _⟩ := hP2.st.c
          have xf1 := hP2.st.fp 1
          have xf2 := hP2.st.fp 2
          have hne35 : ((b.toNat : Int) == 35) = false := by
            have hd : s.data.toList.drop j = b :: s.data.toList.drop (j + 1) := by
              have hx : j < s.data.toList.length := by rw [bs_len]; exact hj
              rw [List.drop_eq_getElem_cons hx, ← HBY.out, List.getD_eq_getElem?_getD, List.getElem?_eq_getElem hx]; rfl
            have hp := HP.out.pf
            rw [hd] at hp
            refine beq_eq_false_iff_ne.2 (fun e => hp.1 ?_)
            apply UInt8.toNat_inj.1
            have : b.toNat = 35 := by omega
            rw [this]; rfl
          have hqn := eq_nil pE
          clear hP2 q0 k0 k1 k2 k3 k4 m1 m2 m3 HMID
          by_cases hb10 : b.toNat = 10
          · have e10 : ((b.toNat : Int) == 10) = true := beq_iff_eq.2 (by omega)
            go_wp2_with fail
            obtain ⟨st3, c3⟩ := HP2.out.st.setPar (line' + 1) col' vt2 1 (.int .i64 (line' + 1)) rfl
            obtain ⟨st4, c4⟩ := st3.setPar (line' + 1) 1 vt2 2 (.int .i64 1) rfl
            have hP3 := HP2.out.setLC (line' + 1) 1 _ st4 (c3.trans c4) ⟨by omega, by omega⟩ ⟨by omega, by omega⟩
            go_roundg (s.size - (j + 1))
            case measure => omega
            case rel => exact ⟨ro2, _, _, _, _, _, _, _, _, j + 1, [], rfl, hP3⟩
          · have e10 : ((b.toNat : Int) == 10) = false := beq_eq_false_iff_ne.2 (by omega)
            go_wp2_with fail
            obtain ⟨st3, c3⟩ := HP2.out.st.setPar line' (col' + 1) vt2 2 (.int .i64 (col' + 1)) rfl
            have hP3 := HP2.out.setLC line' (col' + 1) _ st3 c3 ⟨by omega, by omega⟩ ⟨by omega, by omega⟩
            go_roundg (s.size - (j + 1))
            case measure => omega
            case rel => exact ⟨ro2, _, _, _, _, _, _, _, _, j + 1, [], rfl, hP3⟩

end Go.Proofs.Qxb6609503aFmt
