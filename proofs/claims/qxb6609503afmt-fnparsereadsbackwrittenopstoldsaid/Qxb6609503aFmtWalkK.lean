import Derived.Test.Qxb6609503aFmtState
import Derived.Deep.AppendLies
import Derived.Deep.RegionLaw
import Derived.Deep.CutRange
import Derived.BigQuiet
namespace Go.Proofs.Qxb6609503aFmt
open Go.RowKit Go.PlainAid Go.Maps
set_option linter.unusedVariables false

theorem info43 : (Tryf.prog.info? 43).map (fun i => (i.zero, i.size, i.bytes)) = some (some (.agg #[.int .u8 0, .int .i32 0, .int .i32 0]), 3, 12) := by kernel_rfl
theorem info45 : (Tryf.prog.info? 45).map (fun i => (i.zero, i.size, i.bytes)) = some (some (.agg #[.int .u64 0, .int .u8 0]), 2, 16) := by kernel_rfl
theorem info9 : (Tryf.prog.info? 9).map (fun i => (i.zero, i.size, i.bytes)) = some (some (.string ⟨#[]⟩), 1, 16) := by kernel_rfl

/-- The state with transaction n among its numbers. -/
def withTxn (ps : Pl.PS) (n : Nat) : Pl.PS := { ps with nums := Pl.numsOf ps n, ends := Pl.endsOf ps n }
theorem withTxn_in {ps : Pl.PS} {n : Nat} (h : n ∈ ps.nums) : withTxn ps n = ps := by
  unfold withTxn Pl.numsOf Pl.endsOf
  rw [if_pos h, if_pos h]
theorem withTxn_new {ps : Pl.PS} {n : Nat} (h : n ∉ ps.nums) : withTxn ps n = { ps with nums := ps.nums ++ [n], ends := ps.ends ++ [0] } := by
  unfold withTxn Pl.numsOf Pl.endsOf
  rw [if_neg h, if_neg h]

def TxnPost (w : World) (ro : Nat → Nat) (N pb hb mt mi rb : Nat) (line col : Int) (vt vo vi : Value) (ps : Pl.PS) (n : Nat) (e : Ending) (w' : World) : Prop :=
  e = .returned (.int .i32 (ps.nums.idxOf n)) ∧ ∃ ro' vx' la', Ch [1, 2, 3, 6] w w' ro ro' ∧ St w' ro' N pb hb mt mi rb line col vt vo vx' vi la' (withTxn ps n)

section
variable {w : World} {ro : Nat → Nat} {N pb hb mt mi rb : Nat} {line col : Int} {vt vo vx vi : Value} {la : Nat} {ps : Pl.PS}
theorem St.c (h : St w ro N pb hb mt mi rb line col vt vo vx vi la ps) : w.cell? ⟨pb, 0, none⟩ = some (.pointer (some ⟨rb, 0, none⟩)) ∧ w.cell? ⟨pb, 1, none⟩ = some (.int .i64 line) ∧ w.cell? ⟨pb, 2, none⟩ = some (.int .i64 col) ∧ w.cell? ⟨pb, 3, none⟩ = some vt ∧ w.cell? ⟨pb, 4, none⟩ = some (.pointer (some ⟨hb, 0, none⟩)) ∧ w.cell? ⟨pb, 5, none⟩ = some (.map (some mt)) ∧ w.cell? ⟨pb, 6, none⟩ = some (.map (some mi)) ∧ w.cell? ⟨pb, 7, none⟩ = some (.int .i32 la) := by
  refine ⟨?_, ?_, ?_, ?_, ?_, ?_, ?_, ?_⟩ <;> (rw [cell_of_row w pb _ _ _ _ h.par]; rfl)
theorem St.d (h : St w ro N pb hb mt mi rb line col vt vo vx vi la ps) : w.cell? ⟨hb, 0, none⟩ = some vo ∧ w.cell? ⟨hb, 1, none⟩ = some vx ∧ w.cell? ⟨hb, 2, none⟩ = some vi := by
  refine ⟨?_, ?_, ?_⟩ <;> (rw [cell_of_row w hb _ _ _ _ h.his]; rfl)
theorem St.fp (h : St w ro N pb hb mt mi rb line col vt vo vx vi la ps) (i : Nat) : w.frozen? ⟨pb, i, none⟩ = false := frozen_of_row w pb i _ _ h.par
theorem St.fh (h : St w ro N pb hb mt mi rb line col vt vo vx vi la ps) (i : Nat) : w.frozen? ⟨hb, i, none⟩ = false := frozen_of_row w hb i _ _ h.his
end
theorem idx_of_at {l : List Nat} (hd : l.Nodup) {i n : Nat} (h : l[i]? = some n) : l.idxOf n = i := by
  obtain ⟨hi, rfl⟩ := List.getElem?_eq_some_iff.1 h
  exact List.Nodup.idxOf_getElem hd i hi
theorem idx_new {l : List Nat} {n : Nat} (h : n ∉ l) : l.idxOf n = l.length := List.idxOf_eq_length h
/-- The last transaction written anew. -/
theorem St.setLast {w : World} {ro : Nat → Nat} {N pb hb mt mi rb : Nat} {line col : Int} {vt vo vx vi : Value} {la : Nat} {ps : Pl.PS} (h : St w ro N pb hb mt mi rb line col vt vo vx vi la ps) (l : Nat) (hl : l < ps.nums.length) :
    St (w.setCell ⟨pb, 7, none⟩ (.int .i32 l)) ro N pb hb mt mi rb line col vt vo vx vi l ps ∧ Ch [1] w (w.setCell ⟨pb, 7, none⟩ (.int .i32 l)) ro ro := by
  have c : Ch [1] w (w.setCell ⟨pb, 7, none⟩ (.int .i32 l)) ro ro := Ch.setCell w ro _ _ h.r1
  obtain ⟨D1, o1, n1⟩ := h.mT
  obtain ⟨D2, o2, n2⟩ := h.mI
  refine ⟨?_, c⟩
  exact
    { par := by rw [setCell_eq_setRow w pb 7 _ _ (0, 0) _ h.par]; exact setRow_heap w pb _ _ 58 (0, 0) h.par
      his := c.heap h.his (by rw [h.r2]; decide)
      ops := c.row h.ops (fun g hg => by rw [h.r5 g hg]; decide)
      txs := c.row h.txs (fun g hg => by rw [h.r6 g hg]; decide)
      its := c.row h.its (fun g hg => by rw [h.r7 g hg]; decide)
      mT := ⟨D1, c.map o1 (by rw [h.r3]; decide), n1⟩
      mI := ⟨D2, c.map o2 (by rw [h.r4]; decide), n2⟩
      r1 := h.r1, r2 := h.r2, r3 := h.r3, r4 := h.r4, r5 := h.r5, r6 := h.r6, r7 := h.r7
      siz := Nat.le_trans h.siz c.size
      inv := h.inv
      la := .inl hl }

/-- A new transaction: the map has it, the row has grown, the history bears the row. -/
theorem St.newTxn {w w2 w4 : World} {ro : Nat → Nat} {N pb hb mt mi rb : Nat} {line col : Int} {vt vo vx vi : Value} {la n g cap : Nat} {ps : Pl.PS} (h : St w ro N pb hb mt mi rb line col vt vo vx vi la ps) (hn : n ∉ ps.nums)
    (c2 : Ch [3] w w2 ro ro) (hm : ∃ D', OwnN w2 mt (ps.nums.length + 1) D' ∧ Numb nlit D' (ps.nums ++ [n]))
    (hown : w4.ownsRow N 45 2 (.slice (some ⟨g, 0, none⟩) (ps.nums.length + 1) cap) (ps.nums.length + 1) (txsV ps.nums ps.ends ++ [.int .u64 n, .int .u8 0]))
    (hgr : (w2.drew.alloc (.cells #[.int .u64 n, .int .u8 0] 45)).grownBy w4 vx.ownBlock) (hat : vx.ownBlock = some g ∨ g = w2.heap.size + 1) :
    ∃ ro', Ch [1, 2, 3, 6] w (w4.setCell ⟨hb, 1, none⟩ (.slice (some ⟨g, 0, none⟩) (ps.nums.length + 1) cap)) ro ro' ∧
      St (w4.setCell ⟨hb, 1, none⟩ (.slice (some ⟨g, 0, none⟩) (ps.nums.length + 1) cap)) ro' N pb hb mt mi rb line col vt vo (.slice (some ⟨g, 0, none⟩) (ps.nums.length + 1) cap) vi la (withTxn ps n) := by
  obtain ⟨D2, o2, n2⟩ := h.mI
  obtain ⟨D1, o1, n1⟩ := h.mT
  obtain ⟨D3, o3, n3⟩ := hm
  have c3 : Ch [] w2 (w2.drew.alloc (.cells #[.int .u64 n, .int .u8 0] 45)) ro (newRole ro w2.heap.size 0) := (Ch.ofDr ⟨1, rfl⟩ : Ch [] w2 w2.drew ro ro).trans (Ch.alloc w2.drew ro 0 _)
  have hsz : (w2.drew.alloc (.cells #[.int .u64 n, .int .u8 0] 45)).heap.size = w2.heap.size + 1 := by simp
  have hlt2 : ∀ k, vx.ownBlock = some k → k < w2.heap.size := fun k hk => Nat.lt_of_lt_of_le (h.txs.lt k hk).2 c2.size
  have c4 := Ch.append (v' := .slice (some ⟨g, 0, none⟩) (ps.nums.length + 1) cap) (c := 6) (ro := newRole ro w2.heap.size 0) hgr (fun k hk => by rw [newRole_old (hlt2 k hk)]; exact h.r6 k hk) (by rcases hat with e | e; exact .inl (by rw [e]; rfl); exact .inr (by rw [hsz, e]; rfl)) (fun k hk => by rw [hsz]; have := hlt2 k hk; omega)
  have c24 : Ch [3, 6] w w4 ro (newRole (newRole ro w2.heap.size 0) (w2.drew.alloc (.cells #[.int .u64 n, .int .u8 0] 45)).heap.size 6) := ((c2.mono (by simp)).trans (c3.mono (by simp))).trans (c4.1.mono (by simp))
  have hr6 := c4.2
  generalize newRole (newRole ro w2.heap.size 0) (w2.drew.alloc (.cells #[.int .u64 n, .int .u8 0] 45)).heap.size 6 = ro' at c24 hr6 c4
  have hh4 : w4.heap[hb]? = some (.cells #[vo, vx, vi] 35) := c24.heap h.his (by rw [h.r2]; decide)
  have rh : ro' hb = 2 := c24.role' h.his h.r2
  have c5 : Ch [2] w4 (w4.setCell ⟨hb, 1, none⟩ (.slice (some ⟨g, 0, none⟩) (ps.nums.length + 1) cap)) ro' ro' := Ch.setCell w4 ro' _ _ rh
  have cc : Ch [2, 3, 6] w (w4.setCell ⟨hb, 1, none⟩ (.slice (some ⟨g, 0, none⟩) (ps.nums.length + 1) cap)) ro ro' := (c24.mono (by simp)).trans (c5.mono (by simp))
  have cm : Ch [6, 2] w2 (w4.setCell ⟨hb, 1, none⟩ (.slice (some ⟨g, 0, none⟩) (ps.nums.length + 1) cap)) ro ro' := ((c3.mono (by simp)).trans (c4.1.mono (by simp))).trans (c5.mono (by simp))
  refine ⟨ro', cc.mono (by simp), ?_⟩
  rw [withTxn_new hn]
  exact
    { par := cc.heap h.par (by rw [h.r1]; decide)
      his := by rw [setCell_eq_setRow w4 hb 1 _ _ (0, 0) _ hh4]; exact setRow_heap w4 hb _ _ 35 (0, 0) hh4
      ops := cc.row h.ops (fun g hg => by rw [h.r5 g hg]; decide)
      txs := by
        show World.ownsRow _ N 45 2 _ (ps.nums ++ [n]).length _
        rw [List.length_append, txsV_snoc _ _ _ _ h.inv.en]
        exact c5.row hown (fun k hk => by rw [hr6 k hk]; decide)
      its := cc.row h.its (fun g hg => by rw [h.r7 g hg]; decide)
      mT := ⟨D3, by show World.ownsMap _ _ _ _ _ (ps.nums ++ [n]).length _; rw [List.length_append]; exact cm.map o3 (by rw [h.r3]; decide), n3⟩
      mI := ⟨D2, cc.map o2 (by rw [h.r4]; decide), n2⟩
      r1 := cc.role' h.par h.r1
      r2 := rh
      r3 := (cc.role _ o1.lt).trans h.r3
      r4 := (cc.role _ o2.lt).trans h.r4
      r5 := cc.roleRow h.ops h.r5
      r6 := hr6
      r7 := cc.roleRow h.its h.r7
      siz := Nat.le_trans h.siz cc.size
      inv := ⟨Pl.nodup_snoc h.inv.nd hn, by simp [h.inv.en]⟩
      la := .inl (by show la < (ps.nums ++ [n]).length; rw [List.length_append]; rcases h.la with e | ⟨_, e⟩ <;> simp <;> omega) }

set_option maxHeartbeats 4000000 in
set_option maxRecDepth 100000 in
/-- Behind the first test: the transaction is looked up. -/
theorem txn_any (w : World) (ro : Nat → Nat) (N pb hb mt mi rb : Nat) (line col : Int) (vt vo vx vi : Value) (la : Nat) (ps : Pl.PS) (n : Nat)
    (h : St w ro N pb hb mt mi rb line col vt vo vx vi la ps) (hn : n < 18446744073709551616) (hnl : ps.nums.length ≤ 10000000) :
    Calls Tryf.prog 23 #[.pointer (some ⟨pb, 0, none⟩), .int .u64 n] w fun e w' => TxnPost w ro N pb hb mt mi rb line col vt vo vi ps n e w' := by
  obtain ⟨i0, hi, hz0, hz1, hz2⟩ := info_parts info45
  obtain ⟨c0, c1, c2, c3, c4, c5, c6, c7⟩ := h.c
  obtain ⟨d0, d1, d2⟩ := h.d
  have f7 := h.fp 7
  have HS : Hid (St w ro N pb hb mt mi rb line col vt vo vx vi la ps) := h
  obtain ⟨D1, o1, n1⟩ := h.mT
  have hlk := look36 o1 n1 hn
  clear h c0 c1 c2 c3 c6 d0 d2
  go_enter Tryf.func23, Tryf.ntmps23
  go_upto_region 1 with fail
  go_cut [33] from 7 (fun c wx => Dr w wx ∧ c = .bool (decide (ps.nums[la]? = some n)))
  case first =>
    by_cases hnil : ps.nums = []
    · have hvx : ∃ oa cap, vx = .slice oa 0 cap := by
        have := HS.out.txs
        rw [hnil] at this
        rcases this.2 with ⟨hv, _⟩ | ⟨g, cap, cur, hv, _⟩
        · exact ⟨none, 0, hv⟩
        · exact ⟨_, cap, hv⟩
      obtain ⟨oa, cap, rfl⟩ := hvx
      have hdd : decide (ps.nums[la]? = some n) = false := by rw [hnil]; rfl
      have HDD : Hid (decide (ps.nums[la]? = some n) = false) := hdd
      have hz : decide ((0 : Int) < 0) = false := rfl
      clear hlk o1 n1 hnil hdd
      go_quiet (fail)
      go_wp2_with fail
      go_meet
      exact ⟨⟨nq, rfl⟩, congrArg Value.bool HDD.out.symm⟩
    · have hpos : 0 < ps.nums.length := List.length_pos_iff.2 hnil
      obtain ⟨g, cap, rfl, hNg, hgl⟩ := HS.out.txs.form hpos
      have hla : la < ps.nums.length := HS.out.la.resolve_right (fun e => hnil e.1)
      have hc : w.cell? ⟨g, la * 2, none⟩ = some (.int .u64 (ps.nums[la] : Nat)) := by
        rw [HS.out.txs.cellAt (la * 2) (by omega), Nat.mul_comm la 2, txsV_num _ _ _ HS.out.inv.en, List.getElem?_eq_getElem hla]; rfl
      obtain ⟨m, hm⟩ : ∃ m, ps.nums[la] = m := ⟨_, rfl⟩
      rw [hm] at hc
      have hdd : decide (ps.nums[la]? = some n) = decide (m = n) := by rw [List.getElem?_eq_getElem hla, hm]; simp
      have HDD : Hid (decide (ps.nums[la]? = some n) = decide (m = n)) := hdd
      obtain ⟨L, hL⟩ : ∃ L, ps.nums.length = L := ⟨_, rfl⟩
      rw [hL] at hla d1 hpos hnl
      clear hm hL hnil hlk o1 n1 hdd
      by_cases e : m = n
      · subst e
        go_quiet (fail)
        go_wp2_with fail
        go_meet
        exact ⟨⟨nq, rfl⟩, congrArg Value.bool (HDD.out.trans (by simp)).symm⟩
      · have e' : ((m : Int) == (n : Int)) = false := beq_eq_false_iff_ne.2 (by omega)
        have HE : Hid (¬ m = n) := e
        clear e
        go_quiet (fail)
        go_wp2_with fail
        go_meet
        exact ⟨⟨nq, rfl⟩, congrArg Value.bool (HDD.out.trans (decide_eq_false HE.out)).symm⟩
  case rest =>
    obtain ⟨hd, rfl⟩ := hcut
    have hch : Ch [] w wc ro ro := Ch.ofDr hd
    have hs2 : St wc ro N pb hb mt mi rb line col vt vo vx vi la ps := HS.out.other hch (by simp)
    have HS2 : Hid (St wc ro N pb hb mt mi rb line col vt vo vx vi la ps) := hs2
    have HCH : Hid (Ch [1, 2, 3, 6] w wc ro ro) := hch.mono (by simp)
    clear HS hch hs2 hlk o1 n1 c4 c5 c7 d1 f7 hd
    obtain ⟨c0, c1, c2, c3, c4, c5, c6, c7⟩ := HS2.out.c
    obtain ⟨d0, d1, d2⟩ := HS2.out.d
    have f7 := HS2.out.fp 7
    obtain ⟨D1, o1, n1⟩ := HS2.out.mT
    have hlk := look36 o1 n1 hn
    clear c0 c1 c2 c3 c6 d0 d2
    by_cases hlast : ps.nums[la]? = some n
    · rw [decide_eq_true hlast]
      have hix : ps.nums.idxOf n = la := idx_of_at HS2.out.inv.nd hlast
      have hmem : n ∈ ps.nums := List.mem_of_getElem? hlast
      have HIX : Hid (ps.nums.idxOf n = la) := hix
      have HMEM : Hid (n ∈ ps.nums) := hmem
      clear hlk hix hmem o1 n1 hlast d1 c4 c5 f7
      go_wp2_with fail
      go_ret
      refine ⟨by rw [HIX.out]; rfl, ro, vx, la, HCH.out, ?_⟩
      rw [withTxn_in HMEM.out]
      exact HS2.out
    · rw [decide_eq_false hlast]
      clear hlast
      by_cases hmem : n ∈ ps.nums
      · rw [if_pos hmem, decide_eq_true hmem] at hlk
        have HMEM : Hid (n ∈ ps.nums) := hmem
        obtain ⟨ix, hix⟩ : ∃ ix, ps.nums.idxOf n = ix := ⟨_, rfl⟩
        rw [hix] at hlk
        have hixl : ix < ps.nums.length := hix ▸ List.idxOf_lt_length_of_mem hmem
        have HIX : Hid (ps.nums.idxOf n = ix) := hix
        clear hix hmem o1 n1 d1 c4
        go_wp2_with fail
        go_ret
        obtain ⟨hs3, hc3⟩ := HS2.out.setLast ix hixl
        refine ⟨by rw [HIX.out]; rfl, ro, vx, ix, HCH.out.trans (hc3.mono (by simp)), ?_⟩
        rw [withTxn_in HMEM.out]
        exact hs3
      · rw [if_neg hmem, decide_eq_false hmem] at hlk
        have HMEM : Hid (n ∉ ps.nums) := hmem
        obtain ⟨w2, hup, hom, hgr⟩ := put36 o1 n1 hn hmem (by omega) (by omega)
        have hch2 : Ch [3] wc w2 ro ro := Ch.ofGrown hgr HS2.out.r3
        have hpar2 := hch2.heap HS2.out.par (by rw [HS2.out.r1]; decide)
        have hhis2 := hch2.heap HS2.out.his (by rw [HS2.out.r2]; decide)
        have b4 : w2.cell? ⟨pb, 4, none⟩ = some (.pointer (some ⟨hb, 0, none⟩)) := by rw [cell_of_row w2 pb _ _ _ _ hpar2]; rfl
        have b7 : w2.cell? ⟨pb, 7, none⟩ = some (.int .i32 la) := by rw [cell_of_row w2 pb _ _ _ _ hpar2]; rfl
        have a1 : w2.cell? ⟨hb, 1, none⟩ = some vx := by rw [cell_of_row w2 hb _ _ _ _ hhis2]; rfl
        have g7 := frozen_of_row w2 pb 7 _ _ hpar2
        have k1 := frozen_of_row w2 hb 1 _ _ hhis2
        have HOM : Hid (∃ D', OwnN w2 mt (ps.nums.length + 1) D' ∧ Numb nlit D' (ps.nums ++ [n])) := hom
        have HC2 : Hid (Ch [3] wc w2 ro ro) := hch2
        have hvx : ∃ oa cap, vx = .slice oa ps.nums.length cap := by
          rcases HS2.out.txs.2 with ⟨hv, h0⟩ | ⟨g, cap, cur, hv, _⟩
          · exact ⟨none, 0, by rw [hv, h0]⟩
          · exact ⟨_, cap, hv⟩
        obtain ⟨oa, cap, rfl⟩ := hvx
        obtain ⟨L, hL⟩ : ∃ L, ps.nums.length = L := ⟨_, rfl⟩
        rw [hL] at hup d1 a1 hnl
        have HL : Hid (ps.nums.length = L) := hL
        clear hL hmem o1 n1 hom hgr hch2 hpar2 hhis2 f7 c7
        go_upto_region 7 with fail
        clear hlk hup c4 c5 d1
        have ho2 : w2.ownsRow N 45 2 (.slice oa L cap) L (txsV ps.nums ps.ends) := by
          have := HC2.out.row HS2.out.txs (fun g hg => by rw [HS2.out.r6 g hg]; decide)
          rw [HL.out] at this; exact this
        have ho3 : (w2.drew.alloc (.cells #[.int .u64 n, .int .u8 0] 45)).ownsRow N 45 2 (.slice oa L cap) L (txsV ps.nums ps.ends) := World.ownsRow.alloc (w := w2.drew) ho2 _
        have hne6 : ∀ b, ro b ≠ 6 → some b ≠ (Value.slice oa L cap).ownBlock := fun b hb e => hb (HS2.out.r6 b (by rw [HL.out]; exact e.symm))
        have hnews : ∀ j u, [Value.int .u64 n, .int .u8 0][j]? = some u → (w2.drew.alloc (.cells #[.int .u64 n, .int .u8 0] 45)).cell? ((⟨w2.heap.size, 0, none⟩ : Addr).add j) = some u :=
          World.news_of_block (cs := #[.int .u64 n, .int .u8 0]) (heap_alloc_new w2.drew _)
        have hNs : N ≤ (w2.drew.alloc (.cells #[.int .u64 n, .int .u8 0] 45)).heap.size := by
          have h1 := HS2.out.siz
          have h2 := HC2.out.size
          simp
          omega
        have hpl : pb < w2.heap.size := World.block_lt_of_cell? w2 ⟨pb, 4, none⟩ b4
        have hhl : hb < w2.heap.size := World.block_lt_of_cell? w2 ⟨hb, 1, none⟩ a1
        have hkk : ∀ w4 : World, (w2.drew.alloc (.cells #[.int .u64 n, .int .u8 0] 45)).grownBy w4 (Value.slice oa L cap).ownBlock → w4.cell? ⟨pb, 4, none⟩ = some (.pointer (some ⟨hb, 0, none⟩)) ∧ w4.cell? ⟨hb, 1, none⟩ = some (.slice oa L cap) ∧ w4.frozen? ⟨hb, 1, none⟩ = false := fun w4 hgr => by
          have e1 : w4.heap[pb]? = w2.heap[pb]? := (hgr.block pb (by simp; omega) (hne6 pb (by rw [HS2.out.r1]; decide))).trans (heap_alloc_old w2.drew _ hpl)
          have e2 : w4.heap[hb]? = w2.heap[hb]? := (hgr.block hb (by simp; omega) (hne6 hb (by rw [HS2.out.r2]; decide))).trans (heap_alloc_old w2.drew _ hhl)
          exact ⟨(World.cell?_of_block e1).trans b4, (World.cell?_of_block e2).trans a1, (World.frozen?_of_block e2).trans k1⟩
        have HKK : Hid (_) := hkk
        have hph : pb ≠ hb := fun e => by have h1 := HS2.out.r1; rw [e, HS2.out.r2] at h1; cases h1
        have hph2 : hb ≠ pb := Ne.symm hph
        have HO3 : Hid (_) := ho3
        have HNW : Hid (_) := hnews
        have HNS : Hid (_) := hNs
        clear ho2 ho3 hne6 hnews hNs hkk
        go_cut [] from 64 (fun wx => ∃ ro' vx', Ch [1, 2, 3, 6] wc wx ro ro' ∧ St wx ro' N pb hb mt mi rb line col vt vo vx' vi la (withTxn ps n))
        case first =>
          go_region_law (
            (refine step_append_lies _ rfl (.tmp 74) (.tmp 77) 33 rfl N 45 i0 _ 2 16 Tryf.underlying33 hi hz0 hz1 hz2 rfl (by decide) (.slice oa L cap) L (txsV ps.nums ps.ends) rfl HO3.out ⟨w2.heap.size, 0, none⟩ 1 1 [.int .u64 n, .int .u8 0] rfl rfl HNW.out (by simp [Value.oneCell']) (by decide) (by unfold maxLen; omega) (by omega) HNS.out _ rfl ?_; intro g cap2 w4 hown hgrow hat hlt; obtain ⟨q4, q1, qf⟩ := HKK.out w4 hgrow))
          all_goals (
            go_wp2_with fail
            go_meet
            obtain rfl := HL.out
            obtain ⟨ro', h1, h2⟩ := St.newTxn HS2.out HMEM.out HC2.out HOM.out hown hgrow (hat.imp id (fun e => by simpa using e))
            exact ⟨ro', _, h1, h2⟩)
        case rest =>
          obtain ⟨ro2, vx2, hc5, hs5⟩ := hcut
          have HC5 : Hid (Ch [1, 2, 3, 6] w wc ro ro2) := HCH.out.trans hc5
          have HS5 : Hid (St wc ro2 N pb hb mt mi rb line col vt vo vx2 vi la (withTxn ps n)) := hs5
          obtain ⟨_, _, _, _, _, _, _, c7⟩ := hs5.c
          have f7 := hs5.fp 7
          clear hc5 hs5 b4 b7 a1 g7 k1 HO3 HNW HNS HKK
          go_wp2_with fail
          go_ret
          have hl : L < (withTxn ps n).nums.length := by rw [withTxn_new HMEM.out, ← HL.out]; simp
          obtain ⟨hs6, hc6⟩ := HS5.out.setLast L hl
          refine ⟨?_, ro2, vx2, L, HC5.out.trans (hc6.mono (by simp)), hs6⟩
          rw [← HL.out, ← idx_new HMEM.out]
          rfl
end Go.Proofs.Qxb6609503aFmt
