import Derived.Test.Qxb6609503aFmtWalkL
import Derived.Deep.RegionHeld
namespace Go.Proofs.Qxb6609503aFmt
open Go.RowKit Go.PlainAid Go.Maps
set_option linter.unusedVariables false

theorem scan_any (w : World) (g cap : Nat) (o : Pl.Op3) (ho : Pl.OpOk o) (hs : SlB w g 0 (Pl.tokOf o)) (hc : (Pl.tokOf o).length ≤ cap) (hI : o.k ≤ 2 → o.it.length ≤ 1048576) :
    Calls Tryf.prog 21 #[.slice (some ⟨g, 0, none⟩) (Pl.tokOf o).length cap] w fun e w' => ScanPost g cap o w e w' := by
  by_cases hk : o.k ≤ 2
  · exact scan12 w g cap o ho hs hk hc (hI hk)
  · exact scan34 w g cap o ho hs (by omega)

/-- The state behind the token, its operation not yet listed. -/
def midPS (ps : Pl.PS) (o : Pl.Op3) : Pl.PS := { Pl.addP ps o with ops := ps.ops }
theorem midPS_item {ps : Pl.PS} {o : Pl.Op3} (h : o.k ≤ 2) : midPS ps o = withItem (withTxn ps o.n) o.it := by
  unfold midPS Pl.addP withItem withTxn Pl.itemsOf
  rw [if_pos h]
theorem midPS_end {ps : Pl.PS} {o : Pl.Op3} (h : ¬ o.k ≤ 2) : midPS ps o = { withTxn ps o.n with ends := (Pl.endsOf ps o.n).set (ps.nums.idxOf o.n) o.k } := by
  unfold midPS Pl.addP withTxn
  rw [if_neg h]
theorem end_zero {ps : Pl.PS} {n : Nat} (hi : SInv ps) (h : Pl.endAt ps n = 0) : (withTxn ps n).ends[ps.nums.idxOf n]? = some 0 ∧ ps.nums.idxOf n < (withTxn ps n).nums.length := by
  have h1 := Pl.ends_step hi.en n n
  rw [h, Pl.idx_numsOf] at h1
  have h2 := Pl.idx_lt ps n
  have h3 := Pl.len_endsOf hi.en n
  refine ⟨?_, h2⟩
  show (Pl.endsOf ps n)[ps.nums.idxOf n]? = some 0
  rw [List.getElem?_eq_getElem (by omega)]
  rw [List.getD_eq_getElem?_getD, List.getElem?_eq_getElem (by omega)] at h1
  exact congrArg some h1
theorem tok_itemB {w : World} {g : Nat} {o : Pl.Op3} (hk : o.k ≤ 2) (h : SlB w g 0 (Pl.tokOf o)) : SlB w g ((Pl.dec o.n).length + 2) o.it := fun j hj => by
  have hL := tok_len o
  rw [if_pos hk] at hL
  have := h ((Pl.dec o.n).length + 2 + j) (by omega)
  rw [Nat.zero_add, tok_item o hk hj] at this
  exact this

/-- A transaction's end written. -/
theorem St.setEnd {w : World} {ro : Nat → Nat} {N pb hb mt mi rb : Nat} {line col : Int} {vt vo vi : Value} {la g gc : Nat} {ps : Pl.PS} (h : St w ro N pb hb mt mi rb line col vt vo (.slice (some ⟨g, 0, none⟩) ps.nums.length gc) vi la ps) (t k : Nat) :
    St (w.setCell ⟨g, t * 2 + 1, none⟩ (.int .u8 k)) ro N pb hb mt mi rb line col vt vo (.slice (some ⟨g, 0, none⟩) ps.nums.length gc) vi la { ps with ends := ps.ends.set t k } ∧ Ch [6] w (w.setCell ⟨g, t * 2 + 1, none⟩ (.int .u8 k)) ro ro := by
  have c : Ch [6] w (w.setCell ⟨g, t * 2 + 1, none⟩ (.int .u8 k)) ro ro := Ch.setCell w ro _ _ (h.r6 g rfl)
  obtain ⟨D1, o1, n1⟩ := h.mT
  obtain ⟨D2, o2, n2⟩ := h.mI
  refine ⟨?_, c⟩
  exact
    { par := c.heap h.par (by rw [h.r1]; decide)
      his := c.heap h.his (by rw [h.r2]; decide)
      ops := c.row h.ops (fun g hg => by rw [h.r5 g hg]; decide)
      txs := by
        have := (h.txs.stored (t * 2 + 1) (.int .u8 k)).1
        rw [Nat.mul_comm t 2, txsV_set _ _ _ _ h.inv.en] at this
        rw [Nat.mul_comm t 2]
        exact this
      its := c.row h.its (fun g hg => by rw [h.r7 g hg]; decide)
      mT := ⟨D1, c.map o1 (by rw [h.r3]; decide), n1⟩
      mI := ⟨D2, c.map o2 (by rw [h.r4]; decide), n2⟩
      r1 := h.r1, r2 := h.r2, r3 := h.r3, r4 := h.r4, r5 := h.r5, r6 := h.r6, r7 := h.r7
      siz := Nat.le_trans h.siz c.size
      inv := ⟨h.inv.nd, by simp [h.inv.en]⟩
      la := h.la }

/-- The operation listed. -/
theorem St.newOp {w w4 : World} {ro : Nat → Nat} {N pb hb mt mi rb : Nat} {line col : Int} {vt vo vx vi : Value} {la g cap k t : Nat} {x : Int} {ps : Pl.PS} (h : St w ro N pb hb mt mi rb line col vt vo vx vi la ps)
    (hown : w4.ownsRow N 43 3 (.slice (some ⟨g, 0, none⟩) (ps.ops.length + 1) cap) (ps.ops.length + 1) (opsV ps.ops ++ [.int .u8 k, .int .i32 t, .int .i32 x]))
    (hgr : (w.drew.alloc (.cells #[.int .u8 k, .int .i32 t, .int .i32 x] 43)).grownBy w4 vo.ownBlock) (hat : vo.ownBlock = some g ∨ g = w.heap.size + 1) :
    ∃ ro', Ch [2, 5] w (w4.setCell ⟨hb, 0, none⟩ (.slice (some ⟨g, 0, none⟩) (ps.ops.length + 1) cap)) ro ro' ∧
      St (w4.setCell ⟨hb, 0, none⟩ (.slice (some ⟨g, 0, none⟩) (ps.ops.length + 1) cap)) ro' N pb hb mt mi rb line col vt (.slice (some ⟨g, 0, none⟩) (ps.ops.length + 1) cap) vx vi la { ps with ops := ps.ops ++ [(k, t, x)] } := by
  obtain ⟨D2, o2, n2⟩ := h.mI
  obtain ⟨D1, o1, n1⟩ := h.mT
  have c3 : Ch [] w (w.drew.alloc (.cells #[.int .u8 k, .int .i32 t, .int .i32 x] 43)) ro (newRole ro w.heap.size 0) := (Ch.ofDr ⟨1, rfl⟩ : Ch [] w w.drew ro ro).trans (Ch.alloc w.drew ro 0 _)
  have hsz : (w.drew.alloc (.cells #[.int .u8 k, .int .i32 t, .int .i32 x] 43)).heap.size = w.heap.size + 1 := by simp
  have hlt2 : ∀ k, vo.ownBlock = some k → k < w.heap.size := fun k hk => (h.ops.lt k hk).2
  have c4 := Ch.append (v' := .slice (some ⟨g, 0, none⟩) (ps.ops.length + 1) cap) (c := 5) (ro := newRole ro w.heap.size 0) hgr (fun k hk => by rw [newRole_old (hlt2 k hk)]; exact h.r5 k hk) (by rcases hat with e | e; exact .inl (by rw [e]; rfl); exact .inr (by rw [hsz, e]; rfl)) (fun k hk => by rw [hsz]; have := hlt2 k hk; omega)
  have c24 : Ch [5] w w4 ro (newRole (newRole ro w.heap.size 0) (w.drew.alloc (.cells #[.int .u8 k, .int .i32 t, .int .i32 x] 43)).heap.size 5) := (c3.mono (by simp)).trans (c4.1.mono (by simp))
  have hr5 := c4.2
  generalize newRole (newRole ro w.heap.size 0) (w.drew.alloc (.cells #[.int .u8 k, .int .i32 t, .int .i32 x] 43)).heap.size 5 = ro' at c24 hr5 c4
  have hh4 : w4.heap[hb]? = some (.cells #[vo, vx, vi] 35) := c24.heap h.his (by rw [h.r2]; decide)
  have rh : ro' hb = 2 := c24.role' h.his h.r2
  have c5 : Ch [2] w4 (w4.setCell ⟨hb, 0, none⟩ (.slice (some ⟨g, 0, none⟩) (ps.ops.length + 1) cap)) ro' ro' := Ch.setCell w4 ro' _ _ rh
  have cc : Ch [2, 5] w (w4.setCell ⟨hb, 0, none⟩ (.slice (some ⟨g, 0, none⟩) (ps.ops.length + 1) cap)) ro ro' := (c24.mono (by simp)).trans (c5.mono (by simp))
  refine ⟨ro', cc, ?_⟩
  exact
    { par := cc.heap h.par (by rw [h.r1]; decide)
      his := by rw [setCell_eq_setRow w4 hb 0 _ _ (0, 0) _ hh4]; exact setRow_heap w4 hb _ _ 35 (0, 0) hh4
      ops := by
        show World.ownsRow _ N 43 3 _ (ps.ops ++ [(k, t, x)]).length _
        rw [List.length_append, opsV_snoc]
        exact c5.row hown (fun k hk => by rw [hr5 k hk]; decide)
      txs := cc.row h.txs (fun g hg => by rw [h.r6 g hg]; decide)
      its := cc.row h.its (fun g hg => by rw [h.r7 g hg]; decide)
      mT := ⟨D1, cc.map o1 (by rw [h.r3]; decide), n1⟩
      mI := ⟨D2, cc.map o2 (by rw [h.r4]; decide), n2⟩
      r1 := cc.role' h.par h.r1
      r2 := rh
      r3 := (cc.role _ o1.lt).trans h.r3
      r4 := (cc.role _ o2.lt).trans h.r4
      r5 := hr5
      r6 := cc.roleRow h.txs h.r6
      r7 := cc.roleRow h.its h.r7
      siz := Nat.le_trans h.siz cc.size
      inv := ⟨h.inv.nd, h.inv.en⟩
      la := h.la }

theorem Ch.setNew {S : List Nat} {w w' : World} {ro ro' : Nat → Nat} (c : Ch S w w' ro ro') {a : Addr} (v : Value) (h : w.heap.size ≤ a.block) : Ch S w (w'.setCell a v) ro ro' :=
  ⟨c.os, c.tape, c.output, by rw [World.size_setCell]; exact c.size, fun k hk hn => by rw [Below.heap_setCell _ _ _ _ (fun e => by omega)]; exact c.block k hk hn, c.role⟩
def AddMid (w wx : World) (ro : Nat → Nat) (N pb hb mt mi rb ob : Nat) (line col : Int) (vt vo : Value) (ps : Pl.PS) (o : Pl.Op3) : Prop :=
  ∃ ro' vx vi la, Ch [1, 2, 3, 4, 6, 7] w wx ro ro' ∧ St wx ro' N pb hb mt mi rb line col vt vo vx vi la (midPS ps o) ∧
    wx.heap[ob]? = some (.cells #[.int .u8 o.k, .int .i32 (ps.nums.idxOf o.n), .int .i32 (Pl.itemIx ps o)] 43) ∧ ro' ob = 12
def AddPost (w : World) (ro : Nat → Nat) (N pb hb mt mi rb : Nat) (line col : Int) (vt : Value) (ps : Pl.PS) (e : Ending) (w' : World) : Prop :=
  e = .returned (.string ⟨#[]⟩) ∧ ∃ ro' vo vx vi la, Ch [1, 2, 3, 4, 5, 6, 7] w w' ro ro' ∧ St w' ro' N pb hb mt mi rb line col vt vo vx vi la ps

set_option maxHeartbeats 4000000 in
set_option maxRecDepth 100000 in
theorem add_any (w : World) (ro : Nat → Nat) (N pb hb mt mi rb : Nat) (line col : Int) (vo vx vi : Value) (la : Nat) (ps : Pl.PS) (o : Pl.Op3) (tg tc : Nat)
    (h : St w ro N pb hb mt mi rb line col (.slice (some ⟨tg, 0, none⟩) (Pl.tokOf o).length tc) vo vx vi la ps) (ho : Pl.OpOk o) (hs : SlB w tg 0 (Pl.tokOf o)) (hc : (Pl.tokOf o).length ≤ tc) (htl : tg < w.heap.size) (hrt : ro tg = 8)
    (hI : o.k ≤ 2 → o.it.length ≤ 1048576) (hend : Pl.endAt ps o.n = 0) (hops : ps.ops.length < 10000000) (hnums : ps.nums.length ≤ ps.ops.length) (hitems : ps.items.length ≤ ps.ops.length) :
    Calls Tryf.prog 17 #[.pointer (some ⟨pb, 0, none⟩)] w fun e w' => AddPost w ro N pb hb mt mi rb line col (.slice (some ⟨tg, 0, none⟩) (Pl.tokOf o).length tc) (Pl.addP ps o) e w' := by
  obtain ⟨i0, hi, hz0, hz1, hz2⟩ := info_parts info43
  obtain ⟨c0, c1, c2, c3, c4, c5, c6, c7⟩ := h.c
  have hvo : ∃ oa cap, vo = .slice oa ps.ops.length cap := by
    rcases h.ops.2 with ⟨hv, h0⟩ | ⟨g, cap, cur, hv, _⟩
    · exact ⟨none, 0, by rw [hv, h0]⟩
    · exact ⟨_, cap, hv⟩
  obtain ⟨oa, cap, rfl⟩ := hvo
  have HS : Hid (St w ro N pb hb mt mi rb line col (.slice (some ⟨tg, 0, none⟩) (Pl.tokOf o).length tc) (.slice oa ps.ops.length cap) vx vi la ps) := h
  have HSC : Hid (Calls Tryf.prog 21 #[.slice (some ⟨tg, 0, none⟩) (Pl.tokOf o).length tc] w fun e w' => ScanPost tg tc o w e w') := scan_any w tg tc o ho hs hc hI
  have HB : Hid (SlB w tg 0 (Pl.tokOf o)) := hs
  have HOK : Hid (Pl.OpOk o) := ho
  have HI : Hid (o.k ≤ 2 → o.it.length ≤ 1048576) := hI
  have HEND : Hid (Pl.endAt ps o.n = 0) := hend
  have hk1 := ho.k1
  have hk4 := ho.k4
  have hn64 := ho.n64
  clear h c0 c1 c2 c5 c6 c7 hs ho hend hI
  go_enter Tryf.func17, Tryf.ntmps17
  go_wp2_with fail
  refine HSC.out.mono ?_
  rintro e w1 ⟨v, rfl, hd1, hv⟩
  have hch1 : Ch [] w w1 ro ro := Ch.ofDr hd1
  have hs1 := HS.out.other hch1 (by simp)
  have HS1 : Hid (_) := hs1
  have HC1 : Hid (Ch [1, 2, 3, 4, 6, 7] w w1 ro ro) := hch1.mono (by simp)
  have HB1 : Hid (SlB w1 tg 0 (Pl.tokOf o)) := HB.out.dr hd1
  have htl1 : tg < w1.heap.size := Nat.lt_of_lt_of_le htl hch1.size
  have HV : Hid (o.k ≤ 2 → v = .slice (some ⟨tg, (Pl.dec o.n).length + 2, none⟩) o.it.length (tc - ((Pl.dec o.n).length + 2))) := hv
  obtain ⟨c0, c1, c2, c3, c4, c5, c6, c7⟩ := hs1.c
  obtain ⟨d0, d1, d2⟩ := hs1.d
  clear hch1 hs1 c0 c1 c2 c3 c5 c6 c7 d1 d2 hd1 hv HSC HB HS
  have hmax : ((ps.ops.length : Int) == 2147483647) = false := beq_eq_false_iff_ne.2 (by omega)
  go_wp2_with fail
  refine (txn_any w1 ro N pb hb mt mi rb line col _ _ vx vi la ps o.n HS1.out hn64 (by omega)).mono ?_
  rintro e w2 ⟨rfl, ro2, vx2, la2, hc2, hs2⟩
  have HC2 : Hid (Ch [1, 2, 3, 4, 6, 7] w w2 ro ro2) := HC1.out.trans (hc2.mono (by simp))
  have HB2 : Hid (SlB w2 tg 0 (Pl.tokOf o)) := HB1.out.ch htl1 hc2 (by rw [hrt]; decide)
  have htl2 : tg < w2.heap.size := Nat.lt_of_lt_of_le htl1 hc2.size
  have hrt2 : ro2 tg = 8 := (hc2.role tg htl1).trans hrt
  have HS2 : Hid (_) := hs2
  obtain ⟨he0, hix⟩ := end_zero HS1.out.inv HEND.out
  obtain ⟨t, ht⟩ : ∃ t, ps.nums.idxOf o.n = t := ⟨_, rfl⟩
  rw [ht] at he0 hix
  obtain ⟨g, gc, rfl, hNg, hgl⟩ := hs2.txs.form (by omega)
  have ge : w2.cell? ⟨g, t * 2 + 1, none⟩ = some (.int .u8 0) := by
    rw [hs2.txs.cellAt (t * 2 + 1) (by omega), Nat.mul_comm t 2, txsV_end _ _ _ hs2.inv.en, he0]; rfl
  have gf := hs2.txs.frozenAt (t * 2 + 1)
  have hnl2 : (withTxn ps o.n).nums.length ≤ 10000000 := by
    show (Pl.numsOf ps o.n).length ≤ _
    unfold Pl.numsOf
    split
    · omega
    · rw [List.length_append]; simp; omega
  obtain ⟨c0, c1, c2, c3, c4', c5, c6, c7⟩ := hs2.c
  obtain ⟨d0', d1, d2⟩ := hs2.d
  obtain ⟨L, hL⟩ : ∃ L, (withTxn ps o.n).nums.length = L := ⟨_, rfl⟩
  rw [hL] at hix d1 hnl2
  have HT : Hid (ps.nums.idxOf o.n = t) := ht
  have HL : Hid ((withTxn ps o.n).nums.length = L) := hL
  clear hs2 hc2 c0 c1 c2 c3 c5 c6 c7 d0' d2 he0 HS1 HB1 HC1 c4 d0 hL htl htl1
  go_upto_region 14 with fail
  go_cut [83] from 78 (fun c wx => c = .bool (decide (o.k ≤ 2)) ∧ wx = w2.alloc (.cells #[.int .u8 o.k, .int .i32 t, .int .i32 (-1)] 43))
  case first =>
    by_cases k1 : o.k = 1
    · have e1 : ((o.k : Int) == 1) = true := beq_iff_eq.2 (by omega)
      have HD : Hid (decide (o.k ≤ 2) = true) := decide_eq_true (by omega)
      clear k1
      go_wp2_with fail
      go_meet
      exact ⟨congrArg Value.bool HD.out.symm, rfl⟩
    · have e1 : ((o.k : Int) == 1) = false := beq_eq_false_iff_ne.2 (by omega)
      by_cases k2 : o.k = 2
      · have e2 : ((o.k : Int) == 2) = true := beq_iff_eq.2 (by omega)
        have HD : Hid (decide (o.k ≤ 2) = true) := decide_eq_true (by omega)
        clear k1 k2
        go_wp2_with fail
        go_meet
        exact ⟨congrArg Value.bool HD.out.symm, rfl⟩
      · have e2 : ((o.k : Int) == 2) = false := beq_eq_false_iff_ne.2 (by omega)
        have HD : Hid (decide (o.k ≤ 2) = false) := decide_eq_false (by omega)
        clear k1 k2
        go_wp2_with fail
        go_meet
        exact ⟨congrArg Value.bool HD.out.symm, rfl⟩
  case rest =>
    obtain ⟨rfl, hw⟩ := hcut
    have hal := Ch.alloc w2 ro2 12 (.cells #[.int .u8 o.k, .int .i32 t, .int .i32 (-1)] 43)
    rw [← hw] at hal
    have hob : wc.heap[w2.heap.size]? = some (.cells #[.int .u8 o.k, .int .i32 t, .int .i32 (-1)] 43) := by rw [hw]; exact heap_alloc_new w2 _
    have hs3 := HS2.out.other hal (by simp)
    have hr12 : newRole ro2 w2.heap.size 12 w2.heap.size = 12 := newRole_new
    have HC3 : Hid (Ch [1, 2, 3, 4, 6, 7] w wc ro (newRole ro2 w2.heap.size 12)) := HC2.out.trans (hal.mono (by simp))
    have HB3 : Hid (SlB wc tg 0 (Pl.tokOf o)) := HB2.out.ch htl2 hal (by simp)
    have htl3 : tg < wc.heap.size := Nat.lt_of_lt_of_le htl2 hal.size
    have hrt3 : newRole ro2 w2.heap.size 12 tg = 8 := (hal.role tg htl2).trans hrt2
    have HS3 : Hid (_) := hs3
    have HOB : Hid (wc.heap[w2.heap.size]? = some (.cells #[.int .u8 o.k, .int .i32 t, .int .i32 (-1)] 43)) := hob
    generalize newRole ro2 w2.heap.size 12 = ro3 at HC3 HS3 hrt3 hr12 hal hs3
    have hobl : w.heap.size ≤ w2.heap.size := HC2.out.size
    generalize w2.heap.size = ob at HOB hr12 hob hal hobl
    have ge3 : wc.cell? ⟨g, t * 2 + 1, none⟩ = some (.int .u8 0) := by rw [hw]; exact (World.cell?_alloc_some w2 ⟨g, t * 2 + 1, none⟩ _ (by rw [ge]; rfl)).trans ge
    have gf3 : wc.frozen? ⟨g, t * 2 + 1, none⟩ = false := hs3.txs.frozenAt (t * 2 + 1)
    have o2 : wc.cell? ⟨ob, 2, none⟩ = some (.int .i32 (-1)) := by rw [cell_of_row wc ob _ _ _ _ hob]; rfl
    clear hal hw hs3 hob HS2 HC2 HB2 c4' d1 ge gf
    have hix2 := HL.out
    go_upto_if 83 with fail
    go_cut [] from 83 (fun wx => AddMid w wx ro N pb hb mt mi rb ob line col (.slice (some ⟨tg, 0, none⟩) (Pl.tokOf o).length tc) (.slice oa ps.ops.length cap) ps o)
    case first =>
      by_cases hk : o.k ≤ 2
      · have hdd : decide (o.k ≤ 2) = true := decide_eq_true hk
        obtain rfl := HV.out hk
        rw [hdd]
        go_wp2_with fail
        refine (item_any wc ro3 N pb hb mt mi rb line col _ _ _ vi la2 (withTxn ps o.n) o.it tg _ _ HS3.out (HI.out hk) (by show ps.items.length ≤ _; omega) (tok_itemB hk HB3.out) htl3 hrt3).mono ?_
        rintro e w4 ⟨rfl, ro4, vi4, hc4, hs4⟩
        have hob4 := hc4.heap HOB.out (by rw [hr12]; decide)
        have q2 : w4.cell? ⟨ob, 2, none⟩ = some (.int .i32 (-1)) := by rw [cell_of_row w4 ob _ _ _ _ hob4]; rfl
        have qf := frozen_of_row w4 ob 2 _ _ hob4
        have hr4 : ro4 ob = 12 := hc4.role' HOB.out hr12
        have HC4 : Hid (Ch [1, 2, 3, 4, 6, 7] w w4 ro ro4) := HC3.out.trans (hc4.mono (by simp))
        have HS4 : Hid (_) := hs4
        have HOB4 : Hid (_) := hob4
        clear hc4 hs4 hob4 o2 ge3 gf3
        go_wp2_with fail
        go_meet
        refine ⟨ro4, .slice (some ⟨g, 0, none⟩) (withTxn ps o.n).nums.length gc, vi4, la2, HC4.out.setNew _ hobl, ?_, ?_, hr4⟩
        · rw [midPS_item hk]
          exact HS4.out.other (Ch.setCell w4 ro4 ⟨ob, 2, none⟩ _ hr4) (by simp)
        · rw [setCell_eq_setRow w4 ob 2 _ _ (0, 0) _ HOB4.out, HT.out]
          unfold Pl.itemIx
          rw [if_pos hk]
          exact setRow_heap w4 ob _ _ 43 (0, 0) HOB4.out
      · have hdd : decide (o.k ≤ 2) = false := decide_eq_false hk
        rw [hdd]
        have hbl : g ≠ ob := fun e => by
          have h1 := HS3.out.r6 g rfl
          rw [e, hr12] at h1
          cases h1
        go_wp2_with fail
        go_meet
        obtain rfl := HL.out
        obtain ⟨hs4, hc4⟩ := HS3.out.setEnd t o.k
        refine ⟨ro3, .slice (some ⟨g, 0, none⟩) (withTxn ps o.n).nums.length gc, vi, la2, HC3.out.trans (hc4.mono (by simp)), ?_, ?_, hr12⟩
        · rw [midPS_end hk, HT.out]
          exact hs4
        · rw [hc4.heap HOB.out (by rw [hr12]; decide), HT.out]
          unfold Pl.itemIx
          rw [if_neg hk]
    case rest =>
      obtain ⟨ro5, vx5, vi5, la5, hc5, hs5, hob5, hr5⟩ := hcut
      obtain ⟨x, hx⟩ : ∃ x, Pl.itemIx ps o = x := ⟨_, rfl⟩
      rw [hx, HT.out] at hob5
      have HX : Hid (Pl.itemIx ps o = x) := hx
      have p0 : wc.cell? ⟨ob, 0, none⟩ = some (.int .u8 o.k) := by rw [cell_of_row wc ob _ _ _ _ hob5]; rfl
      have p1 : wc.cell? ⟨ob, 1, none⟩ = some (.int .i32 t) := by rw [cell_of_row wc ob _ _ _ _ hob5]; rfl
      have p2 : wc.cell? ⟨ob, 2, none⟩ = some (.int .i32 x) := by rw [cell_of_row wc ob _ _ _ _ hob5]; rfl
      obtain ⟨_, _, _, _, b4, _, _, _⟩ := hs5.c
      obtain ⟨a0, _, _⟩ := hs5.d
      have k0 := hs5.fh 0
      have hpl : pb < wc.heap.size := World.block_lt_of_cell? wc ⟨pb, 4, none⟩ b4
      have hhl : hb < wc.heap.size := World.block_lt_of_cell? wc ⟨hb, 0, none⟩ a0
      have hne5 : ∀ b, ro5 b ≠ 5 → some b ≠ (Value.slice oa ps.ops.length cap).ownBlock := fun b hb e => hb (hs5.r5 b e.symm)
      have hkk : ∀ w4 : World, (wc.drew.alloc (.cells #[.int .u8 o.k, .int .i32 t, .int .i32 x] 43)).grownBy w4 (Value.slice oa ps.ops.length cap).ownBlock → w4.cell? ⟨pb, 4, none⟩ = some (.pointer (some ⟨hb, 0, none⟩)) ∧ w4.cell? ⟨hb, 0, none⟩ = some (.slice oa ps.ops.length cap) ∧ w4.frozen? ⟨hb, 0, none⟩ = false := fun w4 hgr => by
        have e1 : w4.heap[pb]? = wc.heap[pb]? := (hgr.block pb (by simp; omega) (hne5 pb (by rw [hs5.r1]; decide))).trans (heap_alloc_old wc.drew _ hpl)
        have e2 : w4.heap[hb]? = wc.heap[hb]? := (hgr.block hb (by simp; omega) (hne5 hb (by rw [hs5.r2]; decide))).trans (heap_alloc_old wc.drew _ hhl)
        exact ⟨(World.cell?_of_block e1).trans b4, (World.cell?_of_block e2).trans a0, (World.frozen?_of_block e2).trans k0⟩
      have HO3 : Hid ((wc.drew.alloc (.cells #[.int .u8 o.k, .int .i32 t, .int .i32 x] 43)).ownsRow N 43 3 (.slice oa ps.ops.length cap) ps.ops.length (opsV ps.ops)) := World.ownsRow.alloc (w := wc.drew) hs5.ops _
      have HNW : Hid (∀ j u, [Value.int .u8 o.k, .int .i32 t, .int .i32 x][j]? = some u → (wc.drew.alloc (.cells #[.int .u8 o.k, .int .i32 t, .int .i32 x] 43)).cell? ((⟨wc.heap.size, 0, none⟩ : Addr).add j) = some u) :=
        World.news_of_block (cs := #[.int .u8 o.k, .int .i32 t, .int .i32 x]) (heap_alloc_new wc.drew _)
      have HNS : Hid (N ≤ (wc.drew.alloc (.cells #[.int .u8 o.k, .int .i32 t, .int .i32 x] 43)).heap.size) := by
        show _ ≤ _
        have h1 := hs5.siz
        simp
        omega
      have HKK : Hid (∀ w4 : World, (wc.drew.alloc (.cells #[.int .u8 o.k, .int .i32 t, .int .i32 x] 43)).grownBy w4 (Value.slice oa ps.ops.length cap).ownBlock → w4.cell? ⟨pb, 4, none⟩ = some (.pointer (some ⟨hb, 0, none⟩)) ∧ w4.cell? ⟨hb, 0, none⟩ = some (.slice oa ps.ops.length cap) ∧ w4.frozen? ⟨hb, 0, none⟩ = false) := hkk
      have HS5 : Hid (_) := hs5
      have HC5 : Hid (Ch [1, 2, 3, 4, 6, 7] w wc ro ro5) := hc5
      have HADD : Hid (Pl.addP ps o = { midPS ps o with ops := ps.ops ++ [(o.k, t, x)] }) := by
        show _ = _
        have := Pl.addP_ops ps o
        rw [HT.out, hx] at this
        unfold midPS
        rw [← this]
      clear hkk hne5 hc5 hs5 hob5 hx HOB HS3 HC3 HB3 ge3 gf3 o2 HV HEND HT
      obtain ⟨L0, hL0⟩ : ∃ L0, ps.ops.length = L0 := ⟨_, rfl⟩
      have HL0 : Hid (ps.ops.length = L0) := hL0
      rw [hL0] at a0 HKK HO3 hops
      clear hL0
      go_upto_region 17 with fail
      go_cut [] from 92 (fun wx => ∃ ro' vo vx vi la, Ch [1, 2, 3, 4, 5, 6, 7] w wx ro ro' ∧ St wx ro' N pb hb mt mi rb line col (.slice (some ⟨tg, 0, none⟩) (Pl.tokOf o).length tc) vo vx vi la (Pl.addP ps o))
      case first =>
        go_region_law (
          (refine step_append_lies _ rfl (.tmp 102) (.tmp 104) 32 rfl N 43 i0 _ 3 12 Tryf.underlying32 hi hz0 hz1 hz2 rfl (by decide) (.slice oa L0 cap) L0 (opsV ps.ops) rfl HO3.out ⟨wc.heap.size, 0, none⟩ 1 1 [.int .u8 o.k, .int .i32 t, .int .i32 x] rfl rfl HNW.out (by simp [Value.oneCell']) (by decide) (by unfold maxLen; omega) (by omega) HNS.out _ rfl ?_; intro g2 cap2 w4 hown hgrow hat hlt; obtain ⟨q4, q1, qf⟩ := HKK.out w4 hgrow))
        all_goals (
          go_wp2_with fail
          go_meet
          obtain rfl := HL0.out
          obtain ⟨ro', h1, h2⟩ := St.newOp HS5.out hown hgrow (hat.imp id (fun e => by simpa using e))
          exact ⟨ro', _, _, _, _, (HC5.out.mono (by simp)).trans (h1.mono (by simp)), HADD.out ▸ h2⟩)
      case rest =>
        go_wp2_with fail
        go_ret
        exact ⟨rfl, hcut⟩
end Go.Proofs.Qxb6609503aFmt
