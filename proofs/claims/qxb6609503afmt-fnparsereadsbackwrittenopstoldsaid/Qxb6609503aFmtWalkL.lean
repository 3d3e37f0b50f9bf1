import Derived.Test.Qxb6609503aFmtWalkK
import Derived.Laws.IdiomStrings
namespace Go.Proofs.Qxb6609503aFmt
open Go.RowKit Go.PlainAid Go.Maps
set_option linter.unusedVariables false

theorem conv22 {w : World} {g o cap : Nat} {l : List UInt8} (h : SlB w g o l) : (convert 22 9 (.slice (some ⟨g, o, none⟩) l.length cap)).run Tryf.prog w = .ok (.string ⟨l.toArray⟩) w := by
  refine run_convert_bytes_back w 22 9 5 ⟨g, o, none⟩ cap l Tryf.underlying22 Tryf.underlying5 Tryf.underlying9 (fun j hj => ?_)
  have := h j hj
  rw [List.getD_eq_getElem?_getD, List.getElem?_eq_getElem hj] at this
  rw [show (⟨g, o, none⟩ : Addr).add j = ⟨g, o + j, none⟩ from by unfold Addr.add; split <;> simp_all]
  exact this
theorem SlB.ch {w w' : World} {ro ro' : Nat → Nat} {S : List Nat} {g o : Nat} {l : List UInt8} (h : SlB w g o l) (hg : g < w.heap.size) (c : Ch S w w' ro ro') (hr : ro g ∉ S) : SlB w' g o l := fun j hj => by
  rw [World.cell?_of_block (a := ⟨g, o + j, none⟩) (c.block g hg hr)]
  exact h j hj

def withItem (ps : Pl.PS) (it : List UInt8) : Pl.PS := { ps with items := Pl.itemsOf ps it }
theorem withItem_in {ps : Pl.PS} {n : List UInt8} (h : n ∈ ps.items) : withItem ps n = ps := by
  unfold withItem Pl.itemsOf
  rw [if_pos h]
theorem withItem_new {ps : Pl.PS} {n : List UInt8} (h : n ∉ ps.items) : withItem ps n = { ps with items := ps.items ++ [n] } := by
  unfold withItem Pl.itemsOf
  rw [if_neg h]
def ItemPost (w : World) (ro : Nat → Nat) (N pb hb mt mi rb : Nat) (line col : Int) (vt vo vx : Value) (la : Nat) (ps : Pl.PS) (it : List UInt8) (e : Ending) (w' : World) : Prop :=
  e = .returned (.int .i32 (ps.items.idxOf it)) ∧ ∃ ro' vi', Ch [2, 4, 7] w w' ro ro' ∧ St w' ro' N pb hb mt mi rb line col vt vo vx vi' la (withItem ps it)

theorem St.newItem {w w2 w4 : World} {ro : Nat → Nat} {N pb hb mt mi rb : Nat} {line col : Int} {vt vo vx vi : Value} {la g cap : Nat} {it : List UInt8} {ps : Pl.PS} (h : St w ro N pb hb mt mi rb line col vt vo vx vi la ps) (hn : it ∉ ps.items)
    (c2 : Ch [4] w w2 ro ro) (hm : ∃ D', OwnS w2 mi (ps.items.length + 1) D' ∧ Numb slit D' (ps.items ++ [it]))
    (hown : w4.ownsRow N 9 1 (.slice (some ⟨g, 0, none⟩) (ps.items.length + 1) cap) (ps.items.length + 1) (itsV ps.items ++ [.string ⟨it.toArray⟩]))
    (hgr : (w2.drew.alloc (.cells #[.string ⟨it.toArray⟩] 9)).grownBy w4 vi.ownBlock) (hat : vi.ownBlock = some g ∨ g = w2.heap.size + 1) :
    ∃ ro', Ch [2, 4, 7] w (w4.setCell ⟨hb, 2, none⟩ (.slice (some ⟨g, 0, none⟩) (ps.items.length + 1) cap)) ro ro' ∧
      St (w4.setCell ⟨hb, 2, none⟩ (.slice (some ⟨g, 0, none⟩) (ps.items.length + 1) cap)) ro' N pb hb mt mi rb line col vt vo vx (.slice (some ⟨g, 0, none⟩) (ps.items.length + 1) cap) la (withItem ps it) := by
  obtain ⟨D2, o2, n2⟩ := h.mI
  obtain ⟨D1, o1, n1⟩ := h.mT
  obtain ⟨D3, o3, n3⟩ := hm
  have c3 : Ch [] w2 (w2.drew.alloc (.cells #[.string ⟨it.toArray⟩] 9)) ro (newRole ro w2.heap.size 0) := (Ch.ofDr ⟨1, rfl⟩ : Ch [] w2 w2.drew ro ro).trans (Ch.alloc w2.drew ro 0 _)
  have hsz : (w2.drew.alloc (.cells #[.string ⟨it.toArray⟩] 9)).heap.size = w2.heap.size + 1 := by simp
  have hlt2 : ∀ k, vi.ownBlock = some k → k < w2.heap.size := fun k hk => Nat.lt_of_lt_of_le (h.its.lt k hk).2 c2.size
  have c4 := Ch.append (v' := .slice (some ⟨g, 0, none⟩) (ps.items.length + 1) cap) (c := 7) (ro := newRole ro w2.heap.size 0) hgr (fun k hk => by rw [newRole_old (hlt2 k hk)]; exact h.r7 k hk) (by rcases hat with e | e; exact .inl (by rw [e]; rfl); exact .inr (by rw [hsz, e]; rfl)) (fun k hk => by rw [hsz]; have := hlt2 k hk; omega)
  have c24 : Ch [4, 7] w w4 ro (newRole (newRole ro w2.heap.size 0) (w2.drew.alloc (.cells #[.string ⟨it.toArray⟩] 9)).heap.size 7) := ((c2.mono (by simp)).trans (c3.mono (by simp))).trans (c4.1.mono (by simp))
  have hr7 := c4.2
  generalize newRole (newRole ro w2.heap.size 0) (w2.drew.alloc (.cells #[.string ⟨it.toArray⟩] 9)).heap.size 7 = ro' at c24 hr7 c4
  have hh4 : w4.heap[hb]? = some (.cells #[vo, vx, vi] 35) := c24.heap h.his (by rw [h.r2]; decide)
  have rh : ro' hb = 2 := c24.role' h.his h.r2
  have c5 : Ch [2] w4 (w4.setCell ⟨hb, 2, none⟩ (.slice (some ⟨g, 0, none⟩) (ps.items.length + 1) cap)) ro' ro' := Ch.setCell w4 ro' _ _ rh
  have cc : Ch [2, 4, 7] w (w4.setCell ⟨hb, 2, none⟩ (.slice (some ⟨g, 0, none⟩) (ps.items.length + 1) cap)) ro ro' := (c24.mono (by simp)).trans (c5.mono (by simp))
  have cm : Ch [7, 2] w2 (w4.setCell ⟨hb, 2, none⟩ (.slice (some ⟨g, 0, none⟩) (ps.items.length + 1) cap)) ro ro' := ((c3.mono (by simp)).trans (c4.1.mono (by simp))).trans (c5.mono (by simp))
  refine ⟨ro', cc, ?_⟩
  rw [withItem_new hn]
  exact
    { par := cc.heap h.par (by rw [h.r1]; decide)
      his := by rw [setCell_eq_setRow w4 hb 2 _ _ (0, 0) _ hh4]; exact setRow_heap w4 hb _ _ 35 (0, 0) hh4
      ops := cc.row h.ops (fun g hg => by rw [h.r5 g hg]; decide)
      txs := cc.row h.txs (fun g hg => by rw [h.r6 g hg]; decide)
      its := by
        show World.ownsRow _ N 9 1 _ (ps.items ++ [it]).length _
        rw [List.length_append, itsV_snoc]
        exact c5.row hown (fun k hk => by rw [hr7 k hk]; decide)
      mT := ⟨D1, cc.map o1 (by rw [h.r3]; decide), n1⟩
      mI := ⟨D3, by show World.ownsMap _ _ _ _ _ (ps.items ++ [it]).length _; rw [List.length_append]; exact cm.map o3 (by rw [h.r4]; decide), n3⟩
      r1 := cc.role' h.par h.r1
      r2 := rh
      r3 := (cc.role _ o1.lt).trans h.r3
      r4 := (cc.role _ o2.lt).trans h.r4
      r5 := cc.roleRow h.ops h.r5
      r6 := cc.roleRow h.txs h.r6
      r7 := hr7
      siz := Nat.le_trans h.siz cc.size
      inv := ⟨h.inv.nd, h.inv.en⟩
      la := h.la }

theorem idxI_new {l : List (List UInt8)} {n : List UInt8} (h : n ∉ l) : l.idxOf n = l.length := List.idxOf_eq_length h
set_option maxHeartbeats 4000000 in
set_option maxRecDepth 100000 in
theorem item_any (w : World) (ro : Nat → Nat) (N pb hb mt mi rb : Nat) (line col : Int) (vt vo vx vi : Value) (la : Nat) (ps : Pl.PS) (it : List UInt8) (tg tof tc : Nat)
    (h : St w ro N pb hb mt mi rb line col vt vo vx vi la ps) (hit : it.length ≤ 1048576) (hnl : ps.items.length ≤ 10000000) (htg : SlB w tg tof it) (htl : tg < w.heap.size) (hrt : ro tg = 8) :
    Calls Tryf.prog 25 #[.pointer (some ⟨pb, 0, none⟩), .slice (some ⟨tg, tof, none⟩) it.length tc] w fun e w' => ItemPost w ro N pb hb mt mi rb line col vt vo vx la ps it e w' := by
  obtain ⟨i0, hi, hz0, hz1, hz2⟩ := info_parts info9
  obtain ⟨c0, c1, c2, c3, c4, c5, c6, c7⟩ := h.c
  obtain ⟨d0, d1, d2⟩ := h.d
  have HS : Hid (St w ro N pb hb mt mi rb line col vt vo vx vi la ps) := h
  obtain ⟨D1, o1, n1⟩ := h.mI
  obtain ⟨s, hs⟩ : ∃ s : ByteArray, (⟨it.toArray⟩ : ByteArray) = s := ⟨_, rfl⟩
  have hsl : s.data.toList = it := by rw [← hs]
  have hss : s.size = it.length := by rw [← hsl]; simp
  have hlk : (Instr.lookup 37 (.map (some mi)) (.string s) true).run Tryf.prog w.drew = .ok (.tuple #[.int .i32 (if it ∈ ps.items then (ps.items.idxOf it : Int) else 0), .bool (decide (it ∈ ps.items))]) w.drew := by
    have := look37 (w := w.drew) (s := s) o1 n1 (by omega)
    rw [hsl] at this; exact this
  have hcv : (convert 22 9 (.slice (some ⟨tg, tof, none⟩) it.length tc)).run Tryf.prog w.drew = .ok (.string s) w.drew := by rw [← hs]; exact conv22 (w := w.drew) htg
  have HTG : Hid (SlB w tg tof it) := htg
  clear h c0 c1 c2 c3 c5 c7 d0 d1 htg
  by_cases hmem : it ∈ ps.items
  · rw [if_pos hmem, decide_eq_true hmem] at hlk
    have HMEM : Hid (it ∈ ps.items) := hmem
    clear hmem
    go_enter Tryf.func25, Tryf.ntmps25
    go_wp2_with fail
    go_region
    all_goals (
      go_wp2_with fail
      go_ret
      refine ⟨rfl, ro, vi, (Ch.ofDr ⟨1, rfl⟩ : Ch [] w w.drew ro ro).mono (by simp), ?_⟩
      rw [withItem_in HMEM.out]
      exact HS.out.other (Ch.ofDr ⟨1, rfl⟩ : Ch [] w w.drew ro ro) (by simp))
  · rw [if_neg hmem, decide_eq_false hmem] at hlk
    have HMEM : Hid (it ∉ ps.items) := hmem
    have hvi : ∃ oa cap, vi = .slice oa ps.items.length cap := by
      rcases HS.out.its.2 with ⟨hv, h0⟩ | ⟨g, cap, cur, hv, _⟩
      · exact ⟨none, 0, by rw [hv, h0]⟩
      · exact ⟨_, cap, hv⟩
    obtain ⟨oa, cap, rfl⟩ := hvi
    have hdr : Ch [] w w.drew.drew ro ro := Ch.ofDr ⟨2, rfl⟩
    have hsd : St w.drew.drew ro N pb hb mt mi rb line col vt vo vx (.slice oa ps.items.length cap) la ps := HS.out.other hdr (by simp)
    have hcv2 : (convert 22 9 (.slice (some ⟨tg, tof, none⟩) it.length tc)).run Tryf.prog w.drew.drew = .ok (.string s) w.drew.drew := by rw [← hs]; exact conv22 (w := w.drew.drew) HTG.out
    obtain ⟨w2, hup, hom, hgr⟩ := put37 (w := w.drew.drew) (s := s) o1 n1 (by omega) (by rw [hsl]; exact hmem) (by omega) (by omega)
    rw [hsl] at hom
    have hch2 : Ch [4] w.drew.drew w2 ro ro := Ch.ofGrown hgr hsd.r4
    have hpar2 := hch2.heap hsd.par (by rw [hsd.r1]; decide)
    have hhis2 := hch2.heap hsd.his (by rw [hsd.r2]; decide)
    have b4 : w2.cell? ⟨pb, 4, none⟩ = some (.pointer (some ⟨hb, 0, none⟩)) := by rw [cell_of_row w2 pb _ _ _ _ hpar2]; rfl
    have a2 : w2.cell? ⟨hb, 2, none⟩ = some (.slice oa ps.items.length cap) := by rw [cell_of_row w2 hb _ _ _ _ hhis2]; rfl
    have k2 := frozen_of_row w2 hb 2 _ _ hhis2
    have htg2 : SlB w2 tg tof it := SlB.ch (SlB.dr HTG.out ⟨2, rfl⟩) htl hch2 (by rw [hrt]; decide)
    have hcv3 : (convert 22 9 (.slice (some ⟨tg, tof, none⟩) it.length tc)).run Tryf.prog w2.drew = .ok (.string s) w2.drew := by rw [← hs]; exact conv22 (w := w2.drew) htg2
    have ho2 : w2.ownsRow N 9 1 (.slice oa ps.items.length cap) ps.items.length (itsV ps.items) := hch2.row hsd.its (fun g hg => by rw [hsd.r7 g hg]; decide)
    have hne7 : ∀ b, ro b ≠ 7 → some b ≠ (Value.slice oa ps.items.length cap).ownBlock := fun b hb e => hb (hsd.r7 b e.symm)
    have hNs : N ≤ (w2.drew.alloc (.cells #[.string s] 9)).heap.size := by
      have h1 := hsd.siz
      have h2 := hch2.size
      simp
      simp at h1 h2
      omega
    have hpl : pb < w2.heap.size := World.block_lt_of_cell? w2 ⟨pb, 4, none⟩ b4
    have hhl : hb < w2.heap.size := World.block_lt_of_cell? w2 ⟨hb, 2, none⟩ a2
    have hph : pb ≠ hb := fun e => by have h1 := hsd.r1; rw [e, hsd.r2] at h1; cases h1
    have hkk : ∀ w4 : World, (w2.drew.alloc (.cells #[.string s] 9)).grownBy w4 (Value.slice oa ps.items.length cap).ownBlock → w4.cell? ⟨pb, 4, none⟩ = some (.pointer (some ⟨hb, 0, none⟩)) ∧ w4.cell? ⟨hb, 2, none⟩ = some (.slice oa ps.items.length cap) ∧ w4.frozen? ⟨hb, 2, none⟩ = false := fun w4 hgr => by
      have e1 : w4.heap[pb]? = w2.heap[pb]? := (hgr.block pb (by simp; omega) (hne7 pb (by rw [hsd.r1]; decide))).trans (heap_alloc_old w2.drew _ hpl)
      have e2 : w4.heap[hb]? = w2.heap[hb]? := (hgr.block hb (by simp; omega) (hne7 hb (by rw [hsd.r2]; decide))).trans (heap_alloc_old w2.drew _ hhl)
      exact ⟨(World.cell?_of_block e1).trans b4, (World.cell?_of_block e2).trans a2, (World.frozen?_of_block e2).trans k2⟩
    have HO3 : Hid ((w2.drew.alloc (.cells #[.string s] 9)).ownsRow N 9 1 (.slice oa ps.items.length cap) ps.items.length (itsV ps.items)) := World.ownsRow.alloc (w := w2.drew) ho2 _
    have HNW : Hid (∀ j u, [Value.string s][j]? = some u → (w2.drew.alloc (.cells #[.string s] 9)).cell? ((⟨w2.heap.size, 0, none⟩ : Addr).add j) = some u) :=
      World.news_of_block (cs := #[.string s]) (heap_alloc_new w2.drew _)
    have HNS : Hid (N ≤ (w2.drew.alloc (.cells #[.string s] 9)).heap.size) := hNs
    have HKK : Hid (_) := hkk
    have HOM : Hid (_) := hom
    have HC2 : Hid (Ch [4] w.drew.drew w2 ro ro) := hch2
    have HSD : Hid (_) := hsd
    have HMEM : Hid (it ∉ ps.items) := hmem
    have HSL : Hid ((⟨it.toArray⟩ : ByteArray) = s) := hs
    clear hkk hom hch2 hsd hne7 hNs ho2 htg2 hpar2 hhis2 hgr hdr o1 n1 hmem hs hsl HTG
    obtain ⟨L, hL⟩ : ∃ L, ps.items.length = L := ⟨_, rfl⟩
    have HL : Hid (ps.items.length = L) := hL
    rw [hL] at hup HSD d2 a2 HKK HO3 hnl
    clear hL
    go_enter Tryf.func25, Tryf.ntmps25
    go_upto_region 5 with (go_region)
    clear hlk hcv
    go_region
    go_upto_region 6 with fail
    clear hup hcv2
    go_cut [] from 36 (fun wx => ∃ ro' vi', Ch [2, 4, 7] w wx ro ro' ∧ St wx ro' N pb hb mt mi rb line col vt vo vx vi' la (withItem ps it))
    case first =>
      go_region_law (
        (refine step_append_lies _ rfl (.tmp 46) (.tmp 49) 24 rfl N 9 i0 _ 1 16 Tryf.underlying24 hi hz0 hz1 hz2 rfl (by decide) (.slice oa L cap) L (itsV ps.items) rfl HO3.out ⟨w2.heap.size, 0, none⟩ 1 1 [.string s] rfl rfl HNW.out (by simp [Value.oneCell']) (by decide) (by unfold maxLen; omega) (by omega) HNS.out _ rfl ?_; intro g cap2 w4 hown hgrow hat hlt; obtain ⟨q4, q1, qf⟩ := HKK.out w4 hgrow))
      all_goals (
        go_wp2_with fail
        go_meet
        obtain rfl := HL.out
        obtain rfl := HSL.out
        obtain ⟨ro', h1, h2⟩ := St.newItem HSD.out HMEM.out HC2.out HOM.out hown hgrow (hat.imp id (fun e => by simpa using e))
        exact ⟨ro', _, ((Ch.ofDr ⟨2, rfl⟩ : Ch [] w w.drew.drew ro ro).mono (by simp)).trans h1, h2⟩)
    case rest =>
      go_wp2_with fail
      go_ret
      refine ⟨?_, hcut⟩
      rw [← HL.out, ← idxI_new HMEM.out]
      rfl
end Go.Proofs.Qxb6609503aFmt
