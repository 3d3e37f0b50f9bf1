import Derived.Test.Qxb6609503aFmtWalkP
import Derived.Test.Qxb6609503aFmtWalkD
namespace Go.Proofs.Qxb6609503aFmt
open Go.RowKit Go.PlainAid Go.Maps
set_option linter.unusedVariables false

theorem sep_len (i : Nat) : (Pl.sep i).length ≤ 2 := by
  unfold Pl.sep
  split
  · simp
  · split
    · simp
    · split <;> simp
theorem txt_len {n : Nat} {ks ns : Nat → Nat} {ss : Nat → ByteArray} (hn : ∀ j, j < n → 0 < ns j ∧ ns j < 18446744073709551616) : ∀ k, k ≤ n → (txtTo n ks ns ss k).length ≤ 25 * k + sumTo ss k
  | 0, _ => by simp [txtTo, Pl.textFrom, sumTo]
  | k + 1, hk => by
    have ih := txt_len (ks := ks) (ss := ss) hn k (by omega)
    have h1 := sep_len k
    have h2 := tok_len (opAt ks ns ss k)
    have h3 : (Pl.dec (ns k)).length ≤ 20 := dec_len 19 (ns k) (by have := hn k (by omega); omega)
    rw [txtTo_succ (by omega), List.length_append, List.length_append]
    have h4 : (Pl.dec (opAt ks ns ss k).n).length ≤ 20 := h3
    have h5 : (opAt ks ns ss k).it.length = (ss k).size := by unfold opAt; simp
    have h6 : sumTo ss (k + 1) = sumTo ss k + (ss k).size := rfl
    split at h2 <;> omega

def LawPost (w : World) (e : Ending) (w' : World) : Prop := e = .returned (.bool true) ∧ Below w.heap.size w w'

/-- The operations, and the state behind the first i of them. -/
abbrev Ol (n : Nat) (ks ns : Nat → Nat) (ss : Nat → ByteArray) : List Pl.Op3 := opsL n ks ns ss
def Ps (n : Nat) (ks ns : Nat → Nat) (ss : Nat → ByteArray) (i : Nat) : Pl.PS := Pl.stOf ((opsL n ks ns ss).take i)
theorem Ps_zero (n : Nat) (ks ns : Nat → Nat) (ss : Nat → ByteArray) : Ps n ks ns ss 0 = Pl.PS.init := rfl
theorem Ps_succ {n : Nat} {ks ns : Nat → Nat} {ss : Nat → ByteArray} {i : Nat} (h : i < n) : Ps n ks ns ss (i + 1) = Pl.addP (Ps n ks ns ss i) (opAt ks ns ss i) := by
  unfold Ps
  rw [opsL_take_succ h, Pl.stOf_snoc]
theorem Ps_full (n : Nat) (ks ns : Nat → Nat) (ss : Nat → ByteArray) : Ps n ks ns ss n = Pl.stOf (opsL n ks ns ss) := by
  unfold Ps
  rw [List.take_of_length_le (by rw [opsL_len]; exact Nat.le_refl _)]
theorem Ps_len (n : Nat) (ks ns : Nat → Nat) (ss : Nat → ByteArray) (i : Nat) (h : i ≤ n) : (Ps n ks ns ss i).nums.length ≤ i ∧ (Ps n ks ns ss i).items.length ≤ i := by
  induction i with
  | zero => rw [Ps_zero]; exact ⟨Nat.le_refl _, Nat.le_refl _⟩
  | succ i ih =>
    obtain ⟨h1, h2⟩ := ih (by omega)
    rw [Ps_succ (by omega)]
    constructor
    · rw [Pl.addP_nums]
      unfold Pl.numsOf
      split
      · omega
      · simp; omega
    · unfold Pl.addP Pl.itemsOf
      split
      · split
        · show (Ps n ks ns ss i).items.length ≤ _; omega
        · show ((Ps n ks ns ss i).items ++ [(opAt ks ns ss i).it]).length ≤ _; simp; omega
      · show (Ps n ks ns ss i).items.length ≤ _; omega

/-- What the first loop keeps. -/
structure L1 (n : Nat) (ks ns : Nat → Nat) (ss : Nat → ByteArray) (w3 wr : World) (mT mI mE : Nat) (i : Nat) : Prop where
  bel : Below w3.heap.size w3 wr
  nT : ∃ D, OwnN wr mT i D ∧ Numb nlit D (Ps n ks ns ss i).nums
  nI : ∃ D, OwnS wr mI i D ∧ Numb slit D (Ps n ks ns ss i).items
  nE : ∃ D, OwnE wr mE i D ∧ Ends D (Pl.endFn ((opsL n ks ns ss).take i))

theorem L1.start (n : Nat) (ks ns : Nat → Nat) (ss : Nat → ByteArray) (w3 : World) : L1 n ks ns ss w3 (((w3.alloc (.map #[] 0)).alloc (.map #[] 0)).alloc (.map #[] 0)) w3.heap.size (w3.heap.size + 1) (w3.heap.size + 1 + 1) 0 := by
  have s1 : (w3.alloc (.map #[] 0)).heap.size = w3.heap.size + 1 := by simp
  have s2 : ((w3.alloc (.map #[] 0)).alloc (.map #[] 0)).heap.size = w3.heap.size + 1 + 1 := by simp
  have a0 : (((w3.alloc (.map #[] 0)).alloc (.map #[] 0)).alloc (.map #[] 0)).heap[w3.heap.size]? = some (.map #[] 0) := by
    simp only [heap_new_if, s1, s2]
    rw [if_neg (by omega), if_neg (by omega), if_pos trivial]
  have a1 : (((w3.alloc (.map #[] 0)).alloc (.map #[] 0)).alloc (.map #[] 0)).heap[w3.heap.size + 1]? = some (.map #[] 0) := by
    simp only [heap_new_if, s1, s2]
    rw [if_neg (by omega), if_pos trivial]
  have a2 : (((w3.alloc (.map #[] 0)).alloc (.map #[] 0)).alloc (.map #[] 0)).heap[w3.heap.size + 1 + 1]? = some (.map #[] 0) := by
    simp only [heap_new_if, s1, s2]
    rw [if_pos trivial]
  exact ⟨(((Below.refl _ w3).alloc (Nat.le_refl _) _).alloc (by simp) _).alloc (by simp; omega) _, ⟨_, own_new a0, Numb.init _⟩, ⟨_, own_new a1, Numb.init _⟩, ⟨_, own_new a2, Ends.init⟩⟩
/-- Behind the transaction's number. -/
structure L1m (n : Nat) (ks ns : Nat → Nat) (ss : Nat → ByteArray) (w3 wr : World) (mT mI mE : Nat) (i : Nat) : Prop where
  bel : Below w3.heap.size w3 wr
  nT : ∃ D, OwnN wr mT (i + 1) D ∧ Numb nlit D (Pl.numsOf (Ps n ks ns ss i) (ns i))
  nI : ∃ D, OwnS wr mI i D ∧ Numb slit D (Ps n ks ns ss i).items
  nE : ∃ D, OwnE wr mE i D ∧ Ends D (Pl.endFn ((opsL n ks ns ss).take i))
theorem own_kept {w w' : World} {t : TypeId} {R : Value → Option (DataW Unit × List MemPlace)} {b n : Nat} {D : DataW Unit} (h : w.ownsMap Tryf.prog t R b n D) (hh : w'.heap[b]? = w.heap[b]?) : w'.ownsMap Tryf.prog t R b n D := by
  obtain ⟨es, clock, hb, rest⟩ := h
  exact ⟨es, clock, hh.trans hb, rest⟩
section
variable {n : Nat} {ks ns : Nat → Nat} {ss : Nat → ByteArray} {w3 wr : World} {i : Nat}
theorem L1.seen (h : L1 n ks ns ss w3 wr w3.heap.size (w3.heap.size + 1) (w3.heap.size + 1 + 1) i) (hm : ns i ∈ (Ps n ks ns ss i).nums) : L1m n ks ns ss w3 wr w3.heap.size (w3.heap.size + 1) (w3.heap.size + 1 + 1) i := by
  obtain ⟨D, o, hD⟩ := h.nT
  refine ⟨h.bel, ⟨D, o.mono (Nat.le_succ _), ?_⟩, h.nI, h.nE⟩
  unfold Pl.numsOf
  rw [if_pos hm]; exact hD
theorem L1.unseen (h : L1 n ks ns ss w3 wr w3.heap.size (w3.heap.size + 1) (w3.heap.size + 1 + 1) i) (hm : ns i ∉ (Ps n ks ns ss i).nums) {w4 : World} (ho : ∃ D', OwnN w4 w3.heap.size (i + 1) D' ∧ Numb nlit D' ((Ps n ks ns ss i).nums ++ [ns i])) (hg : wr.grownBy w4 (some w3.heap.size)) : L1m n ks ns ss w3 w4 w3.heap.size (w3.heap.size + 1) (w3.heap.size + 1 + 1) i := by
  obtain ⟨D2, o2, n2⟩ := h.nI
  obtain ⟨D3, o3, n3⟩ := h.nE
  refine ⟨h.bel.grown hg h.bel.size (fun k e => by cases e; exact Nat.le_refl _), ?_, ⟨D2, own_kept o2 (hg.block _ o2.lt (by intro e; injection e with e; omega)), n2⟩, ⟨D3, own_kept o3 (hg.block _ o3.lt (by intro e; injection e with e; omega)), n3⟩⟩
  unfold Pl.numsOf
  rw [if_neg hm]; exact ho
theorem L1m.alloc (h : L1m n ks ns ss w3 wr w3.heap.size (w3.heap.size + 1) (w3.heap.size + 1 + 1) i) (o : Obj) : L1m n ks ns ss w3 (wr.alloc o) w3.heap.size (w3.heap.size + 1) (w3.heap.size + 1 + 1) i := by
  obtain ⟨D1, o1, n1⟩ := h.nT
  obtain ⟨D2, o2, n2⟩ := h.nI
  obtain ⟨D3, o3, n3⟩ := h.nE
  exact ⟨h.bel.alloc h.bel.size o, ⟨D1, o1.alloc o, n1⟩, ⟨D2, o2.alloc o, n2⟩, ⟨D3, o3.alloc o, n3⟩⟩
theorem L1m.dr (h : L1m n ks ns ss w3 wr w3.heap.size (w3.heap.size + 1) (w3.heap.size + 1 + 1) i) (m : Nat) : L1m n ks ns ss w3 (wr.drewN m) w3.heap.size (w3.heap.size + 1) (w3.heap.size + 1 + 1) i := by
  obtain ⟨D1, o1, n1⟩ := h.nT
  obtain ⟨D2, o2, n2⟩ := h.nI
  obtain ⟨D3, o3, n3⟩ := h.nE
  exact ⟨⟨h.bel.os, h.bel.tape, h.bel.output, h.bel.size, h.bel.block⟩, ⟨D1, own_kept o1 rfl, n1⟩, ⟨D2, own_kept o2 rfl, n2⟩, ⟨D3, own_kept o3 rfl, n3⟩⟩
theorem nums_next (hi : i < n) : (Ps n ks ns ss (i + 1)).nums = Pl.numsOf (Ps n ks ns ss i) (ns i) := by rw [Ps_succ hi, Pl.addP_nums]; rfl
theorem items_next (hi : i < n) (hk : ks i ≤ 2) : (Ps n ks ns ss (i + 1)).items = Pl.itemsOf (Ps n ks ns ss i) (ss i).data.toList := by
  rw [Ps_succ hi]
  unfold Pl.addP
  rw [if_pos (show (opAt ks ns ss i).k ≤ 2 from hk)]; rfl
theorem items_same (hi : i < n) (hk : ¬ ks i ≤ 2) : (Ps n ks ns ss (i + 1)).items = (Ps n ks ns ss i).items := by
  rw [Ps_succ hi]
  unfold Pl.addP
  rw [if_neg (show ¬ (opAt ks ns ss i).k ≤ 2 from hk)]
theorem ends_same (hi : i < n) (hk : ks i ≤ 2) : Pl.endFn ((opsL n ks ns ss).take (i + 1)) = Pl.endFn ((opsL n ks ns ss).take i) := by
  funext m
  rw [opsL_take_succ hi, Pl.endFn_snoc, if_neg]
  rintro ⟨_, h⟩
  have : ks i = (opAt ks ns ss i).k := rfl
  omega
theorem ends_next (hi : i < n) (hk : ¬ ks i ≤ 2) : Pl.endFn ((opsL n ks ns ss).take (i + 1)) = fun m => if ns i = m then ks i else Pl.endFn ((opsL n ks ns ss).take i) m := by
  funext m
  rw [opsL_take_succ hi, Pl.endFn_snoc]
  have h3 : 3 ≤ (opAt ks ns ss i).k := by show 3 ≤ ks i; omega
  by_cases e : ns i = m
  · rw [if_pos ⟨e, h3⟩, if_pos e]; rfl
  · rw [if_neg (fun h => e h.1), if_neg e]
theorem L1m.seenI (h : L1m n ks ns ss w3 wr w3.heap.size (w3.heap.size + 1) (w3.heap.size + 1 + 1) i) (hi : i < n) (hk : ks i ≤ 2) (hm : (ss i).data.toList ∈ (Ps n ks ns ss i).items) : L1 n ks ns ss w3 wr w3.heap.size (w3.heap.size + 1) (w3.heap.size + 1 + 1) (i + 1) := by
  obtain ⟨D2, o2, n2⟩ := h.nI
  obtain ⟨D3, o3, n3⟩ := h.nE
  refine ⟨h.bel, by rw [nums_next hi]; exact h.nT, ⟨D2, o2.mono (Nat.le_succ _), ?_⟩, ⟨D3, o3.mono (Nat.le_succ _), by rw [ends_same hi hk]; exact n3⟩⟩
  rw [items_next hi hk]
  unfold Pl.itemsOf
  rw [if_pos hm]; exact n2
theorem L1m.unseenI (h : L1m n ks ns ss w3 wr w3.heap.size (w3.heap.size + 1) (w3.heap.size + 1 + 1) i) (hi : i < n) (hk : ks i ≤ 2) (hm : (ss i).data.toList ∉ (Ps n ks ns ss i).items) {w4 : World} (ho : ∃ D', OwnS w4 (w3.heap.size + 1) (i + 1) D' ∧ Numb slit D' ((Ps n ks ns ss i).items ++ [(ss i).data.toList])) (hg : wr.grownBy w4 (some (w3.heap.size + 1))) :
    L1 n ks ns ss w3 w4 w3.heap.size (w3.heap.size + 1) (w3.heap.size + 1 + 1) (i + 1) := by
  obtain ⟨D1, o1, n1⟩ := h.nT
  obtain ⟨D3, o3, n3⟩ := h.nE
  refine ⟨h.bel.grown hg h.bel.size (fun k e => by cases e; omega), ?_, ?_, ⟨D3, own_kept (o3.mono (Nat.le_succ _)) (hg.block _ o3.lt (by intro e; injection e with e; omega)), by rw [ends_same hi hk]; exact n3⟩⟩
  · rw [nums_next hi]
    exact ⟨D1, own_kept o1 (hg.block _ o1.lt (by intro e; injection e with e; omega)), n1⟩
  · rw [items_next hi hk]
    unfold Pl.itemsOf
    rw [if_neg hm]; exact ho
theorem L1m.ended (h : L1m n ks ns ss w3 wr w3.heap.size (w3.heap.size + 1) (w3.heap.size + 1 + 1) i) (hi : i < n) (hk : ¬ ks i ≤ 2) {w4 : World} (ho : ∃ D', OwnE w4 (w3.heap.size + 1 + 1) (i + 1) D' ∧ Ends D' (fun m => if ns i = m then ks i else Pl.endFn ((opsL n ks ns ss).take i) m)) (hg : wr.grownBy w4 (some (w3.heap.size + 1 + 1))) :
    L1 n ks ns ss w3 w4 w3.heap.size (w3.heap.size + 1) (w3.heap.size + 1 + 1) (i + 1) := by
  obtain ⟨D1, o1, n1⟩ := h.nT
  obtain ⟨D2, o2, n2⟩ := h.nI
  refine ⟨h.bel.grown hg h.bel.size (fun k e => by cases e; omega), ?_, ?_, ?_⟩
  · rw [nums_next hi]
    exact ⟨D1, own_kept o1 (hg.block _ o1.lt (by intro e; injection e with e; omega)), n1⟩
  · rw [items_same hi hk]
    exact ⟨D2, own_kept (o2.mono (Nat.le_succ _)) (hg.block _ o2.lt (by intro e; injection e with e; omega)), n2⟩
  · rw [ends_next hi hk]
    exact ho
end

/-- What is read of the history. -/
structure Hr (n : Nat) (ks ns : Nat → Nat) (ss : Nat → ByteArray) (W : World) (hb : Nat) (vo vx vi : Value) : Prop where
  h0 : W.cell? ⟨hb, 0, none⟩ = some vo
  h1 : W.cell? ⟨hb, 1, none⟩ = some vx
  h2 : W.cell? ⟨hb, 2, none⟩ = some vi
  ops : W.ownsRow 0 43 3 vo n (opsV (Ps n ks ns ss n).ops)
  txs : W.ownsRow 0 45 2 vx (Ps n ks ns ss n).nums.length (txsV (Ps n ks ns ss n).nums (Ps n ks ns ss n).ends)
  its : W.ownsRow 0 9 1 vi (Ps n ks ns ss n).items.length (itsV (Ps n ks ns ss n).items)
theorem row_below {w w' : World} {N e z n : Nat} {v : Value} {xs : List Value} (h : w.ownsRow N e z v n xs) (b : Below w.heap.size w w') : w'.ownsRow N e z v n xs := by
  refine ⟨h.1, ?_⟩
  rcases h.2 with hn | ⟨g, cap, cur, hv, hb, hg, rest⟩
  · exact .inl hn
  · exact .inr ⟨g, cap, cur, hv, hb, (b.block g (Array.getElem?_eq_some_iff.1 hg).1).trans hg, rest⟩
theorem Hr.below {n : Nat} {ks ns : Nat → Nat} {ss : Nat → ByteArray} {W X : World} {hb : Nat} {vo vx vi : Value} (h : Hr n ks ns ss W hb vo vx vi) (b : Below W.heap.size W X) : Hr n ks ns ss X hb vo vx vi :=
  ⟨cell_later b h.h0, cell_later b h.h1, cell_later b h.h2, row_below h.ops b, row_below h.txs b, row_below h.its b⟩

set_option maxHeartbeats 8000000 in
set_option maxRecDepth 100000 in
theorem law_any (oa ob oc : Option Addr) (n1 n2 n3 c1 c2 c3 : Nat) (ks ns : Nat → Nat) (ss : Nat → ByteArray) (w : World) (h1 : n1 ≤ maxLen) (h2 : n2 ≤ maxLen) (h3 : n3 ≤ maxLen)
    (hk : ∀ j, ks j < 256) (hn : ∀ j, ns j < 18446744073709551616) (hs : ∀ j, (ss j).size ≤ maxLen)
    (ha : Elems w oa n1 (fun j => .int .u8 (ks j))) (hb : Elems w ob n2 (fun j => .int .u64 (ns j))) (hc : Elems w oc n3 (fun j => .string (ss j)))
    (pE : Addr) (hE : w.cell? ⟨0, 0, none⟩ = some (.iface 108 (.pointer (some pE)))) :
    Calls Tryf.prog 3 #[.slice oa n1 c1, .slice ob n2 c2, .slice oc n3 c3] w fun e w' => LawPost w e w' := by
  have HA : Hid (Elems w oa n1 (fun j => .int .u8 (ks j))) := ha
  have HB : Hid (Elems w ob n2 (fun j => .int .u64 (ns j))) := hb
  have HC : Hid (Elems w oc n3 (fun j => .string (ss j))) := hc
  have HW : Hid (_) := within_any oa ob oc n1 n2 n3 c1 c2 c3 ks ns ss w h1 h2 h3 hk hn hs ha hb hc
  have HZ : Hid (_) := zzBytes_any oa ob oc n1 n2 n3 c1 c2 c3 ss w h1 h2 h3 hs hc
  clear ha hb hc
  unfold maxLen at h1 h2 h3
  go_enter Tryf.func3, Tryf.ntmps3
  go_wp2_with fail
  refine Calls.mono HZ.out ?_
  rintro e w0 ⟨r, rfl, hw⟩
  subst hw
  cases r
  · go_wp2_with fail
    go_ret
    exact ⟨rfl, Below.refl _ _⟩
  by_cases g1 : n1 ≤ 65536
  case neg =>
    go_wp2_with fail
    go_ret
    exact ⟨rfl, Below.refl _ _⟩
  by_cases g2 : n2 ≤ 65536
  case neg =>
    go_wp2_with fail
    go_ret
    exact ⟨rfl, Below.refl _ _⟩
  by_cases g3 : n3 ≤ 65536
  case neg =>
    go_wp2_with fail
    go_ret
    exact ⟨rfl, Below.refl _ _⟩
  clear HZ
  go_wp2_with fail
  refine Calls.mono HW.out ?_
  rintro e w1 ⟨r, rfl, hb1, hr⟩
  have HB1 : Hid (Below w.heap.size w w1) := hb1
  clear HW
  cases r
  · go_wp2_with fail
    go_ret
    exact ⟨rfl, HB1.out⟩
  obtain ⟨rfl, rfl, h16, htot, hgood⟩ := hr rfl
  have HG : Hid (Pl.Good (opsL n3 ks ns ss) n3) := hgood
  have hok : ∀ j, j < n3 → Pl.OpOk (opAt ks ns ss j) := fun j hj => (hgood j hj _ (opsL_at hj)).1
  have hA1 := HA.out.below hb1
  have hB1' := HB.out.below hb1
  have hC1 := HC.out.below hb1
  have hkk : ∀ j, j < n3 → 1 ≤ ks j ∧ ks j ≤ 4 := fun j hj => ⟨(hok j hj).k1, (hok j hj).k4⟩
  have hnn : ∀ j, j < n3 → 0 < ns j ∧ ns j < 18446744073709551616 := fun j hj => ⟨(hok j hj).n0, hn j⟩
  have HWR : Hid (Calls Tryf.prog 7 #[.slice oa n3 c1, .slice ob n3 c2, .slice oc n3 c3] w1 fun e w' => WritePost n3 ks ns ss w1 e w') :=
    write_any oa ob oc n3 c1 c2 c3 ks ns ss w1 h16 htot hkk hnn hA1 hB1' hC1
  have hlen := txt_len (ks := ks) (ss := ss) hnn n3 (Nat.le_refl _)
  have hE1 : w1.cell? ⟨0, 0, none⟩ = some (.iface 108 (.pointer (some pE))) := cell_later hb1 hE
  have HOK : Hid (∀ j, j < n3 → Pl.OpOk (opAt ks ns ss j)) := hok
  have HE1 : Hid (_) := hE1
  clear hA1 hB1' hC1 hkk hok hE hE1 hb1 hgood
  go_wp2_with fail
  refine HWR.out.mono ?_
  rintro e w2 ⟨v, rfl, hO⟩
  obtain ⟨T, hT⟩ : ∃ T, txtTo n3 ks ns ss n3 = T := ⟨_, rfl⟩
  rw [hT] at hO hlen
  have hcv : (convert 22 9 v).run Tryf.prog w2 = .ok (.string ⟨T.toArray⟩) w2 := by
    rcases hO.own.2 with ⟨rfl, h0⟩ | ⟨g, cap, cur, rfl, _⟩
    · obtain rfl : T = [] := List.length_eq_zero_iff.1 h0
      exact run_convert_bytes_nil w2 22 5 Tryf.underlying22 Tryf.underlying5 0 0 9 Tryf.underlying9
    · exact conv22 (row_SlB hO.own)
  have hpf : Pl.PF T [] Pl.PS.init (Ps n3 ks ns ss n3) := by
    rw [← hT, Ps_full]
    have := Pl.PF_text (opsL n3 ks ns ss) [] (by simpa [opsL_len] using HG.out)
    unfold txtTo
    rw [List.take_of_length_le (by rw [opsL_len]; exact Nat.le_refl _)]
    simpa [show Pl.stOf [] = Pl.PS.init from rfl] using this
  have HZP : Hid (Calls Tryf.prog 6 #[.string ⟨T.toArray⟩] w2 fun e w' => ZzPost w2 (Ps n3 ks ns ss n3) e w') :=
    zzParse_any ⟨T.toArray⟩ w2 (Ps n3 ks ns ss n3) pE (by show T.toArray.size ≤ _; simp; omega) hpf (cell_later hO.bel HE1.out)
  have HB2 : Hid (Below w.heap.size w w2) := HB1.out.trans (hO.bel.mono HB1.out.size)
  clear hO hpf HWR hlen hT HE1
  go_wp2_with fail
  refine HZP.out.mono ?_
  rintro e w3 ⟨hb, vo, vx, vi, rfl, hH, hb3⟩
  have HB3 : Hid (Below w.heap.size w w3) := HB2.out.trans (hb3.mono HB2.out.size)
  have hol : (Ps n3 ks ns ss n3).ops.length = n3 := by rw [Ps_full, (Pl.inv_stOf _).lo, opsL_len]
  have hHr : Hr n3 ks ns ss w3 hb vo vx vi := by
    refine ⟨?_, ?_, ?_, ?_, row_base hH.txs (Nat.zero_le _), row_base hH.its (Nat.zero_le _)⟩
    · rw [cell_of_row w3 hb _ _ _ _ hH.his]; rfl
    · rw [cell_of_row w3 hb _ _ _ _ hH.his]; rfl
    · rw [cell_of_row w3 hb _ _ _ _ hH.his]; rfl
    · have := row_base hH.ops (Nat.zero_le _)
      rw [hol] at this; exact this
  have HEN : Hid ((Ps n3 ks ns ss n3).ends.length = (Ps n3 ks ns ss n3).nums.length) := hH.en
  have HHR : Hid (Hr n3 ks ns ss w3 hb vo vx vi) := hHr
  have p0 := hHr.h0
  have hvo : ∃ oo co, vo = .slice oo n3 co := by
    rcases hHr.ops.2 with ⟨hv, h0⟩ | ⟨g, cap, cur, hv, _⟩
    · exact ⟨none, 0, by rw [hv, h0]⟩
    · exact ⟨_, cap, hv⟩
  obtain ⟨oo, co, rfl⟩ := hvo
  have HA3 : Hid (Elems w3 oa n3 (fun j => .int .u8 (ks j))) := HA.out.below HB3.out
  have HB3' : Hid (Elems w3 ob n3 (fun j => .int .u64 (ns j))) := HB.out.below HB3.out
  have HC3 : Hid (Elems w3 oc n3 (fun j => .string (ss j))) := HC.out.below HB3.out
  clear hH hb3 hHr hcv HZP HB2 HB1 HA HB HC HG hol
  have hmm := @run_makeMap Tryf.prog
  have hne : ((n3 : Int) != n3) = false := by simp
  go_wp2_with fail
  go_loopw [12] (fun i wr => ∃ k : Nat, k ≤ n3 ∧ i = .int .i64 k ∧ L1 n3 ks ns ss w3 wr w3.heap.size (w3.heap.size + 1) (w3.heap.size + 1 + 1) k) (fun i _ => n3 - (intOf i).toNat)
  case atStart => exact ⟨0, Nat.zero_le _, rfl, L1.start n3 ks ns ss w3⟩
  case round =>
    obtain ⟨i, hi, rfl, hL⟩ := hrel
    have HL : Hid (L1 n3 ks ns ss w3 wr w3.heap.size (w3.heap.size + 1) (w3.heap.size + 1 + 1) i) := hL
    by_cases hlt : i < n3
    case neg =>
      have ein : n3 = i := by omega
      subst ein
      obtain ⟨D1, o1, n1⟩ := hL.nT
      obtain ⟨D2, o2, n2⟩ := hL.nI
      obtain ⟨D3, o3, n3'⟩ := hL.nE
      have hlnT : ∀ m, (Builtin.len_ #[36] 3 #[.map (some w3.heap.size)]).run Tryf.prog (wr.drewN m) = .ok (.int .i64 ((Ps n3 ks ns ss n3).nums.length : Nat)) (wr.drewN m) := fun m => len36 (w := wr.drewN m) (own_kept o1 rfl) n1 3
      have hlnI : ∀ m, (Builtin.len_ #[37] 3 #[.map (some (w3.heap.size + 1))]).run Tryf.prog (wr.drewN m) = .ok (.int .i64 ((Ps n3 ks ns ss n3).items.length : Nat)) (wr.drewN m) := fun m => len37 (w := wr.drewN m) (own_kept o2 rfl) n2 3
      have hlkE : ∀ j m, (Instr.lookup 38 (.map (some (w3.heap.size + 1 + 1))) (.int .u64 (ns j : Int)) false).run Tryf.prog (wr.drewN m) = .ok (.int .u8 (Pl.endFn (opsL n3 ks ns ss) (ns j))) (wr.drewN m) := fun j m => by
        have := look38 (w := wr.drewN m) (own_kept o3 rfl) n3' (hn j)
        rw [List.take_of_length_le (by rw [opsL_len]; exact Nat.le_refl _)] at this
        exact this
      have HLKE : Hid (_) := hlkE
      have hHw := HHR.out.below hL.bel
      have HHW : Hid (Hr n3 ks ns ss wr hb (.slice oo n3 co) vx vi) := hHw
      have HBW : Hid (Below w3.heap.size w3 wr) := hL.bel
      obtain ⟨hpl1, hpl2⟩ := Ps_len n3 ks ns ss n3 (Nat.le_refl _)
      have hvx : ∃ ox cx, vx = .slice ox (Ps n3 ks ns ss n3).nums.length cx := by
        rcases hHw.txs.2 with ⟨hv, h0⟩ | ⟨g, cap, cur, hv, _⟩
        · exact ⟨none, 0, by rw [hv, h0]⟩
        · exact ⟨_, cap, hv⟩
      have hvi : ∃ oi ci, vi = .slice oi (Ps n3 ks ns ss n3).items.length ci := by
        rcases hHw.its.2 with ⟨hv, h0⟩ | ⟨g, cap, cur, hv, _⟩
        · exact ⟨none, 0, by rw [hv, h0]⟩
        · exact ⟨_, cap, hv⟩
      obtain ⟨ox, cx, rfl⟩ := hvx
      obtain ⟨oi, ci, rfl⟩ := hvi
      have r0 := hHw.h0
      have r1 := hHw.h1
      have r2 := hHw.h2
      obtain ⟨Lx, hLx⟩ : ∃ Lx, (Ps n3 ks ns ss n3).nums.length = Lx := ⟨_, rfl⟩
      obtain ⟨Li, hLi⟩ : ∃ Li, (Ps n3 ks ns ss n3).items.length = Li := ⟨_, rfl⟩
      rw [hLx] at hlnT r1 hpl1
      rw [hLi] at hlnI r2 hpl2
      have HLX : Hid ((Ps n3 ks ns ss n3).nums.length = Lx) := hLx
      have HLI : Hid ((Ps n3 ks ns ss n3).items.length = Li) := hLi
      have b1 : ((Lx : Int) != (Lx : Int)) = false := by simp
      have b2 : ((Li : Int) != (Li : Int)) = false := by simp
      clear hL o1 n1 o2 n2 o3 n3' hHw hlkE hLx hLi HHR
      go_upto_region 33 with fail
      go_quiet (fail)
      go_wp2_with fail
      obtain ⟨W, hW⟩ : ∃ W, W = wr := ⟨_, rfl⟩
      subst hW
      clear hlnT hlnI r1 r2 r0
      go_loopw [18] (fun j wx => ∃ k m : Nat, k ≤ n3 ∧ j = .int .i64 k ∧ wx = W.drewN m) (fun j _ => n3 - (intOf j).toNat)
      case atStart => exact ⟨0, nq, Nat.zero_le _, rfl, rfl⟩
      case round =>
        obtain ⟨k, m, hkn, rfl, rfl⟩ := hrel
        by_cases hlt2 : k < n3
        case neg =>
          go_wp2_with fail
          go_ret
          refine ⟨rfl, HB3.out.trans (Below.mono ?_ HB3.out.size)⟩
          exact ⟨HBW.out.os, HBW.out.tape, HBW.out.output, HBW.out.size, HBW.out.block⟩
        case pos =>
          obtain ⟨ab, rfl, _⟩ := HB3'.out k hlt2
          obtain ⟨ac, rfl, _⟩ := HC3.out k hlt2
          have qb : W.cell? (ab.add k) = some (.int .u64 (ns k)) := elem_at HB3'.out rfl HBW.out hlt2
          have qc : W.cell? (ac.add k) = some (.string (ss k)) := elem_at HC3.out rfl HBW.out hlt2
          obtain ⟨go, gc, hgo, _, _⟩ := HHW.out.ops.form (by omega)
          obtain ⟨rfl, rfl⟩ : oo = some ⟨go, 0, none⟩ ∧ co = gc := by
            simp only [Value.slice.injEq, true_and] at hgo
            exact hgo
          have hat := opsL_at (ks := ks) (ns := ns) (ss := ss) hlt2
          have ho := Pl.ops_at hat
          obtain ⟨hn1, hn2⟩ := Pl.nums_at hat
          have hen := Pl.ends_at (O := opsL n3 ks ns ss) (ns k)
          have hitm := Pl.items_at hat
          rw [← Ps_full] at ho hn1 hn2 hen hitm
          obtain ⟨e1, e2, e3⟩ := opsV_at _ _ _ _ _ ho
          rw [Nat.mul_comm 3 k] at e1 e2 e3
          obtain ⟨t, ht⟩ : ∃ t, (Pl.stOf ((opsL n3 ks ns ss).take k)).nums.idxOf (opAt ks ns ss k).n = t := ⟨_, rfl⟩
          obtain ⟨x, hx⟩ : ∃ x, Pl.itemIx (Pl.stOf ((opsL n3 ks ns ss).take k)) (opAt ks ns ss k) = x := ⟨_, rfl⟩
          rw [ht] at e2 hn1 hn2
          rw [hx] at e3
          have htl : t < (Ps n3 ks ns ss n3).nums.length := (List.getElem?_eq_some_iff.1 hn1).1
          obtain ⟨gx, gcx, hgx, _, _⟩ := HHW.out.txs.form (by omega)
          obtain ⟨rfl, rfl⟩ : ox = some ⟨gx, 0, none⟩ ∧ cx = gcx := by
            simp only [Value.slice.injEq, true_and] at hgx
            exact hgx
          have y0 := HHW.out.h0
          have y1 := HHW.out.h1
          have y2 := HHW.out.h2
          have z1 : W.cell? ⟨go, k * 3 + 1, none⟩ = some (.int .i32 t) := by rw [HHW.out.ops.cellAt (k * 3 + 1) (by omega)]; exact e2
          have z2 : W.cell? ⟨go, k * 3 + 2, none⟩ = some (.int .i32 x) := by rw [HHW.out.ops.cellAt (k * 3 + 2) (by omega)]; exact e3
          have t1 : W.cell? ⟨gx, t * 2, none⟩ = some (.int .u64 (ns k)) := by
            rw [HHW.out.txs.cellAt (t * 2) (by omega), Nat.mul_comm t 2, txsV_num _ _ _ HEN.out, hn1]; rfl
          have t2 : W.cell? ⟨gx, t * 2 + 1, none⟩ = some (.int .u8 (Pl.endFn (opsL n3 ks ns ss) (ns k))) := by
            rw [HHW.out.txs.cellAt (t * 2 + 1) (by omega), Nat.mul_comm t 2, txsV_end _ _ _ HEN.out]
            have h5 : (Ps n3 ks ns ss n3).nums.idxOf (ns k) = t := hn2
            rw [h5, List.getD_eq_getElem?_getD, List.getElem?_eq_getElem (by rw [HEN.out]; exact htl)] at hen
            rw [List.getElem?_eq_getElem (by rw [HEN.out]; exact htl)]
            show some (Value.int .u8 _) = _
            rw [show (Ps n3 ks ns ss n3).ends[t]'(by rw [HEN.out]; exact htl) = Pl.endFn (opsL n3 ks ns ss) (ns k) from hen]
          have hlk := HLKE.out k
          rw [HLX.out] at y1 htl
          rw [HLI.out] at y2
          obtain ⟨nn, hnn'⟩ : ∃ nn, ns k = nn := ⟨_, rfl⟩
          obtain ⟨en, hen'⟩ : ∃ en, Pl.endFn (opsL n3 ks ns ss) (ns k) = en := ⟨_, rfl⟩
          rw [hen', hnn'] at hlk
          rw [hen'] at t2
          rw [hnn'] at t1 qb
          have b3 : ((nn : Int) != (nn : Int)) = false := by simp
          have b4 : ((en : Int) != (en : Int)) = false := by simp
          have HX : Hid (Pl.itemIx (Pl.stOf ((opsL n3 ks ns ss).take k)) (opAt ks ns ss k) = x) := hx
          have HIT : Hid (_) := hitm
          clear hgo hgx e1 e2 e3 ho hn1 hn2 hen ht hx hnn' hen' hitm hat
          by_cases hk2 : ks k ≤ 2
          · obtain ⟨xi, hxi⟩ : ∃ xi : Nat, (Pl.stOf ((opsL n3 ks ns ss).take k)).items.idxOf (opAt ks ns ss k).it = xi := ⟨_, rfl⟩
            have hitm := HIT.out hk2
            rw [hxi] at hitm
            have hx : (xi : Int) = x := by
              rw [← HX.out, ← hxi]
              unfold Pl.itemIx
              rw [if_pos (show (opAt ks ns ss k).k ≤ 2 from hk2)]
            subst hx
            have hil : xi < (Ps n3 ks ns ss n3).items.length := (List.getElem?_eq_some_iff.1 hitm).1
            obtain ⟨gi, gci, hgi, _, _⟩ := HHW.out.its.form (by omega)
            obtain ⟨rfl, rfl⟩ : oi = some ⟨gi, 0, none⟩ ∧ ci = gci := by
              simp only [Value.slice.injEq, true_and] at hgi
              exact hgi
            have i1 : W.cell? ⟨gi, xi, none⟩ = some (.string (ss k)) := by
              rw [HHW.out.its.cellAt xi (by omega)]
              unfold itsV
              rw [List.getElem?_map, hitm]
              rfl
            rw [HLI.out] at hil
            clear hitm hxi hgi HIT HX
            go_wp2_with fail
            go_quiet (fail)
            go_wp2_with fail
            go_quiet (fail)
            go_wp2_with fail
            exact ⟨⟨k + 1, _, hlt2, by go_num, rfl⟩, by simp [intOf]; omega⟩
          · have hx : x = -1 := by
              rw [← HX.out]
              unfold Pl.itemIx
              rw [if_neg (show ¬ (opAt ks ns ss k).k ≤ 2 from hk2)]
            subst hx
            have b6 : decide ((0 : Int) ≤ -1) = false := by decide
            clear HIT HX
            go_wp2_with fail
            go_quiet (fail)
            go_wp2_with fail
            go_quiet (fail)
            go_wp2_with fail
            exact ⟨⟨k + 1, _, hlt2, by go_num, rfl⟩, by simp [intOf]; omega⟩
    case pos =>
      obtain ⟨aa, rfl, _⟩ := HA3.out i hlt
      obtain ⟨ab, rfl, _⟩ := HB3'.out i hlt
      obtain ⟨go, gc, hgo, _, _⟩ := HHR.out.ops.form (by omega)
      obtain ⟨rfl, rfl⟩ : oo = some ⟨go, 0, none⟩ ∧ co = gc := by
        simp only [Value.slice.injEq, true_and] at hgo
        exact hgo
      have QA : Hid (∀ W : World, Below w3.heap.size w3 W → W.cell? (aa.add i) = some (.int .u8 (ks i))) := fun W h => elem_at HA3.out rfl h hlt
      have QB : Hid (∀ W : World, Below w3.heap.size w3 W → W.cell? (ab.add i) = some (.int .u64 (ns i))) := fun W h => elem_at HB3'.out rfl h hlt
      have QO : Hid (∀ W : World, Below w3.heap.size w3 W → W.cell? ⟨hb, 0, none⟩ = some (.slice (some ⟨go, 0, none⟩) n3 co) ∧ W.cell? ⟨go, i * 3, none⟩ = some (.int .u8 (ks i)) ∧ W.cell? ⟨go, i * 3 + 1, none⟩ = some (.int .i32 ((Ps n3 ks ns ss i).nums.idxOf (ns i))) ∧ W.cell? ⟨go, i * 3 + 2, none⟩ = some (.int .i32 (Pl.itemIx (Ps n3 ks ns ss i) (opAt ks ns ss i)))) := fun W h => by
        have hh := HHR.out.below h
        have ho := Pl.ops_at (O := opsL n3 ks ns ss) (opsL_at hlt)
        rw [← Ps_full] at ho
        obtain ⟨e1, e2, e3⟩ := opsV_at _ _ _ _ _ ho
        rw [Nat.mul_comm 3 i] at e1 e2 e3
        refine ⟨hh.h0, ?_, ?_, ?_⟩
        · rw [hh.ops.cellAt (i * 3) (by omega)]; exact e1
        · rw [hh.ops.cellAt (i * 3 + 1) (by omega)]; exact e2
        · rw [hh.ops.cellAt (i * 3 + 2) (by omega)]; exact e3
      have qb := QB.out wr hL.bel
      obtain ⟨D1, o1, n1⟩ := hL.nT
      have hlk := look36 o1 n1 (hn i)
      have hln := len36 o1 n1 3
      obtain ⟨hl1, hl2⟩ := Ps_len n3 ks ns ss i hi
      have hok := HOK.out i hlt
      obtain ⟨kk, hkk⟩ : ∃ kk, ks i = kk := ⟨_, rfl⟩
      obtain ⟨nn, hnn'⟩ : ∃ nn, ns i = nn := ⟨_, rfl⟩
      obtain ⟨t, ht⟩ : ∃ t, (Ps n3 ks ns ss i).nums.idxOf (ns i) = t := ⟨_, rfl⟩
      obtain ⟨x, hx⟩ : ∃ x, Pl.itemIx (Ps n3 ks ns ss i) (opAt ks ns ss i) = x := ⟨_, rfl⟩
      have hk1 : 1 ≤ kk := hkk ▸ hok.k1
      have hk4 : kk ≤ 4 := hkk ▸ hok.k4
      have hnn2 : nn < 18446744073709551616 := hnn' ▸ hn i
      have HT : Hid ((Ps n3 ks ns ss i).nums.idxOf (ns i) = t) := ht
      have HX : Hid (Pl.itemIx (Ps n3 ks ns ss i) (opAt ks ns ss i) = x) := hx
      have HKK : Hid (ks i = kk) := hkk
      have HNN : Hid (ns i = nn) := hnn'
      rw [hkk, ht, hx] at QO
      rw [hkk] at QA
      rw [hnn'] at QB qb
      rw [ht, hnn'] at hlk
      obtain ⟨L, hLL⟩ : ∃ L, (Ps n3 ks ns ss i).nums.length = L := ⟨_, rfl⟩
      rw [hLL] at hln hl1
      have HLL : Hid ((Ps n3 ks ns ss i).nums.length = L) := hLL
      have hput := fun hm => put36 o1 n1 (hn i) hm (show i ≤ 10000000 by omega) (by rw [hLL]; omega)
      rw [hnn', hLL] at hput
      have HPUT : Hid (_) := hput
      clear hL ht hx hkk hnn' o1 n1 hLL hput
      go_upto_if 87 with fail
      go_cut [13, 14] from 71 to 164 (fun s13 s14 wx => s13 = .int .i32 t ∧ L1m n3 ks ns ss w3 wx w3.heap.size (w3.heap.size + 1) (w3.heap.size + 1 + 1) i)
      case first =>
        by_cases hm : nn ∈ (Ps n3 ks ns ss i).nums
        · rw [if_pos hm, decide_eq_true hm]
          have HM : Hid (nn ∈ (Ps n3 ks ns ss i).nums) := hm
          clear hm hlk
          go_wp2_with fail
          go_meet
          exact ⟨rfl, HL.out.seen (by rw [HNN.out]; exact HM.out)⟩
        · rw [if_neg hm, decide_eq_false hm]
          have HM : Hid (nn ∉ (Ps n3 ks ns ss i).nums) := hm
          obtain ⟨w4, hup, hom, hgr⟩ := HPUT.out hm
          have HOM : Hid (_) := hom
          have HGR : Hid (_) := hgr
          have htL : t = L := by rw [← HT.out, ← HLL.out, HNN.out]; exact idx_new hm
          clear hm hlk hom hgr
          subst htL
          go_wp2_with fail
          go_meet
          exact ⟨rfl, HL.out.unseen (by rw [HNN.out]; exact HM.out) (by rw [HNN.out]; exact HOM.out) HGR.out⟩
      case rest =>
        obtain ⟨rfl, hM⟩ := hcut
        have HM : Hid (L1m n3 ks ns ss w3 wc w3.heap.size (w3.heap.size + 1) (w3.heap.size + 1 + 1) i) := hM
        obtain ⟨y0, y1, y2, y3⟩ := QO.out wc hM.bel
        have hal : (wc.alloc (.cells #[.int .u8 kk, .int .i32 t, .int .i32 x] 43)).heap[wc.heap.size]? = some (.cells #[.int .u8 kk, .int .i32 t, .int .i32 x] 43) := heap_alloc_new wc _
        have HM2 : Hid (_) := hM.alloc (.cells #[.int .u8 kk, .int .i32 t, .int .i32 x] 43)
        have qa2 := QA.out _ (hM.alloc (.cells #[.int .u8 kk, .int .i32 t, .int .i32 x] 43)).bel
        have HAL : Hid (_) := hal
        clear hM hlk hln qb HPUT HL
        go_upto_region 21 with fail
        have HM0 : Hid (_) := HM.out
        clear y0 y1 y2 y3 hal HM
        generalize wc.alloc (.cells #[.int .u8 kk, .int .i32 t, .int .i32 x] 43) = X at HM2 HAL qa2
        have HOBN : Hid (some wc.heap.size ≠ some (w3.heap.size + 1) ∧ some wc.heap.size ≠ some (w3.heap.size + 1 + 1)) := by
          refine ⟨fun e => ?_, fun e => ?_⟩
          · injection e with e
            obtain ⟨D, o, _⟩ := HM0.out.nI
            have := o.lt
            omega
          · injection e with e
            obtain ⟨D, o, _⟩ := HM0.out.nE
            have := o.lt
            omega
        clear HM0
        generalize wc.heap.size = ob at HAL HOBN
        have x0 : X.cell? ⟨ob, 0, none⟩ = some (.int .u8 kk) := by rw [cell_of_row X ob _ _ _ _ HAL.out]; rfl
        have x1 : X.cell? ⟨ob, 1, none⟩ = some (.int .i32 t) := by rw [cell_of_row X ob _ _ _ _ HAL.out]; rfl
        have x2 : X.cell? ⟨ob, 2, none⟩ = some (.int .i32 x) := by rw [cell_of_row X ob _ _ _ _ HAL.out]; rfl
        have b1 : ((kk : Int) != (kk : Int)) = false := by simp
        have b2 : ((t : Int) != (t : Int)) = false := by simp
        go_quiet (fail)
        by_cases hk2 : kk ≤ 2
        · have hx : (((Ps n3 ks ns ss i).items.idxOf (ss i).data.toList : Nat) : Int) = x := by
            rw [← HX.out]
            unfold Pl.itemIx
            rw [if_pos (by show ks i ≤ 2; rw [HKK.out]; exact hk2)]
            rfl
          obtain ⟨ac, rfl, _⟩ := HC3.out i hlt
          have hMd := HM2.out.dr nq
          have qc : (X.drewN nq).cell? (ac.add i) = some (.string (ss i)) := elem_at HC3.out rfl hMd.bel hlt
          obtain ⟨D2, o2, n2⟩ := hMd.nI
          have hss := hs i
          have hsz : (ss i).size ≤ 10000000 := by
            have h5 : sumTo ss (i + 1) ≤ sumTo ss n3 := sumTo_mono _ hlt
            have h6 : sumTo ss (i + 1) = sumTo ss i + (ss i).size := rfl
            omega
          have hlk := look37 o2 n2 hsz
          have hln := len37 o2 n2 3
          have hput := fun hm => put37 o2 n2 hsz hm (show i ≤ 10000000 by omega) (by omega)
          have HPUT : Hid (_) := hput
          have HMD : Hid (_) := hMd
          have HX2 : Hid (_) := hx
          rw [hx] at hlk
          clear hMd o2 n2 hput hx
          have hk12 : kk = 1 ∨ kk = 2 := by omega
          have b3 : (x != x) = false := by simp
          rcases hk12 with rfl | rfl
          · skip
            by_cases hm : (ss i).data.toList ∈ (Ps n3 ks ns ss i).items
            · rw [if_pos hm, decide_eq_true hm] at hlk
              have HFIN : Hid (L1 n3 ks ns ss w3 (X.drewN nq) w3.heap.size (w3.heap.size + 1) (w3.heap.size + 1 + 1) (i + 1)) := HMD.out.seenI hlt (by rw [HKK.out]; decide) hm
              clear hm
              go_wp2_with fail
              go_roundw
              case measure => simp [intOf]; omega
              case rel => exact ⟨i + 1, hlt, by go_num, HFIN.out⟩
            · rw [if_neg hm, decide_eq_false hm] at hlk
              obtain ⟨w4, hup, hom, hgr⟩ := HPUT.out hm
              have HFIN : Hid (L1 n3 ks ns ss w3 w4 w3.heap.size (w3.heap.size + 1) (w3.heap.size + 1 + 1) (i + 1)) := HMD.out.unseenI hlt (by rw [HKK.out]; decide) hm hom hgr
              have hxl : x = (((Ps n3 ks ns ss i).items.length : Nat) : Int) := by rw [← HX2.out, idxI_new hm]
              have z2 : w4.cell? ⟨ob, 2, none⟩ = some (.int .i32 x) := (World.cell?_of_block (a := ⟨ob, 2, none⟩) (hgr.block ob (Nat.lt_of_lt_of_le (World.block_lt_of_cell? X ⟨ob, 2, none⟩ x2) (Nat.le_refl _)) (HOBN.out.1))).trans x2
              rw [hxl] at z2
              obtain ⟨L2, hL2⟩ : ∃ L2, (Ps n3 ks ns ss i).items.length = L2 := ⟨_, rfl⟩
              rw [hL2] at z2 hln hup hl2
              clear hm hom hgr hxl
              go_wp2_with fail
              go_roundw
              case measure => simp [intOf]; omega
              case rel => exact ⟨i + 1, hlt, by go_num, HFIN.out⟩
          · skip
            by_cases hm : (ss i).data.toList ∈ (Ps n3 ks ns ss i).items
            · rw [if_pos hm, decide_eq_true hm] at hlk
              have HFIN : Hid (L1 n3 ks ns ss w3 (X.drewN nq) w3.heap.size (w3.heap.size + 1) (w3.heap.size + 1 + 1) (i + 1)) := HMD.out.seenI hlt (by rw [HKK.out]; decide) hm
              clear hm
              go_wp2_with fail
              go_roundw
              case measure => simp [intOf]; omega
              case rel => exact ⟨i + 1, hlt, by go_num, HFIN.out⟩
            · rw [if_neg hm, decide_eq_false hm] at hlk
              obtain ⟨w4, hup, hom, hgr⟩ := HPUT.out hm
              have HFIN : Hid (L1 n3 ks ns ss w3 w4 w3.heap.size (w3.heap.size + 1) (w3.heap.size + 1 + 1) (i + 1)) := HMD.out.unseenI hlt (by rw [HKK.out]; decide) hm hom hgr
              have hxl : x = (((Ps n3 ks ns ss i).items.length : Nat) : Int) := by rw [← HX2.out, idxI_new hm]
              have z2 : w4.cell? ⟨ob, 2, none⟩ = some (.int .i32 x) := (World.cell?_of_block (a := ⟨ob, 2, none⟩) (hgr.block ob (Nat.lt_of_lt_of_le (World.block_lt_of_cell? X ⟨ob, 2, none⟩ x2) (Nat.le_refl _)) (HOBN.out.1))).trans x2
              rw [hxl] at z2
              obtain ⟨L2, hL2⟩ : ∃ L2, (Ps n3 ks ns ss i).items.length = L2 := ⟨_, rfl⟩
              rw [hL2] at z2 hln hup hl2
              clear hm hom hgr hxl
              go_wp2_with fail
              go_roundw
              case measure => simp [intOf]; omega
              case rel => exact ⟨i + 1, hlt, by go_num, HFIN.out⟩
        · have hx : x = -1 := by
            rw [← HX.out]
            unfold Pl.itemIx
            rw [if_neg (by show ¬ ks i ≤ 2; rw [HKK.out]; exact hk2)]
          subst hx
          have hMd := HM2.out.dr nq
          have qb2 : X.cell? (ab.add i) = some (.int .u64 nn) := QB.out X HM2.out.bel
          obtain ⟨D3, o3, n3'⟩ := hMd.nE
          obtain ⟨w4, hup, hom, hgr⟩ := put38 (w := X.drewN (nq + 1)) (k := kk) (own_kept o3 rfl) n3' hnn2 (by omega) (show i ≤ 10000000 by omega)
          have HFIN : Hid (L1 n3 ks ns ss w3 w4 w3.heap.size (w3.heap.size + 1) (w3.heap.size + 1 + 1) (i + 1)) := by
            have hM1 : L1m n3 ks ns ss w3 (X.drewN (nq + 1)) w3.heap.size (w3.heap.size + 1) (w3.heap.size + 1 + 1) i := HM2.out.dr (nq + 1)
            refine hM1.ended hlt (by rw [HKK.out]; exact hk2) ?_ hgr
            rw [HNN.out, HKK.out]
            exact hom
          have k1 : ((kk : Int) == 1) = false := beq_eq_false_iff_ne.2 (by omega)
          have k2 : ((kk : Int) == 2) = false := beq_eq_false_iff_ne.2 (by omega)
          clear hMd o3 n3' hom hgr
          go_wp2_with fail
          go_region
          all_goals (
            go_wp2_with fail
            go_roundw
            case measure => simp [intOf]; omega
            case rel => exact ⟨i + 1, hlt, by go_num, HFIN.out⟩)
end Go.Proofs.Qxb6609503aFmt
