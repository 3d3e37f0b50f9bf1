import Derived.Test.Qxb6609503aFmtMaps
import Derived.Test.Qxb6609503aFmtWalkF
import Derived.Maps.AppendAt
import Derived.Laws.OwnMore
namespace Go.Proofs.Qxb6609503aFmt
open Go.RowKit Go.PlainAid Go.Maps
set_option linter.unusedVariables false

/-- w' is w but for blocks whose role is on the list, and for new blocks. -/
structure Ch (S : List Nat) (w w' : World) (ro ro' : Nat → Nat) : Prop where
  os : w'.os = w.os
  tape : w'.tape = w.tape
  output : w'.output = w.output
  size : w.heap.size ≤ w'.heap.size
  block : ∀ k, k < w.heap.size → ro k ∉ S → w'.heap[k]? = w.heap[k]?
  role : ∀ k, k < w.heap.size → ro' k = ro k

theorem Ch.refl (S : List Nat) (w : World) (ro : Nat → Nat) : Ch S w w ro ro := ⟨rfl, rfl, rfl, Nat.le_refl _, fun _ _ _ => rfl, fun _ _ => rfl⟩
theorem Ch.trans {S : List Nat} {w w' w2 : World} {ro ro' ro2 : Nat → Nat} (a : Ch S w w' ro ro') (b : Ch S w' w2 ro' ro2) : Ch S w w2 ro ro2 :=
  ⟨b.os.trans a.os, b.tape.trans a.tape, b.output.trans a.output, Nat.le_trans a.size b.size,
   fun k hk hn => (b.block k (Nat.lt_of_lt_of_le hk a.size) (by rw [a.role k hk]; exact hn)).trans (a.block k hk hn),
   fun k hk => (b.role k (Nat.lt_of_lt_of_le hk a.size)).trans (a.role k hk)⟩
theorem Ch.mono {S T : List Nat} {w w' : World} {ro ro' : Nat → Nat} (a : Ch S w w' ro ro') (h : ∀ x ∈ S, x ∈ T) : Ch T w w' ro ro' :=
  ⟨a.os, a.tape, a.output, a.size, fun k hk hn => a.block k hk (fun hs => hn (h _ hs)), a.role⟩
theorem Ch.heap {S : List Nat} {w w' : World} {ro ro' : Nat → Nat} (a : Ch S w w' ro ro') {b : Nat} {o : Obj} (h : w.heap[b]? = some o) (hr : ro b ∉ S) : w'.heap[b]? = some o :=
  (a.block b (Array.getElem?_eq_some_iff.1 h).1 hr).trans h
theorem Ch.row {S : List Nat} {w w' : World} {ro ro' : Nat → Nat} (a : Ch S w w' ro ro') {N e z n : Nat} {v : Value} {xs : List Value} (h : w.ownsRow N e z v n xs) (hr : ∀ g, v.ownBlock = some g → ro g ∉ S) : w'.ownsRow N e z v n xs := by
  refine ⟨h.1, ?_⟩
  rcases h.2 with hn | ⟨g, cap, cur, rfl, hb, hgg, rest⟩
  · exact .inl hn
  · exact .inr ⟨g, cap, cur, rfl, hb, a.heap hgg (hr g rfl), rest⟩
theorem Ch.map {S : List Nat} {w w' : World} {ro ro' : Nat → Nat} (a : Ch S w w' ro ro') {k : TypeId} {R : Value → Option (DataW Unit × List MemPlace)} {b n : Nat} {D : DataW Unit} (h : w.ownsMap Tryf.prog k R b n D) (hr : ro b ∉ S) : w'.ownsMap Tryf.prog k R b n D := by
  have hlt := h.lt
  obtain ⟨es, clock, hb, F, hs, hD⟩ := h
  exact ⟨es, clock, (a.block b hlt hr).trans hb, F, hs, hD⟩
theorem Ch.bel {S : List Nat} {w w' : World} {ro ro' : Nat → Nat} (a : Ch S w w' ro ro') {N : Nat} (hN : N ≤ w.heap.size) (h : ∀ k, k < N → ro k ∉ S) : Below N w w' :=
  ⟨a.os, a.tape, a.output, a.size, fun k hk => a.block k (Nat.lt_of_lt_of_le hk hN) (h k hk)⟩
theorem Ch.role' {S : List Nat} {w w' : World} {ro ro' : Nat → Nat} (a : Ch S w w' ro ro') {b c : Nat} {o : Obj} (h : w.heap[b]? = some o) (hr : ro b = c) : ro' b = c :=
  (a.role b (Array.getElem?_eq_some_iff.1 h).1).trans hr
theorem Ch.roleRow {S : List Nat} {w w' : World} {ro ro' : Nat → Nat} (a : Ch S w w' ro ro') {N e z n c : Nat} {v : Value} {xs : List Value} (h : w.ownsRow N e z v n xs) (hr : ∀ g, v.ownBlock = some g → ro g = c) : ∀ g, v.ownBlock = some g → ro' g = c := fun g hg =>
  (a.role g (h.lt g hg).2).trans (hr g hg)
theorem Ch.ofGrown {w w' : World} {ro : Nat → Nat} {b c : Nat} (h : w.grownBy w' (some b)) (hr : ro b = c) : Ch [c] w w' ro ro :=
  ⟨h.os, h.tape, h.output, h.size, fun k hk hn => h.block k hk (fun e => hn (by cases e; simp [hr])), fun _ _ => rfl⟩
theorem Ch.ofDr {w w' : World} {ro : Nat → Nat} (h : Dr w w') : Ch [] w w' ro ro := by
  obtain ⟨n, rfl⟩ := h
  exact ⟨rfl, rfl, rfl, Nat.le_refl _, fun _ _ _ => rfl, fun _ _ => rfl⟩
/-- The roles with the blocks from M on set to c. -/
def newRole (ro : Nat → Nat) (M c : Nat) : Nat → Nat := fun k => if k < M then ro k else c
theorem newRole_old {ro : Nat → Nat} {M c k : Nat} (h : k < M) : newRole ro M c k = ro k := if_pos h
theorem newRole_new {ro : Nat → Nat} {M c : Nat} : newRole ro M c M = c := if_neg (by omega)
theorem Ch.alloc (w : World) (ro : Nat → Nat) (c : Nat) (o : Obj) : Ch [] w (w.alloc o) ro (newRole ro w.heap.size c) :=
  ⟨rfl, rfl, rfl, by simp, fun k hk _ => heap_alloc_old w o hk, fun k hk => newRole_old hk⟩
theorem Ch.setCell (w : World) (ro : Nat → Nat) {c : Nat} (a : Addr) (v : Value) (hr : ro a.block = c) : Ch [c] w (w.setCell a v) ro ro :=
  ⟨rfl, rfl, rfl, by rw [World.size_setCell]; exact Nat.le_refl _, fun k hk hn => Below.heap_setCell _ _ _ _ (fun e => hn (by rw [e, hr]; simp)), fun _ _ => rfl⟩
/-- append on a row of role c. -/
theorem Ch.append {w w' : World} {ro : Nat → Nat} {c : Nat} {v v' : Value} (h : w.grownBy w' v.ownBlock) (hr : ∀ g, v.ownBlock = some g → ro g = c) (hat : v'.ownBlock = v.ownBlock ∨ v'.ownBlock = some w.heap.size) (hlt : ∀ g, v.ownBlock = some g → g < w.heap.size) :
    Ch [c] w w' ro (newRole ro w.heap.size c) ∧ ∀ g, v'.ownBlock = some g → newRole ro w.heap.size c g = c := by
  refine ⟨⟨h.os, h.tape, h.output, h.size, fun k hk hn => h.block k hk (fun e => hn (by rw [hr k e.symm]; simp)), fun k hk => newRole_old hk⟩, fun g hg => ?_⟩
  rcases hat with e | e
  · rw [e] at hg
    rw [newRole_old (hlt g hg)]; exact hr g hg
  · rw [e] at hg
    cases hg
    exact newRole_new

/-- The cells of the three rows. -/
def opsV (l : List (Nat × Nat × Int)) : List Value := l.flatMap fun x => [.int .u8 x.1, .int .i32 x.2.1, .int .i32 x.2.2]
def txsV : List Nat → List Nat → List Value
  | n :: ns, e :: es => .int .u64 n :: .int .u8 e :: txsV ns es
  | _, _ => []
def itsV (l : List (List UInt8)) : List Value := l.map fun x => .string ⟨x.toArray⟩
theorem opsV_snoc (l : List (Nat × Nat × Int)) (k t : Nat) (x : Int) : opsV (l ++ [(k, t, x)]) = opsV l ++ [.int .u8 k, .int .i32 t, .int .i32 x] := by simp [opsV]
theorem itsV_snoc (l : List (List UInt8)) (x : List UInt8) : itsV (l ++ [x]) = itsV l ++ [.string ⟨x.toArray⟩] := by simp [itsV]
theorem txsV_snoc : ∀ (ns es : List Nat) (n e : Nat), es.length = ns.length → txsV (ns ++ [n]) (es ++ [e]) = txsV ns es ++ [.int .u64 n, .int .u8 e]
  | [], [], n, e, _ => rfl
  | n' :: ns, e' :: es, n, e, h => by
    have := txsV_snoc ns es n e (by simpa using h)
    simp [txsV, this]
theorem txsV_num : ∀ (ns es : List Nat) (t : Nat), es.length = ns.length → (txsV ns es)[2 * t]? = ns[t]?.map fun n => .int .u64 n
  | [], [], t, _ => by simp [txsV]
  | n' :: ns, e' :: es, 0, h => rfl
  | n' :: ns, e' :: es, t + 1, h => by
    have := txsV_num ns es t (by simpa using h)
    rw [show 2 * (t + 1) = 2 * t + 1 + 1 from by omega]
    simpa [txsV] using this
theorem txsV_end : ∀ (ns es : List Nat) (t : Nat), es.length = ns.length → (txsV ns es)[2 * t + 1]? = es[t]?.map fun n => .int .u8 n
  | [], [], t, _ => by simp [txsV]
  | n' :: ns, e' :: es, 0, h => rfl
  | n' :: ns, e' :: es, t + 1, h => by
    have := txsV_end ns es t (by simpa using h)
    rw [show 2 * (t + 1) + 1 = 2 * t + 1 + 1 + 1 from by omega]
    simpa [txsV] using this
theorem txsV_set : ∀ (ns es : List Nat) (t e : Nat), es.length = ns.length → (txsV ns es).set (2 * t + 1) (.int .u8 e) = txsV ns (es.set t e)
  | [], [], t, e, _ => by simp [txsV]
  | n' :: ns, e' :: es, 0, e, h => rfl
  | n' :: ns, e' :: es, t + 1, e, h => by
    have := txsV_set ns es t e (by simpa using h)
    rw [show 2 * (t + 1) + 1 = 2 * t + 1 + 1 + 1 from by omega]
    simpa [txsV] using this
theorem opsV_at : ∀ (l : List (Nat × Nat × Int)) (i k t : Nat) (x : Int), l[i]? = some (k, t, x) → (opsV l)[3 * i]? = some (.int .u8 k) ∧ (opsV l)[3 * i + 1]? = some (.int .i32 t) ∧ (opsV l)[3 * i + 2]? = some (.int .i32 x)
  | [], i, k, t, x, h => by simp at h
  | y :: l, 0, k, t, x, h => by
    simp at h
    subst h
    exact ⟨rfl, rfl, rfl⟩
  | y :: l, i + 1, k, t, x, h => by
    have := opsV_at l i k t x (by simpa using h)
    rw [show 3 * (i + 1) = 3 * i + 1 + 1 + 1 from by omega]
    simpa [opsV] using this

structure SInv (ps : Pl.PS) : Prop where
  nd : ps.nums.Nodup
  en : ps.ends.length = ps.nums.length

def parCells (rb hb mt mi : Nat) (line col : Int) (vt : Value) (la : Nat) : Obj :=
  .cells #[.pointer (some ⟨rb, 0, none⟩), .int .i64 line, .int .i64 col, vt, .pointer (some ⟨hb, 0, none⟩), .map (some mt), .map (some mi), .int .i32 la] 58

/-- The parser's memory holds the state ps. -/
structure St (w : World) (ro : Nat → Nat) (N pb hb mt mi rb : Nat) (line col : Int) (vt vo vx vi : Value) (la : Nat) (ps : Pl.PS) : Prop where
  par : w.heap[pb]? = some (parCells rb hb mt mi line col vt la)
  his : w.heap[hb]? = some (.cells #[vo, vx, vi] 35)
  ops : w.ownsRow N 43 3 vo ps.ops.length (opsV ps.ops)
  txs : w.ownsRow N 45 2 vx ps.nums.length (txsV ps.nums ps.ends)
  its : w.ownsRow N 9 1 vi ps.items.length (itsV ps.items)
  mT : ∃ D, OwnN w mt ps.nums.length D ∧ Numb nlit D ps.nums
  mI : ∃ D, OwnS w mi ps.items.length D ∧ Numb slit D ps.items
  r1 : ro pb = 1
  r2 : ro hb = 2
  r3 : ro mt = 3
  r4 : ro mi = 4
  r5 : ∀ g, vo.ownBlock = some g → ro g = 5
  r6 : ∀ g, vx.ownBlock = some g → ro g = 6
  r7 : ∀ g, vi.ownBlock = some g → ro g = 7
  siz : N ≤ w.heap.size
  inv : SInv ps
  la : la < ps.nums.length ∨ (ps.nums = [] ∧ la = 0)

/-- What touches none of the parser's own blocks leaves the state. -/
theorem St.other {w w' : World} {ro ro' : Nat → Nat} {N pb hb mt mi rb : Nat} {line col : Int} {vt vo vx vi : Value} {la : Nat} {ps : Pl.PS} {S : List Nat} (h : St w ro N pb hb mt mi rb line col vt vo vx vi la ps) (c : Ch S w w' ro ro') (hS : ∀ x ∈ S, 8 ≤ x) : St w' ro' N pb hb mt mi rb line col vt vo vx vi la ps := by
  have q : ∀ x, x < 8 → x ∉ S := fun x hx hm => by have := hS x hm; omega
  obtain ⟨D1, o1, n1⟩ := h.mT
  obtain ⟨D2, o2, n2⟩ := h.mI
  exact
    { par := c.heap h.par (by rw [h.r1]; exact q _ (by omega))
      his := c.heap h.his (by rw [h.r2]; exact q _ (by omega))
      ops := c.row h.ops (fun g hg => by rw [h.r5 g hg]; exact q _ (by omega))
      txs := c.row h.txs (fun g hg => by rw [h.r6 g hg]; exact q _ (by omega))
      its := c.row h.its (fun g hg => by rw [h.r7 g hg]; exact q _ (by omega))
      mT := ⟨D1, c.map o1 (by rw [h.r3]; exact q _ (by omega)), n1⟩
      mI := ⟨D2, c.map o2 (by rw [h.r4]; exact q _ (by omega)), n2⟩
      r1 := c.role' h.par h.r1
      r2 := c.role' h.his h.r2
      r3 := (c.role _ o1.lt).trans h.r3
      r4 := (c.role _ o2.lt).trans h.r4
      r5 := c.roleRow h.ops h.r5
      r6 := c.roleRow h.txs h.r6
      r7 := c.roleRow h.its h.r7
      siz := Nat.le_trans h.siz c.size
      inv := h.inv
      la := h.la }
end Go.Proofs.Qxb6609503aFmt
