import Derived.Test.Qxb6609503aFmtWalkO
namespace Go.Proofs.Qxb6609503aFmt
open Go.RowKit Go.PlainAid Go.Maps
set_option linter.unusedVariables false

/-- The history in the memory: the block hb. -/
structure His (w' : World) (N hb : Nat) (vo vx vi : Value) (ps : Pl.PS) : Prop where
  his : w'.heap[hb]? = some (.cells #[vo, vx, vi] 35)
  ops : w'.ownsRow N 43 3 vo ps.ops.length (opsV ps.ops)
  txs : w'.ownsRow N 45 2 vx ps.nums.length (txsV ps.nums ps.ends)
  its : w'.ownsRow N 9 1 vi ps.items.length (itsV ps.items)
  lt : N ≤ hb
  en : ps.ends.length = ps.nums.length
theorem row_base {w : World} {N M e z n : Nat} {v : Value} {xs : List Value} (h : w.ownsRow N e z v n xs) (hM : M ≤ N) : w.ownsRow M e z v n xs := by
  refine ⟨h.1, ?_⟩
  rcases h.2 with hn | ⟨g, cap, cur, hv, hb, rest⟩
  · exact .inl hn
  · exact .inr ⟨g, cap, cur, hv, by omega, rest⟩
def PaPost (w : World) (sb : Nat) (fin : Pl.PS) (e : Ending) (w' : World) : Prop :=
  ∃ hb vo vx vi, e = .returned (.tuple #[.pointer (some ⟨hb, 0, none⟩), .nilIface]) ∧ His w' w.heap.size hb vo vx vi fin ∧ w'.os = w.os ∧ w'.tape = w.tape ∧ w'.output = w.output ∧ w.heap.size ≤ w'.heap.size ∧ ∀ k, k < w.heap.size → k ≠ sb → w'.heap[k]? = w.heap[k]?

def roles (M sb : Nat) (k : Nat) : Nat := if k = sb then 10 else if k = M then 9 else if k = M + 1 then 11 else if k = M + 2 then 2 else if k = M + 3 then 3 else if k = M + 4 then 4 else if k = M + 5 then 1 else 0

theorem heap_new_if (w : World) (o : Obj) (k : Nat) : (w.alloc o).heap[k]? = if k = w.heap.size then some o else w.heap[k]? := by
  by_cases h : k = w.heap.size
  · subst h; rw [if_pos rfl]; exact heap_alloc_new w o
  · rw [if_neg h]
    rcases Nat.lt_or_ge k w.heap.size with h' | h'
    · exact heap_alloc_old w o h'
    · rw [Array.getElem?_eq_none (by simp; omega), Array.getElem?_eq_none h']
theorem alloc6 (w : World) (a b c d e f : Obj) (n : Nat) (hn : w.heap.size = n) :
    (∀ k, k < n → ((((((w.alloc a).alloc b).alloc c).alloc d).alloc e).alloc f).heap[k]? = w.heap[k]?) ∧ ((((((w.alloc a).alloc b).alloc c).alloc d).alloc e).alloc f).heap[n]? = some a ∧ ((((((w.alloc a).alloc b).alloc c).alloc d).alloc e).alloc f).heap[n + 1]? = some b ∧
    ((((((w.alloc a).alloc b).alloc c).alloc d).alloc e).alloc f).heap[n + 2]? = some c ∧ ((((((w.alloc a).alloc b).alloc c).alloc d).alloc e).alloc f).heap[n + 3]? = some d ∧ ((((((w.alloc a).alloc b).alloc c).alloc d).alloc e).alloc f).heap[n + 4]? = some e ∧ ((((((w.alloc a).alloc b).alloc c).alloc d).alloc e).alloc f).heap[n + 5]? = some f ∧
    ((((((w.alloc a).alloc b).alloc c).alloc d).alloc e).alloc f).heap.size = n + 6 := by
  have s1 : (w.alloc a).heap.size = n + 1 := by simp [hn]
  have s2 : ((w.alloc a).alloc b).heap.size = n + 2 := by simp [hn]
  have s3 : (((w.alloc a).alloc b).alloc c).heap.size = n + 3 := by simp [hn]
  have s4 : ((((w.alloc a).alloc b).alloc c).alloc d).heap.size = n + 4 := by simp [hn]
  have s5 : (((((w.alloc a).alloc b).alloc c).alloc d).alloc e).heap.size = n + 5 := by simp [hn]
  refine ⟨fun k hk => ?_, ?_, ?_, ?_, ?_, ?_, ?_, by simp [hn]⟩ <;> simp only [heap_new_if, s1, s2, s3, s4, s5, hn]
  · rw [if_neg (by omega), if_neg (by omega), if_neg (by omega), if_neg (by omega), if_neg (by omega), if_neg (by omega)]
  · rw [if_neg (by omega), if_neg (by omega), if_neg (by omega), if_neg (by omega), if_neg (by omega), if_pos trivial]
  · rw [if_neg (by omega), if_neg (by omega), if_neg (by omega), if_neg (by omega), if_pos trivial]
  · rw [if_neg (by omega), if_neg (by omega), if_neg (by omega), if_pos trivial]
  · rw [if_neg (by omega), if_neg (by omega), if_pos trivial]
  · rw [if_neg (by omega), if_pos trivial]
  · rw [if_pos trivial]
theorem own_new {W : World} {t : TypeId} {R : Value → Option (DataW Unit × List MemPlace)} {b : Nat} (h : W.heap[b]? = some (.map #[] 0)) : W.ownsMap Tryf.prog t R b 0 (.map []) := by
  obtain ⟨es, clock, hb, rest⟩ := World.ownsMap_made (H := Unit) W Tryf.prog t R
  have : (W.alloc (.map #[] 0)).heap[W.heap.size]? = some (.map #[] 0) := heap_alloc_new W _
  rw [hb] at this
  injection this with this
  exact ⟨es, clock, by rw [h, this], rest⟩

/-- The parser as it is made. -/
theorem start_PI (w : World) (sb : Nat) (s : ByteArray) (M : Array Value) (fin : Pl.PS) (hM : M.size = 65536) (hsr : w.heap[sb]? = some (srCells s 0 (-1))) (hpf : Pl.PF s.data.toList [] Pl.PS.init fin) (n : Nat) (hn : w.heap.size = n) :
    PI ((((((w.alloc (rdCells sb (n + 1) 0 0 (-1))).alloc (.cells M 5)).alloc (.cells #[.slice none 0 0, .slice none 0 0, .slice none 0 0] 35)).alloc (.map #[] 0)).alloc (.map #[] 0)).alloc (parCells n (n + 2) (n + 3) (n + 4) 1 1 (.slice none 0 0) 0))
      ((((((w.alloc (rdCells sb (n + 1) 0 0 (-1))).alloc (.cells M 5)).alloc (.cells #[.slice none 0 0, .slice none 0 0, .slice none 0 0] 35)).alloc (.map #[] 0)).alloc (.map #[] 0)).alloc (parCells n (n + 2) (n + 3) (n + 4) 1 1 (.slice none 0 0) 0))
      (roles n sb) (roles n sb) n (n + 5) (n + 2) (n + 3) (n + 4) n sb (n + 1) s 1 1 (.slice none 0 0) (.slice none 0 0) (.slice none 0 0) (.slice none 0 0) 0 Pl.PS.init fin 0 [] := by
  obtain ⟨a0, a1, a2, a3, a4, a5, a6, a7⟩ := alloc6 w (rdCells sb (n + 1) 0 0 (-1)) (.cells M 5) (.cells #[.slice none 0 0, .slice none 0 0, .slice none 0 0] 35) (.map #[] 0) (.map #[] 0) (parCells n (n + 2) (n + 3) (n + 4) 1 1 (.slice none 0 0) 0) n hn
  have hsl : sb < n := by rw [← hn]; exact Lib.lt_of_heap hsr
  generalize ((((((w.alloc (rdCells sb (n + 1) 0 0 (-1))).alloc (.cells M 5)).alloc (.cells #[.slice none 0 0, .slice none 0 0, .slice none 0 0] 35)).alloc (.map #[] 0)).alloc (.map #[] 0)).alloc (parCells n (n + 2) (n + 3) (n + 4) 1 1 (.slice none 0 0) 0)) = W at a0 a1 a2 a3 a4 a5 a6 a7
  have r10 : roles n sb sb = 10 := if_pos rfl
  have r9 : roles n sb n = 9 := by unfold roles; rw [if_neg (by omega), if_pos rfl]
  have r11 : roles n sb (n + 1) = 11 := by unfold roles; rw [if_neg (by omega), if_neg (by omega), if_pos rfl]
  have r2 : roles n sb (n + 2) = 2 := by unfold roles; rw [if_neg (by omega), if_neg (by omega), if_neg (by omega), if_pos rfl]
  have r3 : roles n sb (n + 3) = 3 := by unfold roles; rw [if_neg (by omega), if_neg (by omega), if_neg (by omega), if_neg (by omega), if_pos rfl]
  have r4 : roles n sb (n + 4) = 4 := by unfold roles; rw [if_neg (by omega), if_neg (by omega), if_neg (by omega), if_neg (by omega), if_neg (by omega), if_pos rfl]
  have r1 : roles n sb (n + 5) = 1 := by unfold roles; rw [if_neg (by omega), if_neg (by omega), if_neg (by omega), if_neg (by omega), if_neg (by omega), if_neg (by omega), if_pos rfl]
  exact
    { ch := Ch.refl _ _ _
      st :=
        { par := a6, his := a3, ops := World.ownsRow_nil _ _ _ _, txs := World.ownsRow_nil _ _ _ _, its := World.ownsRow_nil _ _ _ _
          mT := ⟨_, own_new a4, Numb.init _⟩
          mI := ⟨_, own_new a5, Numb.init _⟩
          r1 := r1, r2 := r2, r3 := r3, r4 := r4
          r5 := fun g hg => by cases hg
          r6 := fun g hg => by cases hg
          r7 := fun g hg => by cases hg
          siz := by omega
          inv := ⟨List.Pairwise.nil, rfl⟩
          la := .inr ⟨rfl, rfl⟩ }
      rd := ⟨0, 0, 0, -1, M, a1, by rw [a0 sb hsl]; exact hsr, a2, hM, Nat.le_refl _, Nat.zero_le _, Nat.zero_le _, rfl, fun i _ hi => absurd hi (Nat.not_lt_zero _)⟩
      r9 := r9, r10 := r10, r11 := r11
      tk := World.ownsRow_nil _ _ _ _
      r8 := fun g hg => by cases hg
      pf := hpf
      cnt := Nat.le_refl _
      nn := Nat.le_refl _
      ii := Nat.le_refl _
      jl := Nat.zero_le _
      l0 := by decide
      l1 := by decide
      c0 := by decide
      c1 := by decide }

set_option maxHeartbeats 4000000 in
set_option maxRecDepth 100000 in
theorem parse9_any (s : ByteArray) (sb : Nat) (w : World) (fin : Pl.PS) (pE : Addr) (hsr : w.heap[sb]? = some (srCells s 0 (-1))) (hsb : sb ≠ 0) (hs : s.size ≤ 1048576) (hpf : Pl.PF s.data.toList [] Pl.PS.init fin) (hE : w.cell? ⟨0, 0, none⟩ = some (.iface 108 (.pointer (some pE)))) :
    Calls Tryf.prog 9 #[.iface 49 (.pointer (some ⟨sb, 0, none⟩))] w fun e w' => PaPost w sb fin e w' := by
  have h0 : 0 < w.heap.size := World.block_lt_of_cell? w ⟨0, 0, none⟩ hE
  have hsl : sb < w.heap.size := Lib.lt_of_heap hsr
  have hmm := @run_makeMap Tryf.prog
  go_enter Tryf.func9, Tryf.ntmps9
  go_wp2_with fail
  refine (newRd_any sb w).mono ?_
  rintro e w1 ⟨rfl, M, hM, hw1⟩
  have hz1 : w1.heap.size = w.heap.size + 2 := by rw [hw1]; simp
  have HPI : Hid (_) := start_PI w sb s M fin hM hsr hpf w.heap.size rfl
  obtain ⟨a0, a1, a2, a3, a4, a5, a6, a7⟩ := alloc6 w (rdCells sb (w.heap.size + 1) 0 0 (-1)) (.cells M 5) (.cells #[.slice none 0 0, .slice none 0 0, .slice none 0 0] 35) (.map #[] 0) (.map #[] 0) (parCells w.heap.size (w.heap.size + 2) (w.heap.size + 3) (w.heap.size + 4) 1 1 (.slice none 0 0) 0) w.heap.size rfl
  have HA0 : Hid (_) := a0
  have HA7 : Hid (_) := a7
  clear a0 a1 a2 a3 a4 a5 a6 a7 hpf hsr
  go_wp2_with fail
  refine (parse_any _ (roles w.heap.size sb) w.heap.size (w.heap.size + 5) (w.heap.size + 2) (w.heap.size + 3) (w.heap.size + 4) w.heap.size sb (w.heap.size + 1) s 1 1 _ _ _ _ 0 Pl.PS.init fin pE HPI.out (by omega) (by omega) (by omega) hs ?_ ⟨by omega, hsb, by omega⟩ ?_).mono ?_
  · exact (World.cell?_of_block (a := ⟨0, 0, none⟩) (HA0.out 0 h0)).trans hE
  · unfold roles
    rw [if_neg (by omega), if_neg (by omega), if_neg (by omega), if_neg (by omega), if_neg (by omega), if_neg (by omega), if_neg (by omega)]
    decide
  rintro e w2 ⟨rfl, ro2, line2, col2, vt2, vo2, vx2, vi2, la2, hc2, hs2⟩
  obtain ⟨_, _, _, _, x4, _, _, _⟩ := hs2.c
  have HC2 : Hid (_) := hc2
  have HS2 : Hid (_) := hs2
  have hz2 := hc2.size
  clear hc2 hs2
  go_wp2_with fail
  go_ret2
  refine ⟨w.heap.size + 2, vo2, vx2, vi2, rfl, ⟨HS2.out.his, HS2.out.ops, HS2.out.txs, HS2.out.its, by omega, HS2.out.inv.en⟩, HC2.out.os, HC2.out.tape, HC2.out.output, ?_, fun k hk hne => ?_⟩
  · have h1 := HC2.out.size
    have h2 := HA7.out
    omega
  · refine (HC2.out.block k ?_ ?_).trans (HA0.out k hk)
    · have h2 := HA7.out
      omega
    · unfold roles
      rw [if_neg hne, if_neg (by omega), if_neg (by omega), if_neg (by omega), if_neg (by omega), if_neg (by omega), if_neg (by omega)]
      decide
def ZzPost (w : World) (fin : Pl.PS) (e : Ending) (w' : World) : Prop :=
  ∃ hb vo vx vi, e = .returned (.tuple #[.pointer (some ⟨hb, 0, none⟩), .nilIface]) ∧ His w' w.heap.size hb vo vx vi fin ∧ Below w.heap.size w w'
set_option maxHeartbeats 4000000 in
set_option maxRecDepth 100000 in
theorem zzParse_any (s : ByteArray) (w : World) (fin : Pl.PS) (pE : Addr) (hs : s.size ≤ 1048576) (hpf : Pl.PF s.data.toList [] Pl.PS.init fin) (hE : w.cell? ⟨0, 0, none⟩ = some (.iface 108 (.pointer (some pE)))) :
    Calls Tryf.prog 6 #[.string s] w fun e w' => ZzPost w fin e w' := by
  have h0 : 0 < w.heap.size := World.block_lt_of_cell? w ⟨0, 0, none⟩ hE
  have hE1 : (w.alloc (srCells s 0 (-1))).cell? ⟨0, 0, none⟩ = some (.iface 108 (.pointer (some pE))) := (World.cell?_of_block (a := ⟨0, 0, none⟩) (heap_alloc_old w _ h0)).trans hE
  have HP : Hid (Calls Tryf.prog 9 #[.iface 49 (.pointer (some ⟨w.heap.size, 0, none⟩))] (w.alloc (srCells s 0 (-1))) fun e w' => PaPost (w.alloc (srCells s 0 (-1))) w.heap.size fin e w') :=
    parse9_any s w.heap.size _ fin pE (heap_alloc_new w _) (by omega) hs hpf hE1
  go_enter Tryf.func6, Tryf.ntmps6
  go_wp2_with fail
  refine (newReader_any s w).mono ?_
  rintro e w1 ⟨rfl, hw1⟩
  subst hw1
  go_wp2_with fail
  refine HP.out.mono ?_
  rintro e w2 ⟨hb, vo, vx, vi, rfl, hH, h1, h2, h3, h4, h5⟩
  have HF : Hid (His w2 w.heap.size hb vo vx vi fin ∧ Below w.heap.size w w2) := by
    have hz : (w.alloc (srCells s 0 (-1))).heap.size = w.heap.size + 1 := by simp
    rw [hz] at hH h4 h5
    refine ⟨⟨hH.his, row_base hH.ops (by omega), row_base hH.txs (by omega), row_base hH.its (by omega), by have := hH.lt; omega, hH.en⟩, ⟨h1, h2, h3, by omega, fun k hk => ?_⟩⟩
    exact (h5 k (by omega) (by omega)).trans (heap_alloc_old w _ hk)
  clear hH h1 h2 h3 h4 h5
  go_wp2_with fail
  go_ret2
  exact ⟨hb, vo, vx, vi, rfl, HF.out.1, HF.out.2⟩

end Go.Proofs.Qxb6609503aFmt
