import Derived.Test.Qxb6612590aDoorWalkH
import Derived.Test.Qxb6612590aDoorPlain
namespace Go.Proofs.Qxb6612590aDoor
open Go.RowKit
set_option linter.unusedVariables false

set_option maxHeartbeats 400000 in
theorem closure_any (x : Int) (w : World) : Calls Tryd.prog 25 #[.int .i32 x] w fun e w' => e = .returned (.int .i32 (Pl.crF x)) ∧ w = w' := by
  by_cases h13 : x = 13
  · subst h13
    go_enter Tryd.func25, Tryd.ntmps25
    go_wp2
    go_ret
    exact ⟨rfl, rfl⟩
  · by_cases h10 : x = 10
    · subst h10
      go_enter Tryd.func25, Tryd.ntmps25
      go_wp2
      go_ret
      exact ⟨rfl, rfl⟩
    · have e1 : (x == 13) = false := beq_eq_false_iff_ne.2 h13
      have e2 : (x == 10) = false := beq_eq_false_iff_ne.2 h10
      have HF : Hid (Pl.crF x = x) := by unfold Pl.crF; rw [if_neg (by omega)]; exact rfl
      clear h13 h10
      go_enter Tryd.func25, Tryd.ntmps25
      go_wp2
      go_ret
      exact ⟨by rw [HF.out]; rfl, rfl⟩

theorem map_any (s : ByteArray) (w : World) (hs : s.size ≤ 1048576) (hT : Lib.Utf8Tabs 1 2 w) :
    Calls Tryd.prog 24 #[.func (.func 25) #[] #[], .string s] w fun e w' => e = .returned (.string ⟨(Pl.txt s.data.toList).toArray⟩) ∧ Below w.heap.size w w' := by
  refine Tryd.strings_Map_grows 25 #[] (fun args w => by kernel_rfl) Pl.crF s w (by omega) ?_ (fun x hx => by unfold Pl.crF; split <;> omega) hT
  intro W x hx hb
  refine (closure_any (x : Int) W).mono ?_
  rintro e w' ⟨rfl, hw⟩
  subst hw
  exact ⟨rfl, Below.refl _ _⟩

theorem Utf8Tabs_of_cells {g3 g4 B : Nat} {w w' : World} (h : Lib.Utf8Tabs g3 g4 w) (hb : Below B w w') (h3 : g4 < B ∧ g3 < B) : Lib.Utf8Tabs g3 g4 w' := by
  refine ⟨fun c hc => ?_, fun i hi => ?_⟩
  · rw [hb.cell (p := ⟨g3, _, none⟩) h3.2]; exact h.1 c hc
  · rw [hb.cell (p := ⟨g4, _, none⟩) h3.1, hb.cell (p := ⟨g4, _, none⟩) h3.1]; exact h.2 i hi
/-- The law's sink on the way: 'content' has been written. Everything below B is as in w0. -/
def St (w0 w : World) (B b db wb rw sk : Nat) (content : List UInt8) : Prop :=
  ∃ (f p : List UInt8) (row : Option Nat), Sink w b db wb f p row ∧ f ++ p = content ∧ Below B w0 w ∧ B ≤ w0.heap.size ∧ B ≤ b ∧ B ≤ db ∧ B ≤ wb ∧ (∀ g, row = some g → B ≤ g) ∧
    w.heap[rw]? = some (.cells #[.pointer (some ⟨wb, 0, none⟩)] 53 (0, 0)) ∧ w.heap[sk]? = some (.cells #[.pointer (some ⟨rw, 0, none⟩), .pointer (some ⟨b, 0, none⟩)] 48 (0, 0)) ∧
    (rw ≠ b ∧ rw ≠ db ∧ rw ≠ wb ∧ row ≠ some rw) ∧ (sk ≠ b ∧ sk ≠ db ∧ sk ≠ wb ∧ row ≠ some sk)

theorem St.size {w0 w : World} {B b db wb rw sk : Nat} {c : List UInt8} (h : St w0 w B b db wb rw sk c) : B ≤ w.heap.size := by
  obtain ⟨f, p, row, hS, _, hb, hB0, _⟩ := h
  exact Nat.le_trans hB0 hb.size
theorem St.rwc {w0 w : World} {B b db wb rw sk : Nat} {c : List UInt8} (h : St w0 w B b db wb rw sk c) : w.cell? ⟨rw, 0, none⟩ = some (.pointer (some ⟨wb, 0, none⟩)) := by
  obtain ⟨f, p, row, hS, _, hb, hB0, _, _, _, _, hr, _⟩ := h
  rw [Lib.cell_of_heap hr]; rfl
theorem St.wrote {w0 w w' : World} {B b db wb rw sk : Nat} {f p xs : List UInt8} {row : Option Nat} (hS : Sink w b db wb f p row) (hb : Below B w0 w) (hB0 : B ≤ w0.heap.size) (h1 : B ≤ b) (h2 : B ≤ db) (h3 : B ≤ wb) (h4 : ∀ g, row = some g → B ≤ g)
    (hr : w.heap[rw]? = some (.cells #[.pointer (some ⟨wb, 0, none⟩)] 53 (0, 0))) (hk : w.heap[sk]? = some (.cells #[.pointer (some ⟨rw, 0, none⟩), .pointer (some ⟨b, 0, none⟩)] 48 (0, 0)))
    (nr : rw ≠ b ∧ rw ≠ db ∧ rw ≠ wb ∧ row ≠ some rw) (nk : sk ≠ b ∧ sk ≠ db ∧ sk ≠ wb ∧ row ≠ some sk) (hW : Wrote w b db wb f p xs row w') : St w0 w' B b db wb rw sk (f ++ p ++ xs) := by
  obtain ⟨f', p', r', hS', hc, hF⟩ := hW
  have hBw : B ≤ w.heap.size := Nat.le_trans hB0 hb.size
  have hrl : rw < w.heap.size := Lib.lt_of_heap hr
  have hkl : sk < w.heap.size := Lib.lt_of_heap hk
  refine ⟨f', p', r', hS', hc, ⟨hF.os.trans hb.os, hF.tape.trans hb.tape, hF.output.trans hb.output, Nat.le_trans hb.size hF.size, fun k hkB => ?_⟩, hB0, h1, h2, h3, ?_, ?_, ?_, ⟨nr.1, nr.2.1, nr.2.2.1, ?_⟩, ⟨nk.1, nk.2.1, nk.2.2.1, ?_⟩⟩
  · rw [hF.block k (by omega) (by omega) (by omega) (by omega) (fun e => by have := h4 k e.symm; omega)]
    exact hb.block k hkB
  · intro g hg
    rcases hF.rows g hg with e | e
    · exact h4 g e
    · omega
  · rw [hF.block rw hrl nr.1 nr.2.1 nr.2.2.1 (fun e => nr.2.2.2 e.symm)]; exact hr
  · rw [hF.block sk hkl nk.1 nk.2.1 nk.2.2.1 (fun e => nk.2.2.2 e.symm)]; exact hk
  · intro e
    rcases hF.rows rw e with h | h
    · exact nr.2.2.2 h
    · omega
  · intro e
    rcases hF.rows sk e with h | h
    · exact nk.2.2.2 h
    · omega
theorem St.below {w0 w w' : World} {B b db wb rw sk : Nat} {c : List UInt8} (h : St w0 w B b db wb rw sk c) (hb : Below w.heap.size w w') : St w0 w' B b db wb rw sk c := by
  obtain ⟨f, p, row, hS, hc, hb0, hB0, h1, h2, h3, h4, hr, hk, nr, nk⟩ := h
  obtain ⟨cur, hcur, hsz, htk⟩ := hS.rw
  have blt : ∀ k o, w.heap[k]? = some o → w'.heap[k]? = w.heap[k]? := fun k o hk => hb.block k (by
    rcases Nat.lt_or_ge k w.heap.size with h | h
    · exact h
    · rw [Array.getElem?_eq_none h] at hk; cases hk)
  refine ⟨f, p, row, ⟨?_, (blt _ _ hS.wr).trans hS.wr, ⟨cur, (blt _ _ hcur).trans hcur, hsz, htk⟩, hS.le, hS.ne1, hS.ne2, hS.ne3, hS.ne4, hS.ne5⟩, hc, hb0.trans (hb.mono (Nat.le_trans hB0 hb0.size)), hB0, h1, h2, h3, h4, (blt _ _ hr).trans hr, (blt _ _ hk).trans hk, nr, nk⟩
  obtain ⟨lr, hB | ⟨g, cap, cu, e1, e2, e3, e4, e5⟩⟩ := hS.buf
  · exact ⟨lr, Or.inl ⟨hB.1, hB.2.1, (blt _ _ hB.2.2).trans hB.2.2⟩⟩
  · exact ⟨lr, Or.inr ⟨g, cap, cu, e1, e2, (blt _ _ e3).trans e3, (blt _ _ e4).trans e4, e5⟩⟩
theorem St.tabs {w0 w : World} {B b db wb rw sk : Nat} {c : List UInt8} (h : St w0 w B b db wb rw sk c) (hT : Lib.Utf8Tabs 1 2 w0) (hB : 2 < B) : Lib.Utf8Tabs 1 2 w := by
  obtain ⟨f, p, row, hS, _, hb, hB0, _⟩ := h
  exact Utf8Tabs_of_cells hT hb ⟨hB, by omega⟩
theorem st_byte {w0 w : World} {B b db wb rw sk : Nat} {c : List UInt8} (x : UInt8) (h : St w0 w B b db wb rw sk c) (hlim : c.length ≤ 140737488355328) :
    Calls Tryd.prog 22 #[.pointer (some ⟨wb, 0, none⟩), .int .u8 (x.toNat : Int)] w fun e w' => e = .returned .nilIface ∧ St w0 w' B b db wb rw sk (c ++ [x]) := by
  obtain ⟨f, p, row, hS, hc, hb0, hB0, h1, h2, h3, h4, hr, hk, nr, nk⟩ := h
  refine (writeByte_any w b db wb f p row x hS (by have := congrArg List.length hc; simp at this; omega)).mono ?_
  rintro e w' ⟨rfl, hW⟩
  rw [← hc]
  exact ⟨rfl, St.wrote hS hb0 hB0 h1 h2 h3 h4 hr hk nr nk hW⟩
theorem st_string {w0 w : World} {B b db wb rw sk : Nat} {c : List UInt8} (s : ByteArray) (h : St w0 w B b db wb rw sk c) (hlim : c.length + s.size ≤ 140737488355328) :
    Calls Tryd.prog 23 #[.pointer (some ⟨wb, 0, none⟩), .string s] w fun e w' => ∃ k : Int, e = .returned (.tuple #[.int .i64 k, .nilIface]) ∧ St w0 w' B b db wb rw sk (c ++ s.data.toList) := by
  obtain ⟨f, p, row, hS, hc, hb0, hB0, h1, h2, h3, h4, hr, hk, nr, nk⟩ := h
  refine (writeString_any w b db wb f p row s hS (by have := congrArg List.length hc; simp at this; omega)).mono ?_
  rintro e w' ⟨k, rfl, hW⟩
  rw [← hc]
  exact ⟨k, rfl, St.wrote hS hb0 hB0 h1 h2 h3 h4 hr hk nr nk hW⟩
end Go.Proofs.Qxb6612590aDoor
