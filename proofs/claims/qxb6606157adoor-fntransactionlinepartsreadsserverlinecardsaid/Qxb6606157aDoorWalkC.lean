import Derived.Test.Qxb6606157aDoorWalkB
import Derived.Test.Qxb6606157aDoorPlain
import Derived.Test.Qxb6606157aDoorShelf
namespace Go.Proofs.Qxb6606157aDoor
open Go.RowKit Go.PlainAid
set_option linter.unusedVariables false

/-! ### From the bytes' own words to the shelf's -/
theorem bt_getD (s : ByteArray) (k : Nat) (h : k < s.size) : bt s k = ((s.data.toList.getD k 0).toNat : Int) := by
  unfold bt
  rw [dif_pos h, List.getD, Array.getElem?_toList, Array.getElem?_eq_getElem (show k < s.data.size from h)]
  rfl
theorem seq_kinds : ∀ q ∈ Lib.spaceSeqs,
    (q.length = 1 ∧ (((q.getD 0 0).toNat : Int) = 32 ∨ (9 ≤ ((q.getD 0 0).toNat : Int) ∧ ((q.getD 0 0).toNat : Int) ≤ 13))) ∨
    (q.length = 2 ∧ ((q.getD 0 0).toNat : Int) = 194 ∧ (((q.getD 1 0).toNat : Int) = 133 ∨ ((q.getD 1 0).toNat : Int) = 160)) ∨
    (q.length = 3 ∧ sp3 ((q.getD 0 0).toNat : Int) ((q.getD 1 0).toNat : Int) ((q.getD 2 0).toNat : Int) = true) := by decide

theorem head_zero (l : List UInt8) (h : ∀ q ∈ Lib.spaceSeqs, q.isPrefixOf l = false) : Lib.headSpace l = 0 := by
  unfold Lib.headSpace
  rw [List.find?_eq_none.2 (fun q hq => by rw [h q hq]; simp)]
  rfl
theorem noHead_head (s : ByteArray) (h : NoHead s) : Lib.headSpace s.data.toList = 0 := by
  refine head_zero _ fun q hq => ?_
  cases hp : q.isPrefixOf s.data.toList with
  | false => rfl
  | true =>
    exfalso
    obtain ⟨t, ht⟩ := List.isPrefixOf_iff_prefix.1 hp
    have hsz : q.length + t.length = s.size := by
      have : (q ++ t).length = s.data.toList.length := by rw [ht]
      rw [List.length_append] at this
      rw [this]; simp
    have hg : ∀ j, j < q.length → bt s j = ((q.getD j 0).toNat : Int) := fun j hj => by
      rw [bt_getD s j (by omega), ← ht, List.getD, List.getElem?_append_left hj, List.getD]
    obtain ⟨n1, n2, n3⟩ := h
    rcases seq_kinds q hq with ⟨l1, hk⟩ | ⟨l2, hk⟩ | ⟨l3, hk⟩
    · rw [← hg 0 (by omega)] at hk; exact n1 ⟨by omega, hk⟩
    · rw [← hg 0 (by omega), ← hg 1 (by omega)] at hk; exact n2 ⟨by omega, hk⟩
    · rw [← hg 0 (by omega), ← hg 1 (by omega), ← hg 2 (by omega), n3 (by omega)] at hk; cases hk
theorem noTail_tail (s : ByteArray) (h : NoTail s) : Lib.tailSpace s.data.toList = 0 := by
  refine (Pl.tail_zero_iff _).2 fun q hq => ?_
  cases hp : q.isSuffixOf s.data.toList with
  | false => rfl
  | true =>
    exfalso
    obtain ⟨t, ht⟩ := List.isSuffixOf_iff_suffix.1 hp
    have hsz : t.length + q.length = s.size := by
      have : (t ++ q).length = s.data.toList.length := by rw [ht]
      rw [List.length_append] at this
      rw [this]; simp
    have hg : ∀ j, j < q.length → bt s (s.size - (q.length - j)) = ((q.getD j 0).toNat : Int) := fun j hj => by
      rw [bt_getD s _ (by omega), ← ht, List.getD, List.getElem?_append_right (by omega), List.getD, show s.size - (q.length - j) - t.length = j by omega]
    obtain ⟨n1, n2, n3⟩ := h
    rcases seq_kinds q hq with ⟨l1, hk⟩ | ⟨l2, hk⟩ | ⟨l3, hk⟩
    · have g0 := hg 0 (by omega); rw [l1] at g0
      rw [← g0] at hk; exact n1 ⟨by omega, hk⟩
    · have g0 := hg 0 (by omega); have g1 := hg 1 (by omega); rw [l2] at g0 g1
      rw [← g0, ← g1] at hk; exact n2 ⟨by omega, hk⟩
    · have g0 := hg 0 (by omega); have g1 := hg 1 (by omega); have g2 := hg 2 (by omega); rw [l3] at g0 g1 g2
      rw [← g0, ← g1, ← g2, n3 (by omega)] at hk; cases hk
theorem noB_not (l : List UInt8) (c : UInt8) (h : noB l (c.toNat : Int)) : c ∉ l := fun m => h c m rfl

/-! ### The line -/
def mkS (l : List UInt8) : ByteArray := ⟨l.toArray⟩
theorem mkS_data (l : List UInt8) : (mkS l).data.toList = l := rfl
theorem mkS_self (s : ByteArray) : mkS s.data.toList = s := rfl
theorem mkS_size (l : List UInt8) : (mkS l).size = l.length := by simp [mkS, ByteArray.size]

theorem mk_app (a b : List UInt8) : mkS a ++ mkS b = mkS (a ++ b) := by
  apply ByteArray.ext
  rw [ByteArray.data_append]
  simp [mkS]
theorem toList_data (s : ByteArray) : s.toList = s.data.toList := Lib.toList_data s

set_option maxHeartbeats 400000 in
theorem line_any (id st : ByteArray) (n : Int) (w : World) (h0 : -9223372036854775808 ≤ n) (h1 : n ≤ 9223372036854775807) (hi : id.size ≤ 1048576) (hs : st.size ≤ 1048576) :
    Calls Tryd.prog 12 #[.string id, .int .i64 n, .string st] w fun e w' => e = .returned (.string (mkS (Pl.line id.data.toList n st.data.toList))) ∧ Below w.heap.size w w' := by
  have hl := Lib.itoa_length_le n h0 h1
  cases hst : st.toList.isEmpty
  · have hne : st.data.toList ≠ [] := by rw [← toList_data]; intro e; rw [e] at hst; cases hst
    have HL : Hid (mkS (Pl.line id.data.toList n st.data.toList) = mkS [84, 82, 65, 78, 83, 65, 67, 84, 73, 79, 78, 32] ++ id ++ mkS [44, 32, 65, 67, 84, 73, 86, 69, 32] ++ mkS (Lib.itoa n) ++ mkS [32, 115, 101, 99] ++ mkS [32] ++ st) := by
      show _ = _ ++ mkS id.data.toList ++ _ ++ _ ++ _ ++ _ ++ mkS st.data.toList
      rw [mk_app, mk_app, mk_app, mk_app, mk_app, mk_app]
      congr 1
      simp [Pl.line, Pl.r1, Pl.r3, Pl.r4, Pl.tl, Pl.tag, Pl.act, hne]
    clear hne
    go_enter Tryd.func12, Tryd.ntmps12
    go_wp2_with (go_at_call 21; refine (itoa_any n _ h0 h1).mono ?_; rintro e w1 ⟨rfl, hb⟩)
    go_ret
    exact ⟨by rw [HL.out]; rfl, hb⟩
  · have he : st.data.toList = [] := by rw [← toList_data]; exact List.isEmpty_iff.1 hst
    have HL : Hid (mkS (Pl.line id.data.toList n st.data.toList) = mkS [84, 82, 65, 78, 83, 65, 67, 84, 73, 79, 78, 32] ++ id ++ mkS [44, 32, 65, 67, 84, 73, 86, 69, 32] ++ mkS (Lib.itoa n) ++ mkS [32, 115, 101, 99]) := by
      show _ = _ ++ mkS id.data.toList ++ _ ++ _ ++ _
      rw [mk_app, mk_app, mk_app, mk_app]
      congr 1
      simp [Pl.line, Pl.r1, Pl.r3, Pl.r4, Pl.tl, Pl.tag, Pl.act, he]
    clear he
    go_enter Tryd.func12, Tryd.ntmps12
    go_wp2_with (go_at_call 21; refine (itoa_any n _ h0 h1).mono ?_; rintro e w1 ⟨rfl, hb⟩)
    go_ret
    exact ⟨by rw [HL.out]; rfl, hb⟩
end Go.Proofs.Qxb6606157aDoor
