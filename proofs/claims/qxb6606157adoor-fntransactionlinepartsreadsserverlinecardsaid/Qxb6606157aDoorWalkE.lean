import Derived.Test.Qxb6606157aDoorWalkD
namespace Go.Proofs.Qxb6606157aDoor
open Go.RowKit Go.PlainAid
set_option linter.unusedVariables false

set_option maxHeartbeats 400000 in
theorem zzParts_any (id st : List UInt8) (n : Int) (w : World) (hT : Tabs w) (G : Good id st) (h0 : -9223372036854775808 ≤ n) (h1 : n ≤ 9223372036854775807) :
    Calls Tryd.prog 8 #[.string (mkS (Pl.line id n st))] w fun e w' => e = .returned (.tuple #[.string (mkS id), .int .i64 n, .string (mkS st), .bool true]) ∧ On w w' := by
  have HT : Hid (Tabs w) := hT
  have HG : Hid (Good id st) := G
  clear hT G
  go_enter Tryd.func8, Tryd.ntmps8
  go_wp2_with fail
  refine (parts_any id st n _ HT.out HG.out h0 h1).mono ?_
  rintro e w1 ⟨rfl, hT1⟩
  have HT1 : Hid (On w w1) := hT1
  clear hT1
  go_wp2_with fail
  refine bodyPost_ret (v := .tuple #[.string (mkS id), .int .i64 n, .string (mkS st), .bool true]) (by simp [results, Tryd.results8, go_sem]) rfl ?_
  exact ⟨rfl, HT1.out⟩

set_option maxHeartbeats 1000000 in
theorem law_any (id st : ByteArray) (n : Int) (w : World) (hT : Tabs w) (hi : id.size ≤ maxLen) (hs : st.size ≤ maxLen) (h0 : -9223372036854775808 ≤ n) (h1 : n ≤ 9223372036854775807) :
    Calls Tryd.prog 4 #[.string id, .int .i64 n, .string st] w fun e w' => e = .returned (.bool true) ∧ Below w.heap.size w w' := by
  have HT : Hid (On w w) := ⟨Below.refl _ _, hT⟩
  clear hT
  cases hB : BytesOk id st
  · go_enter Tryd.func4, Tryd.ntmps4
    go_wp2_with fail
    refine (zzBytes_any id st n _ hi hs).mono ?_
    rintro e w1 ⟨rfl, hw⟩
    subst hw
    go_wp2_with fail
    go_ret
    exact ⟨rfl, Below.refl _ _⟩
  · have hsum : id.size + st.size ≤ 1048576 := by simpa [BytesOk] using hB
    by_cases hsz : id.size ≤ 524288 ∧ st.size ≤ 524288
    case neg =>
      go_enter Tryd.func4, Tryd.ntmps4
      go_wp2_with fail
      refine (zzBytes_any id st n _ hi hs).mono ?_
      rintro e w1 ⟨rfl, hw⟩
      subst hw
      by_cases h5 : id.size ≤ 524288
      · have h6 : ¬ st.size ≤ 524288 := fun h => hsz ⟨h5, h⟩
        go_wp2_with fail
        go_ret
        exact ⟨rfl, Below.refl _ _⟩
      · go_wp2_with fail
        go_ret
        exact ⟨rfl, Below.refl _ _⟩
    obtain ⟨hi5, hs5⟩ := hsz
    cases he : id.toList.isEmpty
    case true =>
      go_enter Tryd.func4, Tryd.ntmps4
      go_wp2_with fail
      refine (zzBytes_any id st n _ hi hs).mono ?_
      rintro e w1 ⟨rfl, hw⟩
      subst hw
      go_wp2_with fail
      go_ret
      exact ⟨rfl, Below.refl _ _⟩
    go_enter Tryd.func4, Tryd.ntmps4
    go_wp2_with fail
    refine (zzBytes_any id st n w hi hs).mono ?_
    rintro e w1 ⟨rfl, hw⟩
    rw [hw]
    clear hw w1
    go_wp2_with fail
    refine (trimSpace_any id _ hi).mono ?_
    rintro e w2 ⟨t, rfl, hD, ht⟩
    have HT2 : Hid (On w w2) := HT.out.next hD.below
    clear hD
    by_cases htid : t = id
    case neg =>
      have hq : (t.toList == id.toList) = false := by
        rw [toList_data, toList_data]
        cases h : (t.data.toList == id.data.toList)
        · rfl
        · exact absurd (ByteArray.ext (Array.toList_inj.1 (by simpa using h))) htid
      clear htid ht
      go_wp2_with fail
      go_ret
      exact ⟨rfl, HT2.out.b⟩
    have h2 := htid.symm
    subst h2
    clear htid
    have HN : Hid (NoHead id ∧ NoTail id) := ht rfl
    clear ht
    go_wp2_with fail
    refine (indexByte_any id 32 _ hi).mono ?_
    rintro e w3 ⟨r, rfl, hw, hr⟩
    subst hw
    by_cases hr0 : 0 ≤ r
    case pos =>
      clear hr
      go_wp2_with fail
      go_ret
      exact ⟨rfl, HT2.out.b⟩
    obtain ⟨rfl, hn32⟩ : r = -1 ∧ noB id.data.toList 32 := hr.resolve_left hr0
    have HN32 : Hid (noB id.data.toList 32) := hn32
    clear hn32 hr hr0
    go_wp2_with fail
    refine (indexByte_any id 44 _ hi).mono ?_
    rintro e w3 ⟨r, rfl, hw, hr⟩
    subst hw
    by_cases hr0 : 0 ≤ r
    case pos =>
      clear hr
      go_wp2_with fail
      go_ret
      exact ⟨rfl, HT2.out.b⟩
    obtain ⟨rfl, hn44⟩ : r = -1 ∧ noB id.data.toList 44 := hr.resolve_left hr0
    have HN44 : Hid (noB id.data.toList 44) := hn44
    clear hn44 hr hr0
    go_wp2_with fail
    refine (trimSpace_any st _ hs).mono ?_
    rintro e w4 ⟨t, rfl, hD, ht⟩
    have HT4 : Hid (On w w4) := HT2.out.next hD.below
    clear hD HT2
    by_cases htid : t = st
    case neg =>
      have hq : (t.toList == st.toList) = false := by
        rw [toList_data, toList_data]
        cases h : (t.data.toList == st.data.toList)
        · rfl
        · exact absurd (ByteArray.ext (Array.toList_inj.1 (by simpa using h))) htid
      clear htid ht
      go_wp2_with fail
      go_ret
      exact ⟨rfl, HT4.out.b⟩
    have h2 := htid.symm
    subst h2
    clear htid
    have HNs : Hid (NoHead st ∧ NoTail st) := ht rfl
    clear ht
    go_wp2_with fail
    refine (indexByte_any st 44 _ hs).mono ?_
    rintro e w5 ⟨r, rfl, hw, hr⟩
    subst hw
    by_cases hr0 : 0 ≤ r
    case pos =>
      clear hr
      go_wp2_with fail
      go_ret
      exact ⟨rfl, HT4.out.b⟩
    obtain ⟨rfl, hns⟩ : r = -1 ∧ noB st.data.toList 44 := hr.resolve_left hr0
    have HNs44 : Hid (noB st.data.toList 44) := hns
    clear hns hr hr0
    have HG : Hid (Good id.data.toList st.data.toList) := {
      ne := he
      b32 := noB_not _ 32 HN32.out
      b44 := noB_not _ 44 HN44.out
      s44 := noB_not _ 44 HNs44.out
      ti := Pl.trim_id _ (noHead_head id HN.out.1) (noTail_tail id HN.out.2)
      hs := noHead_head st HNs.out.1
      ts := noTail_tail st HNs.out.2
      li := by simp; omega
      ls := by simp; omega }
    clear HN32 HN44 HNs44 HN HNs
    go_wp2_with fail
    refine (line_any id st n _ h0 h1 (by omega) (by omega)).mono ?_
    rintro e w6 ⟨rfl, hb6⟩
    have HT6 : Hid (On w w6) := HT4.out.next hb6
    clear hb6 HT4
    go_wp2_with fail
    refine (zzParts_any id.data.toList st.data.toList n _ HT6.out.t HG.out h0 h1).mono ?_
    rintro e w7 ⟨rfl, hT7⟩
    have HB : Hid (Below w.heap.size w w7) := (HT6.out.next hT7.b).b
    clear hT7 HT6
    rw [mkS_self, mkS_self]
    go_wp2_with fail
    go_ret
    exact ⟨rfl, HB.out⟩
end Go.Proofs.Qxb6606157aDoor
