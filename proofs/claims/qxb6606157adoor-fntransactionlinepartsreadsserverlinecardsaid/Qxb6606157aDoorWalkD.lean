import Derived.Test.Qxb6606157aDoorWalkC
import Derived.Lib.SmallJoins
namespace Go.Proofs.Qxb6606157aDoor
open Go.RowKit Go.PlainAid
set_option linter.unusedVariables false

/-- The library's tables as their initialisers lay them. -/
structure Tabs (w : World) : Prop where
  asc : Lib.TabIs Tryd.prog w "strings.asciiSpace" .u8 Lib.asciiSpaceTab
  u8 : Lib.Utf8Tabs 5 6 w
  ws : Lib.WhiteTab 1 w
  mx : ∃ m : Int, w.cell? ⟨2, 0, none⟩ = some (.int .i64 m)
theorem Tabs.below {w w' : World} (h : Tabs w) (hb : Below w.heap.size w w') : Tabs w' where
  asc := Joins.tab_stays (g := 0) (by kernel_rfl) h.asc hb (Nat.le_refl _)
  u8 := Utf8Tabs_below h.u8 hb
  ws := WhiteTab_below h.ws hb
  mx := by
    obtain ⟨m, hm⟩ := h.mx
    exact ⟨m, by rw [hb.cell (p := ⟨2, 0, none⟩) (Lib.lt_of_cell hm)]; exact hm⟩
/-- A world on the way: nothing old has turned, the tables lie. -/
structure On (w w' : World) : Prop where
  b : Below w.heap.size w w'
  t : Tabs w'
theorem On.next {w w' w'' : World} (h : On w w') (hb : Below w'.heap.size w' w'') : On w w'' := ⟨h.b.trans (hb.mono h.b.size), h.t.below hb⟩

theorem cutPrefix_app (p s : List UInt8) (w : World) : Calls Tryd.prog 24 #[.string (mkS (p ++ s)), .string (mkS p)] w fun e w' => e = .returned (.tuple #[.string (mkS s), .bool true]) ∧ w = w' := by
  refine (Tryd.strings_CutPrefix (mkS (p ++ s)) (mkS p) w).mono ?_
  rintro e w' ⟨rfl, rfl⟩
  rw [mkS_data, mkS_data, Pl.trimPrefix_app, Pl.hasPrefix_app]
  exact ⟨rfl, rfl⟩
theorem cut_hit (c : UInt8) (a b : List UInt8) (h : c ∉ a) (w w0 : World) (hT : On w0 w) (hs : (a ++ c :: b).length < 4294967281) :
    Calls Tryd.prog 25 #[.string (mkS (a ++ c :: b)), .string ⟨#[c]⟩] w fun e w' => e = .returned (.tuple #[.string (mkS a), .string (mkS b), .bool true]) ∧ On w0 w' := by
  obtain ⟨m, hm⟩ := hT.t.mx
  refine (Tryd.strings_Cut (mkS (a ++ c :: b)) ⟨#[c]⟩ m w (by rw [mkS_size]; exact hs) hm).mono ?_
  rintro e w' ⟨rfl, hw⟩
  rw [mkS_data, Pl.cut_hit c a b h]
  exact ⟨rfl, hT.next (Dr.below hw)⟩
theorem cut_miss (c : UInt8) (a : List UInt8) (h : c ∉ a) (w w0 : World) (hT : On w0 w) (hs : a.length < 4294967281) :
    Calls Tryd.prog 25 #[.string (mkS a), .string ⟨#[c]⟩] w fun e w' => e = .returned (.tuple #[.string (mkS a), .string (mkS []), .bool false]) ∧ On w0 w' := by
  obtain ⟨m, hm⟩ := hT.t.mx
  refine (Tryd.strings_Cut (mkS a) ⟨#[c]⟩ m w (by rw [mkS_size]; exact hs) hm).mono ?_
  rintro e w' ⟨rfl, hw⟩
  rw [mkS_data, Pl.cut_miss c a h]
  exact ⟨rfl, hT.next (Dr.below hw)⟩
theorem trim_to (a b : List UInt8) (h : Lib.trimSpaceD a = b) (w w0 : World) (hT : On w0 w) (hs : a.length < 4294967281) :
    Calls Tryd.prog 26 #[.string (mkS a)] w fun e w' => e = .returned (.string (mkS b)) ∧ On w0 w' := by
  refine (Tryd.strings_TrimSpace_any (mkS a) w (by rw [mkS_size]; omega) hT.t.asc hT.t.u8 hT.t.ws).mono ?_
  rintro e w' ⟨rfl, hw⟩
  rw [mkS_data, h]
  exact ⟨rfl, hT.next hw⟩
theorem contains_no (a : List UInt8) (h : (32 : UInt8) ∉ a) (w : World) :
    Calls Tryd.prog 27 #[.string (mkS a), .string ⟨#[32]⟩] w fun e w' => e = .returned (.bool false) ∧ w = w' := by
  refine (Tryd.strings_Contains_one (mkS a) 32 w).mono ?_
  rintro e w' ⟨rfl, rfl⟩
  rw [mkS_data, Pl.indexByte_miss 32 a h]
  exact ⟨rfl, rfl⟩
theorem atoi_to (n : Int) (h0 : -9223372036854775808 ≤ n) (h1 : n ≤ 9223372036854775807) (w w0 : World) (hT : On w0 w) :
    Calls Tryd.prog 28 #[.string (mkS (Lib.itoa n))] w fun e w' => e = .returned (.tuple #[.int .i64 n, .nilIface]) ∧ On w0 w' := by
  refine (Tryd.strconv_Atoi_ok (mkS (Lib.itoa n)) (by have := Lib.itoa_length_le n h0 h1; rw [mkS_size]; omega) n (Pl.atoi_itoa n h0 h1) w).mono ?_
  rintro e w' ⟨rfl, hw⟩
  refine ⟨rfl, hT.next ?_⟩
  rcases hw with rfl | ⟨t, rfl⟩
  · exact Below.refl _ _
  · exact Lib.bytesWorld_below _ _ _

/-- The line's parts, as the law asks them. -/
structure Good (id st : List UInt8) : Prop where
  ne : (mkS id).toList.isEmpty = false
  b32 : (32 : UInt8) ∉ id
  b44 : (44 : UInt8) ∉ id
  s44 : (44 : UInt8) ∉ st
  ti : Lib.trimSpaceD id = id
  hs : Lib.headSpace st = 0
  ts : Lib.tailSpace st = 0
  li : id.length ≤ 1048576
  ls : st.length ≤ 1048576

set_option maxHeartbeats 1000000 in
theorem parts_any (id st : List UInt8) (n : Int) (w : World) (hT : Tabs w) (G : Good id st) (h0 : -9223372036854775808 ≤ n) (h1 : n ≤ 9223372036854775807) :
    Calls Tryd.prog 18 #[.string (mkS (Pl.line id n st))] w fun e w' => e = .returned (.tuple #[.string (mkS id), .int .i64 n, .string (mkS st), .bool true]) ∧ On w w' := by
  have HT : Hid (On w w) := ⟨Below.refl _ _, hT⟩
  have hne := G.ne
  have HG : Hid (Good id st) := G
  clear hT G
  go_enter Tryd.func18, Tryd.ntmps18
  go_wp2_with fail
  refine (cutPrefix_app Pl.tag (Pl.r1 id n st) _).mono ?_
  rintro e w1 ⟨rfl, rfl⟩
  have hl1 : (id ++ 44 :: 32 :: Pl.r3 n st).length < 4294967281 := by
    have := HG.out.li; have := HG.out.ls; have := Lib.itoa_length_le n h0 h1
    simp [Pl.r3, Pl.r4, Pl.act, Pl.tl]; split <;> simp <;> omega
  have hl3 : (32 :: Pl.r3 n st).length < 4294967281 := by simp at hl1 ⊢; omega
  have hl4 : (Lib.itoa n ++ 32 :: ([115, 101, 99] ++ Pl.tl st)).length < 4294967281 := by simp [Pl.r3, Pl.r4] at hl3; simp; omega
  have hlt : (Pl.tl st).length < 4294967281 := by simp at hl4; omega
  go_wp2_with fail
  refine (cut_hit 44 id (32 :: Pl.r3 n st) HG.out.b44 _ _ HT.out hl1).mono ?_
  rintro e w1 ⟨rfl, hT1⟩
  have HT1 : Hid (On w w1) := hT1
  clear hT1
  go_wp2_with fail
  refine (trim_to id id HG.out.ti _ _ HT1.out (by have := HG.out.li; omega)).mono ?_
  rintro e w2 ⟨rfl, hT2⟩
  have HT2 : Hid (On w w2) := hT2
  clear hT2
  go_wp2_with fail
  refine (contains_no id HG.out.b32 _).mono ?_
  rintro e w3 ⟨rfl, rfl⟩
  go_wp2_with fail
  refine (trim_to (32 :: Pl.r3 n st) (Pl.r3 n st) (Pl.trim_r3 n st HG.out.ts) _ _ HT2.out hl3).mono ?_
  rintro e w4 ⟨rfl, hT4⟩
  have HT4 : Hid (On w w4) := hT4
  clear hT4
  go_wp2_with fail
  refine (cutPrefix_app Pl.act (Pl.r4 n st) _).mono ?_
  rintro e w5 ⟨rfl, rfl⟩
  go_wp2_with fail
  refine (cut_hit 32 (Lib.itoa n) ([115, 101, 99] ++ Pl.tl st) (Pl.itoa_no32 n) _ _ HT4.out hl4).mono ?_
  rintro e w6 ⟨rfl, hT6⟩
  have HT6 : Hid (On w w6) := hT6
  clear hT6
  go_wp2_with fail
  refine (atoi_to n h0 h1 _ _ HT6.out).mono ?_
  rintro e w7 ⟨rfl, hT7⟩
  have HT7 : Hid (On w w7) := hT7
  clear hT7
  go_wp2_with fail
  refine (cutPrefix_app [115, 101, 99] (Pl.tl st) _).mono ?_
  rintro e w8 ⟨rfl, rfl⟩
  by_cases hst : st = []
  · have etl : Pl.tl st = [] := by simp [Pl.tl, hst]
    have hem : (mkS (Pl.tl st)).toList.isEmpty = true := by rw [toList_data, mkS_data, etl]; rfl
    clear etl hst
    go_wp2_with fail
    refine (cut_miss 44 (Pl.tl st) (Pl.tl_no44 st HG.out.s44) _ _ HT7.out hlt).mono ?_
    rintro e w9 ⟨rfl, hT9⟩
    have HT9 : Hid (On w w9) := hT9
    clear hT9
    go_wp2_with fail
    refine (trim_to (Pl.tl st) st (Pl.trim_tl st HG.out.hs HG.out.ts) _ _ HT9.out hlt).mono ?_
    rintro e w10 ⟨rfl, hT10⟩
    have HT10 : Hid (On w w10) := hT10
    clear hT10
    go_wp2_with fail
    refine bodyPost_ret (v := .tuple #[.string (mkS id), .int .i64 n, .string (mkS st), .bool true]) (by simp [results, Tryd.results18, go_sem]) rfl ?_
    exact ⟨rfl, HT10.out⟩
  · have etl : Pl.tl st = 32 :: st := by simp [Pl.tl, hst]
    have hem : (mkS (Pl.tl st)).toList.isEmpty = false := by rw [toList_data, mkS_data, etl]; rfl
    have hsz : 0 < (mkS (Pl.tl st)).size := by rw [mkS_size, etl]; simp
    have hb0 : bt (mkS (Pl.tl st)) 0 = 32 := by rw [bt_getD _ _ hsz, mkS_data, etl]; rfl
    have hgb := get_bt (mkS (Pl.tl st))
    clear etl hst
    go_wp2_with fail
    refine (cut_miss 44 (Pl.tl st) (Pl.tl_no44 st HG.out.s44) _ _ HT7.out hlt).mono ?_
    rintro e w9 ⟨rfl, hT9⟩
    have HT9 : Hid (On w w9) := hT9
    clear hT9
    go_wp2_with fail
    refine (trim_to (Pl.tl st) st (Pl.trim_tl st HG.out.hs HG.out.ts) _ _ HT9.out hlt).mono ?_
    rintro e w10 ⟨rfl, hT10⟩
    have HT10 : Hid (On w w10) := hT10
    clear hT10
    go_wp2_with fail
    refine bodyPost_ret (v := .tuple #[.string (mkS id), .int .i64 n, .string (mkS st), .bool true]) (by simp [results, Tryd.results18, go_sem]) rfl ?_
    exact ⟨rfl, HT10.out⟩
end Go.Proofs.Qxb6606157aDoor
