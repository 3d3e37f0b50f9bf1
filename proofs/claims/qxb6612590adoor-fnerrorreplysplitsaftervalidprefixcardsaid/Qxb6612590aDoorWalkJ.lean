import Derived.Test.Qxb6612590aDoorWalkI
namespace Go.Proofs.Qxb6612590aDoor
open Go.RowKit
set_option linter.unusedVariables false

def replyOf (l : List UInt8) : List UInt8 := 45 :: (Pl.txt l ++ [13, 10])
def mkS (l : List UInt8) : ByteArray := ⟨l.toArray⟩

set_option maxHeartbeats 4000000 in
set_option maxRecDepth 100000 in
theorem error_any (w0 w : World) (B b db wb rw sk : Nat) (c : List UInt8) (s : ByteArray) (h : St w0 w B b db wb rw sk c) (hT : Lib.Utf8Tabs 1 2 w0) (hB : 2 < B) (hs : s.size ≤ 1048576) (hlim : c.length ≤ 1000000000) :
    Calls Tryd.prog 10 #[.pointer (some ⟨rw, 0, none⟩), .string s] w fun e w' => e = .returned (.tuple #[]) ∧ St w0 w' B b db wb rw sk (c ++ replyOf s.data.toList) := by
  have HT : Hid (Lib.Utf8Tabs 1 2 w0) := hT
  have HS : Hid (St w0 w B b db wb rw sk c) := h
  have r0 := h.rwc
  clear h hT
  go_enter Tryd.func10, Tryd.ntmps10
  go_wp2_with fail
  refine (st_byte 45 HS.out (by omega)).mono ?_
  rintro e w1 ⟨rfl, hS1⟩
  have HS1 : Hid (St w0 w1 B b db wb rw sk (c ++ [45])) := hS1
  have r1 := hS1.rwc
  have hl := Pl.txt_len s.data.toList
  have hsz : s.data.toList.length = s.size := ba_size s
  have HX : Hid ((Pl.txt s.data.toList).length ≤ 4 * 1048576) := by show _ ≤ _; omega
  clear hS1 r0 hl hsz
  go_wp2_with fail
  go_region_with (first
    | (go_at_call 24; refine (map_any s _ hs ?_).mono ?_; exact (HS1.out.below ((Below.refl _ _).drew)).tabs HT.out hB; rintro e w2 ⟨rfl, hb2⟩; have HS2 : Hid (St w0 w2 B b db wb rw sk (c ++ [45])) := (HS1.out.below ((Below.refl _ _).drew)).below hb2; have r2 := HS2.out.rwc; clear hb2)
    | (go_at_call 23; refine (st_string (mkS (Pl.txt s.data.toList)) HS2.out ?_).mono ?_; (have hx := HX.out; simp [mkS, ByteArray.size]; omega); rintro e w3 ⟨k3, rfl, hS3⟩; have HS3 : Hid (St w0 w3 B b db wb rw sk (c ++ [45] ++ Pl.txt s.data.toList)) := hS3; have r3 := hS3.rwc; clear hS3))
  all_goals (
    go_wp2_with fail
    refine (st_string (mkS [13, 10]) HS3.out (by have hx := HX.out; simp [mkS, ByteArray.size]; omega)).mono ?_
    rintro e w4 ⟨k4, rfl, hS4⟩
    have HS4 : Hid (St w0 w4 B b db wb rw sk (c ++ replyOf s.data.toList)) := by
      have e1 : c ++ replyOf s.data.toList = c ++ [45] ++ Pl.txt s.data.toList ++ [13, 10] := by simp [replyOf]
      rw [e1]; exact hS4
    clear hS4
    go_wp2_with fail
    go_end0
    exact ⟨rfl, HS4.out⟩)
end Go.Proofs.Qxb6612590aDoor
