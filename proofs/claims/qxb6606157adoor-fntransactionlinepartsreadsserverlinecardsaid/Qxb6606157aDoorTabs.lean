import Derived.Test.Qxb6606157aDoorWalkE
import Derived.Test.Qxb6606157aDoorShelf2
import Derived.Lib.LaidU8
import Derived.PinnedBridge
import Derived.LaidMore
import Derived.SizedLaws
import Derived.ProofKit
import Derived.OpenShut
namespace Go.Proofs.Qxb6606157aDoor
open Go.RowKit

abbrev laidL : List (String × DataW Unit) := Rows.fnTransactionLinePartsReadsServerLineRow.laid

theorem accept_eq : (Rows.laid_unicode_utf8_acceptRanges : DataW Unit) = Lib.acceptData := by kernel_rfl
theorem white_eq : (Rows.laid_unicode_White_Space : DataW Unit) = Lib.whiteData := by kernel_rfl
theorem space_eq : (Rows.laid_strings_asciiSpace : DataW Unit) = Lib.tabData .u8 Lib.asciiSpaceTab := by kernel_rfl
theorem u8Extra : U8Extra Tryd.prog Tryd.lays260_ren := ⟨by kernel_rfl, by kernel_rfl, by kernel_rfl, by kernel_rfl, by kernel_rfl, by kernel_rfl, by kernel_rfl⟩
theorem whiteExtra : WhiteExtra Tryd.prog Tryd.lays199_ren := ⟨by kernel_rfl, by kernel_rfl, by kernel_rfl, by kernel_rfl, by kernel_rfl, by kernel_rfl, by kernel_rfl, by kernel_rfl⟩
theorem gSpace : Tryd.prog.globalNamed "strings.asciiSpace" = some 0 := by kernel_rfl

theorem tabIs_of_reads {P : Program} {w : World} {n : String} {g : Nat} {t e : TypeId} {k : IntKind} {m : Nat} {zs : List Int} (hg : P.globalNamed n = some g) (hy : (P.globals[g]?).map (·.type) = some t)
    (ht : P.underlying t = some (.array m e)) (he : P.underlying e = some (.int k)) (hce : P.cellsOf e = 1) (hct : P.cellsOf t = m) (h : Lib.VarReads P w n (Lib.tabData k zs)) : Lib.TabIs P w n k zs := by
  obtain ⟨g', t', cs, fuel, p, hg', hty, hvar, hd⟩ := h
  obtain rfl := Option.some.inj (hg.symm.trans hg')
  obtain rfl := Option.some.inj (hy.symm.trans hty)
  have hcs := Lib.cells_of_tab ht he hce hct hd
  unfold Lib.TabIs
  rw [hvar, ← hcs]

theorem tabs_of {W : World} (hL : laidMetH Tryd.prog laidL W) (hsh : W.ShapedOpen Tryd.prog) : Tabs W := by
  rw [MakeChecks.laidMetH_plain _ _ _ (by kernel_rfl)] at hL
  have r1 : Lib.VarReads Tryd.prog W "strings.asciiSpace" (Lib.tabData .u8 Lib.asciiSpaceTab) := by
    rw [← space_eq]; exact Lib.laidMet.reads hL (by simp [laidL, Rows.fnTransactionLinePartsReadsServerLineRow])
  have r2 := Lib.laidMet.reads hL (n := (laidL[8]).1) (d := Go.Pinned.utf8First) (List.getElem_mem (l := laidL) (n := 8) (by decide))
  rw [Pinned.utf8First_eq] at r2
  have r3 := Lib.laidMet.reads hL (n := (laidL[3]).1) (d := Rows.laid_unicode_utf8_acceptRanges) (List.getElem_mem (l := laidL) (n := 3) (by decide))
  rw [accept_eq] at r3
  have r4 : Lib.VarReads Tryd.prog W "unicode.White_Space" Lib.whiteData := by
    rw [← white_eq]; exact Lib.laidMet.reads hL (by simp [laidL, Rows.fnTransactionLinePartsReadsServerLineRow])
  exact {
    asc := tabIs_of_reads gSpace (t := 56) (by kernel_rfl) Tryd.underlying56 Tryd.underlying5 (by kernel_rfl) (by kernel_rfl) r1
    u8 := utf8Tabs_of_reads Tryd.lays260 u8Extra r2 r3
    ws := whiteTab_of_reads Tryd.lays199 whiteExtra r4
    mx := Tryd.laysM145.s1_3 W hsh }
end Go.Proofs.Qxb6606157aDoor
