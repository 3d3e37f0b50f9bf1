import Derived.Test.Qxb6612590aDoorWalkN
import Derived.Test.Qxb6612590aDoorShelf
import Derived.Lib.LaidU8
import Derived.PinnedBridge
import Derived.LaidMore
import Derived.SizedLaws
import Derived.ProofKit
import Derived.OpenShut
namespace Go.Proofs.Qxb6612590aDoor
open Go.RowKit

abbrev laidL : List (String × DataW Unit) := Rows.fnErrorReplySplitsAfterValidPrefixRow.laid

theorem accept_eq : (Rows.laid_unicode_utf8_acceptRanges : DataW Unit) = Lib.acceptData := by kernel_rfl
theorem u8Extra : U8Extra Tryd.prog Tryd.lays260_ren := ⟨by kernel_rfl, by kernel_rfl, by kernel_rfl, by kernel_rfl, by kernel_rfl, by kernel_rfl, by kernel_rfl⟩

theorem tabs_of {W : World} (hL : laidMetH Tryd.prog laidL W) : Lib.Utf8Tabs 1 2 W := by
  rw [MakeChecks.laidMetH_plain _ _ _ (by kernel_rfl)] at hL
  have r2 := Lib.laidMet.reads hL (n := (laidL[2]).1) (d := Go.Pinned.utf8First) (List.getElem_mem (l := laidL) (n := 2) (by decide))
  rw [Pinned.utf8First_eq] at r2
  have r3 := Lib.laidMet.reads hL (n := (laidL[0]).1) (d := Rows.laid_unicode_utf8_acceptRanges) (List.getElem_mem (l := laidL) (n := 0) (by decide))
  rw [accept_eq] at r3
  exact utf8Tabs_of_reads Tryd.lays260 u8Extra r2 r3
theorem two_lt {W : World} (h : Lib.Utf8Tabs 1 2 W) : 2 < W.heap.size := by
  have h0 := (h.2 0 (by omega)).1
  exact Classical.byContradiction fun hn => by
    have : W.heap[2]? = none := Array.getElem?_eq_none (by omega)
    simp [World.cell?, this] at h0
end Go.Proofs.Qxb6612590aDoor
