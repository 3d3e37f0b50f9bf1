import Derived.Test.Qxb6606417aGreatDoorWalkSD
import Derived.Test.Qxb6606417aGreatDoorWalkO
import Derived.Test.Qxb6606417aGreatDoorWalkP
import Derived.Test.Qxb6606417aGreatDoorWalkQ
import Derived.Test.Qxb6606417aGreatDoorWalkR
namespace Go.Proofs.Qxb6606417aGreatDoor
open Go.RowKit Go.PlainAid
set_option linter.unusedVariables false
set_option linter.unusedSimpArgs false
set_option maxRecDepth 100000

theorem dblF : Ieee.double.fractionBits = 52 := rfl
theorem dblL : Ieee.double.leastPlace = -1074 := by decide
theorem sglF : Ieee.single.fractionBits = 23 := rfl
theorem sglL : Ieee.single.leastPlace = -149 := by decide
theorem eqW_self {V : Nat} (h : V < 9218868437227405312) : eqW V V = true := by unfold eqW; rw [order_self h]; rfl
/-- A double's facts. -/
theorem num64 (v : Nat) (h0 : 0 < v) (h1 : v < 9218868437227405312) : Num v 64 (sigW 52 v) (plW 52 (-1074) v) (narW 52 v) (shoD 52 (-1074) v) (fixD 52 (-1074) v) (fun x k => (numD x k).1) := by
  have hi : v < Ieee.double.infRung := h1
  obtain ⟨s1, s2⟩ := sig53 okD h0 hi
  obtain ⟨hf, hr⟩ := fl_of_word okD h0 hi
  have hdF := fun n (a : 1 ≤ n) (b : n ≤ 18) => fixD_ok okD h0 hi a b
  have hdS := shoD_ok okD h0 hi
  have hcl := fix18_close okD h0 hi
  have hlow := fix18_low okD h0 hi
  rw [dblF, dblL] at hf hr hdS hcl hlow
  rw [dblF] at s1 s2
  have a1 := hf.ge
  have a2 := hf.le
  have d18 := hdF 18 (by omega) (by omega)
  rw [dblF, dblL] at d18
  refine ⟨fun W => parts64_walk v W h1, s1, s2, by omega, by omega, hdS, fun n a b => ?_, fun W EW => ?_, fun n W a b EW => ?_, fun x k W D EF => num64_walk x k W D EF, ?_⟩
  · have := hdF n a b
    rw [dblF, dblL] at this
    exact this
  · exact format64_walk v (-1) _ W (fmtTxt_ne _ _ _) (by omega) (by omega) fun W' dst hO => ftoa64_short v W.heap.size dst W W' (EW.later hO.bel) hO h0 hi _ _ rfl
  · exact format64_walk v ((n : Int) - 1) _ W (fmtTxt_ne _ _ _) (by omega) (by omega) fun W' dst hO => ftoa64_fixed v W.heap.size n dst W W' (EW.later hO.bel) hO h0 hi a b _ _ rfl
  · have hk1 : -345 ≤ (fixD 52 (-1074) v 18).2 := by
      have : log10Pow2 (-1074) = -324 := by decide
      omega
    have hk2 := close_highD hcl hf d18.1.pos
    have hn := numD_close hf hcl d18.1.dp hk1 hk2
    have hne := close_not_end hcl hf.pos (narW 52 v) (by omega) (by omega)
    show (eqW (numD _ _).1 v && !atEndN _ _ _ _ _) = true
    rw [hn, hr, hne, eqW_self h1]
    rfl
/-- A real's facts. -/
theorem num32 (V v : Nat) (hcv : ∀ W : World, (convert 22 23 (.float .f64 V)).run Tryz.prog W = .ok (.float .f32 v) W) (hwid : widW v = V) (h0 : 0 < v) (h1 : v < 2139095040) (hV : V < 9218868437227405312) : Num V 32 (sigW 23 v) (plW 23 (-149) v) (narW 23 v) (shoD 23 (-149) v) (fixD 23 (-149) v) (fun x k => widW (numS x k).1) := by
  have hi : v < Ieee.single.infRung := h1
  obtain ⟨s1, s2⟩ := sig53 okS h0 hi
  obtain ⟨hf, hr⟩ := fl_of_word okS h0 hi
  have hdF := fun n (a : 1 ≤ n) (b : n ≤ 18) => fixD_ok okS h0 hi a b
  have hdS := shoD_ok okS h0 hi
  have hcl := fix18_close okS h0 hi
  have hlow := fix18_low okS h0 hi
  rw [sglF, sglL] at hf hr hdS hcl hlow
  rw [sglF] at s1 s2
  have a1 := hf.ge
  have a2 := hf.le
  have d18 := hdF 18 (by omega) (by omega)
  rw [sglF, sglL] at d18
  refine ⟨fun W => parts32_walk V v hcv W h1, s1, s2, by omega, by omega, hdS, fun n a b => ?_, fun W EW => ?_, fun n W a b EW => ?_, fun x k W D EF => num32_walk x k W D EF, ?_⟩
  · have := hdF n a b
    rw [sglF, sglL] at this
    exact this
  · exact format32_walk V v (-1) _ W (fmtTxt_ne _ _ _) (by omega) (by omega) hcv fun W' dst hO => ftoa32_short v W.heap.size dst W W' (EW.later hO.bel) hO h0 hi _ _ rfl
  · exact format32_walk V v ((n : Int) - 1) _ W (fmtTxt_ne _ _ _) (by omega) (by omega) hcv fun W' dst hO => ftoa32_fixed v W.heap.size n dst W W' (EW.later hO.bel) hO h0 hi a b _ _ rfl
  · have hk1 : -70 ≤ (fixD 23 (-149) v 18).2 := by
      have : log10Pow2 (-149) = -45 := by decide
      omega
    have hk2 := close_highS hcl hf d18.1.pos
    have hn := numS_close hf hcl d18.1.dp hk1 hk2
    have hne := close_not_end hcl hf.pos (narW 23 v) (by omega) (by omega)
    show (eqW (widW (numS _ _).1) V && !atEndN _ _ _ _ _) = true
    rw [hn, hr, hne]
    simp only [hwid, eqW_self hV]
    rfl
end Go.Proofs.Qxb6606417aGreatDoor
