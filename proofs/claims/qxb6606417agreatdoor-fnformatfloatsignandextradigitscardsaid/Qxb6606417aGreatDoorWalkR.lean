import Derived.Test.Qxb6606417aGreatDoorWalkH
import Derived.Laws.IdiomStrings
import Derived.Laws.MakeOwn
import Derived.Lib.Hide
namespace Go.Proofs.Qxb6606417aGreatDoor
open Go.RowKit Go.PlainAid
set_option linter.unusedVariables false
set_option linter.unusedSimpArgs false
set_option maxRecDepth 100000

theorem OutAt.str {N : Nat} {w0 w : World} {v : Value} {L : List UInt8} (h : OutAt N w0 w v L) (hL : L ≠ []) : (convert 39 9 v).run Tryz.prog w = .ok (.string ⟨L.toArray⟩) w := by
  have hl : 0 < L.length := List.length_pos_iff.2 hL
  obtain ⟨h1, ⟨_, h2⟩ | ⟨g, cap, cur, rfl, e2, e3, e4, e5, e6, e7⟩⟩ := h.own
  · omega
  · refine run_convert_bytes_back w 39 9 5 ⟨g, 0, none⟩ cap L Tryz.underlying39 Tryz.underlying5 Tryz.underlying9 (fun j hj => ?_)
    rw [Addr.add_lit, Nat.zero_add]
    unfold World.cell?
    rw [e3]
    show cur[j]? = _
    have h8 : (bytesV L)[j]? = some (.int .u8 (L[j].toNat : Int)) := by simp [bytesV, byteV, hj]
    rw [← e7, List.getElem?_take] at h8
    split at h8
    · rw [← Array.getElem?_toList]; exact h8
    · cases h8
theorem make_out (w : World) : ∃ w1, (Instr.makeSlice 39 (.int .i64 0) (.int .i64 24)).run Tryz.prog w = .ok (.slice (some ⟨w.heap.size, 0, none⟩) 0 24) w1 ∧ OutAt w.heap.size w w1 (.slice (some ⟨w.heap.size, 0, none⟩) 0 24) [] := by
  obtain ⟨i0, hi, hz0, hz1, hz2⟩ := info_parts info5
  obtain ⟨w1, h1, h2, h3⟩ := run_makeSlice_owned (P := Tryz.prog) w w.heap.size 39 5 i0 (.int .u8 0) 1 Tryz.underlying39 hi hz0 hz1 .i64 .i64 24 (by omega) (by rw [hz2]; omega) (by unfold maxLen; omega) (Nat.le_refl _)
  exact ⟨w1, h1, h2, (Below.refl _ _).grown h3 (Nat.le_refl _) (fun k e => by cases e), h3.size⟩

theorem format64_walk (v : Nat) (prec : Int) (T : List UInt8) (w : World) (hT : T ≠ []) (hp1 : -10 ≤ prec) (hp2 : prec ≤ 17) (K : ∀ (W : World) (dst : Value), OutAt w.heap.size w W dst [] → Calls Tryz.prog 47 #[dst, .float .f64 v, .int .u8 101, .int .i64 prec] W fun e w' => FmtPost w.heap.size w T e w') :
    Calls Tryz.prog 14 #[.float .f64 v, .int .u8 101, .int .i64 prec, .int .i64 64] w fun e w' => e = .returned (.string ⟨T.toArray⟩) ∧ Below w.heap.size w w' := by
  have k29 : Calls Tryz.prog 29 #[.float .f64 v, .int .u8 101, .int .i64 prec, .int .i64 64] w fun e w' => e = .returned (.string ⟨T.toArray⟩) ∧ Below w.heap.size w w' := by
    obtain ⟨w1, hmk, hO⟩ := make_out w
    have hmx : max (prec + 4) 24 = 24 := by omega
    have HK : Hid _ := K
    have HO : Hid _ := hO
    clear hO K
    go_enter Tryz.func29, Tryz.ntmps29
    go_wp2_with (first
      | (go_at_call 47; refine (HK.out _ _ HO.out).mono ?_; rintro e w2 ⟨v2, rfl, hf⟩; have HF : Hid (OutAt w.heap.size w w2 v2 T) := hf; have hst := hf.str hT; clear hf))
    go_ret
    exact ⟨rfl, HF.out.bel⟩
  have K29 := Lib.hid k29
  clear k29 K
  go_enter Tryz.func14, Tryz.ntmps14
  go_wp2_with (go_at_call 29; refine K29.out.mono ?_; rintro e w2 ⟨rfl, hB⟩; have B2 : Hid (Below w.heap.size w w2) := hB; clear hB)
  go_ret
  exact ⟨rfl, B2.out⟩
theorem format32_walk (V v : Nat) (prec : Int) (T : List UInt8) (w : World) (hT : T ≠ []) (hp1 : -10 ≤ prec) (hp2 : prec ≤ 17) (hcv : ∀ W : World, (convert 22 23 (.float .f64 V)).run Tryz.prog W = .ok (.float .f32 v) W) (K : ∀ (W : World) (dst : Value), OutAt w.heap.size w W dst [] → Calls Tryz.prog 46 #[dst, .float .f32 v, .int .u8 101, .int .i64 prec] W fun e w' => FmtPost w.heap.size w T e w') :
    Calls Tryz.prog 14 #[.float .f64 V, .int .u8 101, .int .i64 prec, .int .i64 32] w fun e w' => e = .returned (.string ⟨T.toArray⟩) ∧ Below w.heap.size w w' := by
  have k29 : Calls Tryz.prog 29 #[.float .f64 V, .int .u8 101, .int .i64 prec, .int .i64 32] w fun e w' => e = .returned (.string ⟨T.toArray⟩) ∧ Below w.heap.size w w' := by
    obtain ⟨w1, hmk, hO⟩ := make_out w
    have hmx : max (prec + 4) 24 = 24 := by omega
    have HK : Hid _ := K
    have HO : Hid _ := hO
    clear hO K
    go_enter Tryz.func29, Tryz.ntmps29
    go_wp2_with (first
      | (go_at_call 46; refine (HK.out _ _ HO.out).mono ?_; rintro e w2 ⟨v2, rfl, hf⟩; have HF : Hid (OutAt w.heap.size w w2 v2 T) := hf; have hst := hf.str hT; clear hf))
    go_ret
    exact ⟨rfl, HF.out.bel⟩
  have K29 := Lib.hid k29
  clear k29 K
  go_enter Tryz.func14, Tryz.ntmps14
  go_wp2_with (go_at_call 29; refine K29.out.mono ?_; rintro e w2 ⟨rfl, hB⟩; have B2 : Hid (Below w.heap.size w w2) := hB; clear hB)
  go_ret
  exact ⟨rfl, B2.out⟩
end Go.Proofs.Qxb6606417aGreatDoor
