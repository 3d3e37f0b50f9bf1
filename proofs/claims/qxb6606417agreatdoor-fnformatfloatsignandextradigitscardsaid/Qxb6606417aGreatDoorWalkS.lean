import Derived.Test.Qxb6606417aGreatDoorWalkN
import Derived.Test.Qxb6606417aGreatDoorWalkM
import Derived.Test.Qxb6606417aGreatDoorWalkR
namespace Go.Proofs.Qxb6606417aGreatDoor
open Go.RowKit Go.PlainAid
set_option linter.unusedVariables false
set_option linter.unusedSimpArgs false
set_option maxRecDepth 100000

theorem fmtTxt_ne (x : Nat) (k : Int) (prec : Nat) : fmtTxt x k prec ≠ [] := by
  unfold fmtTxt
  intro h
  have := congrArg List.length h
  simp at this
/-- What a float's text reads back as. -/
theorem readFmt_walk (x : Nat) (k : Int) (prec : Nat) (w : World) (E : Env w) (D : DOk x k) (h1 : Lib.nDigits x ≤ prec + 1) (hp : prec ≤ 17) :
    Calls Tryz.prog 13 #[.string ⟨(fmtTxt x k prec).toArray⟩] w fun e w' => e = .returned (.agg #[.int .u64 x, .int .i64 k]) ∧ Below w.heap.size w w' := by
  obtain ⟨c, r, hd, _⟩ := dec_first x x (Nat.le_refl _) D.pos
  have hl := Lib.decDigits_length x
  have hn := nDigits_lt (d := x) (n := 18) (by have := D.lt; omega) (by omega)
  have k1 := D.k1
  have k2 := D.k2
  have hm := dec_mem x x (Nat.le_refl _)
  rw [hd] at hl hm
  rw [List.length_cons] at hl
  obtain ⟨r1, r2⟩ := read_back x k c r prec D.last hd (by omega)
  obtain ⟨a1, a2⟩ := exp_atoi ((Lib.nDigits x : Int) + k - 1) (by omega) (by omega)
  have ht : fmtTxt x k prec = mantTxt c r prec ++ 101 :: expTxt ((Lib.nDigits x : Int) + k - 1) := by unfold fmtTxt; rw [hd]
  have := read_walk (mantTxt c r prec) (expTxt ((Lib.nDigits x : Int) + k - 1)) ((Lib.nDigits x : Int) + k - 1) w E (mant_mem c r prec hm) (by have := mant_len c r prec (by omega); omega) a1 (by omega) (by omega) (by omega) r1
  unfold readN at this
  rw [r2] at this
  rw [ht]
  exact this

/-- strconv.FormatUint at base 10. -/
theorem uint_str (w : World) (bb cap : Nat) (T : TypeId) (L : List UInt8) (h : BufAt w bb T L) : (convert 39 9 (.slice (some ⟨bb, 0, none⟩) L.length cap)).run Tryz.prog w = .ok (.string ⟨L.toArray⟩) w := by
  refine run_convert_bytes_back w 39 9 5 ⟨bb, 0, none⟩ cap L Tryz.underlying39 Tryz.underlying5 Tryz.underlying9 (fun j hj => ?_)
  rw [Addr.add_lit, Nat.zero_add]
  exact h.cell hj
theorem len73 : Tryz.prog.arrayLen 73 = 24 := by kernel_rfl
theorem size73 (w : World) : (sizeOf (Tryz.prog.elem 73)).run Tryz.prog w = .ok 1 w := by kernel_rfl
theorem slice73 (b k : Nat) (hk : k ≤ 24) (w : World) : (Instr.sliceAt 73 (.pointer (some ⟨b, 0, none⟩)) none (some (.int .i64 (k : Int))) none).run Tryz.prog w = .ok (.slice (some ⟨b, 0, none⟩) k 24) w := by
  have hk' : (k : Int) ≤ (Tryz.prog.arrayLen 73 : Int) := by rw [len73]; omega
  rw [run_sliceAt_array_h (P := Tryz.prog) w 73 ⟨b, 0, none⟩ Tryz.underlying73 .i64 (k : Int) (by omega) hk', size73]
  simp [Result.andThen, slicedAt, len73, Addr.add]
set_option maxHeartbeats 1000000 in
theorem uint_walk (u : Nat) (w : World) (E : Env w) (h0 : 0 < u) (h1 : u < 1000000000000000000) : Calls Tryz.prog 40 #[.int .u64 u, .int .i64 10] w fun e w' => e = .returned (.string ⟨(Lib.decDigits u).toArray⟩) ∧ Below w.heap.size w w' := by
  have k66 : Calls Tryz.prog 66 #[.int .u64 u, .int .i64 10] w fun e w' => e = .returned (.string ⟨(Lib.decDigits u).toArray⟩) ∧ Below w.heap.size w w' := by
    by_cases hs : u < 100
    · have k48 : ∀ W : World, Calls Tryz.prog 48 #[.int .i64 u] W fun e w' => e = .returned (.string ⟨(Lib.decDigits u).toArray⟩) ∧ w' = W := fun W => Tryz.internal_strconv_small u hs W
      have K48 : Hid _ := k48
      clear k48
      have hlt : decide ((u : Int) < 100) = true := decide_eq_true (by omega)
      go_enter Tryz.func66, Tryz.ntmps66
      go_wp2_with (go_at_call 48; refine (K48.out _).mono ?_; rintro e w' ⟨rfl, hw⟩; subst hw)
      go_ret
      exact ⟨rfl, Below.refl _ _⟩
    · have hlt : decide ((u : Int) < 100) = false := decide_eq_false (by omega)
      have hnd := nDigits_lt (d := u) (n := 18) (by omega) (by omega)
      have k49 : ∀ W : World, Env W → Calls Tryz.prog 49 #[.int .u64 u] W fun e w' => e = .returned (.int .i64 (Lib.nDigits u)) ∧ w' = W := fun W EW => Tryz.internal_strconv_numDigits u (by omega) (by omega) W EW.p10
      have k50 : ∀ W : World, W.heap[w.heap.size]? = some (.cells (Array.replicate 24 (.int .u8 0)) 73 (0, 0)) → Calls Tryz.prog 50 #[.slice (some ⟨w.heap.size, 0, none⟩) (Lib.nDigits u) 24, .int .u64 u] W fun e w' => e = .returned (.tuple #[]) ∧ BufAt w' w.heap.size 73 (Lib.decDigits u) ∧ Below w.heap.size W w' ∧ w'.heap.size = W.heap.size := fun W hW => base10_walk w.heap.size 24 u 24 73 W hW (by decide) (by omega) (by omega) (by omega)
      have hll := Lib.decDigits_length u
      have HLL : Hid (∀ (W : World) (cap : Nat), BufAt W w.heap.size 73 (Lib.decDigits u) → (convert 39 9 (.slice (some ⟨w.heap.size, 0, none⟩) (Lib.nDigits u) cap)).run Tryz.prog W = .ok (.string ⟨(Lib.decDigits u).toArray⟩) W) := fun W cap h => by
        rw [← hll]; exact uint_str W _ cap 73 _ h
      have K49 : Hid _ := k49
      have K50 : Hid _ := k50
      have HE : Hid (∀ W, Below w.heap.size w W → Env W) := fun W h => E.later h
      clear k49 k50 hll E
      generalize Lib.nDigits u = nd at *
      have hsl := slice73 w.heap.size nd (by omega)
      go_enter Tryz.func66, Tryz.ntmps66
      go_upto_region 7 with (first
        | (go_at_call 49; refine (K49.out _ (HE.out _ ((Below.refl _ _).alloc (Nat.le_refl _) _))).mono ?_; rintro e w' ⟨rfl, hw⟩; subst hw)
        | (go_at_call 50; refine (K50.out _ (by exact heap_new' w _)).mono ?_; rintro e w2 ⟨rfl, hB, hL, _⟩; have hcv := fun cap => HLL.out w2 cap hB; have B2 : Hid (Below w.heap.size w w2) := ((Below.refl _ _).alloc (Nat.le_refl _) _).trans hL; clear hB hL))
      go_wp2
      go_ret
      exact ⟨rfl, B2.out⟩
  have K66 := Lib.hid k66
  clear k66 E
  go_enter Tryz.func40, Tryz.ntmps40
  go_wp2_with (go_at_call 66; refine K66.out.mono ?_; rintro e w2 ⟨rfl, hB⟩; have B2 : Hid (Below w.heap.size w w2) := hB; clear hB)
  go_ret
  exact ⟨rfl, B2.out⟩
end Go.Proofs.Qxb6606417aGreatDoor
