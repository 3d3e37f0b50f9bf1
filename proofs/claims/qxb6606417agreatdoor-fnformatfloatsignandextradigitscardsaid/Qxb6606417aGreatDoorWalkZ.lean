import Derived.Test.Qxb6606417aGreatDoorWalkS
namespace Go.Proofs.Qxb6606417aGreatDoor
open Go.RowKit Go.PlainAid
set_option linter.unusedVariables false
set_option linter.unusedSimpArgs false
set_option maxRecDepth 100000

theorem ba_app (a b : ByteArray) : (a ++ b) = ⟨a.data ++ b.data⟩ := by
  apply ByteArray.ext
  exact ByteArray.data_append
theorem dec_below {w w' : World} {x : Nat} {k : Int} (hb : Below (w.alloc (.cells #[.int .u64 x, .int .i64 k] 31)).heap.size (w.alloc (.cells #[.int .u64 x, .int .i64 k] 31)) w') : DecIn w' w.heap.size x k ∧ Below w.heap.size w w' :=
  ⟨(show DecIn (w.alloc _) w.heap.size x k from heap_new' w _).below hb (by simp), ((Below.refl _ _).alloc (Nat.le_refl _) _).trans (hb.mono (by simp))⟩
theorem count_walk (x : Nat) (k : Int) (w : World) (E : Env w) (h0 : 0 < x) (h1 : x < 1000000000000000000) : Calls Tryz.prog 22 #[.agg #[.int .u64 x, .int .i64 k]] w fun e w' => e = .returned (.int .i64 (Lib.nDigits x)) ∧ Below w.heap.size w w' := by
  obtain ⟨s, hs⟩ : ∃ s : ByteArray, s = ⟨(Lib.decDigits x).toArray⟩ := ⟨_, rfl⟩
  have hsz : s.size = Lib.nDigits x := by rw [hs, ← Lib.decDigits_length x]; simp [ByteArray.size]
  have k40 : ∀ W : World, Below w.heap.size w W → Calls Tryz.prog 40 #[.int .u64 x, .int .i64 10] W fun e w' => e = .returned (.string s) ∧ Below W.heap.size W w' := fun W h => by rw [hs]; exact uint_walk x W (E.later h) h0 h1
  have K40 : Hid _ := k40
  have HB1 : Hid (Below w.heap.size w (w.alloc (.cells #[.int .u64 x, .int .i64 k] 31))) := (Below.refl _ _).alloc (Nat.le_refl _) _
  clear k40 hs E
  generalize Lib.nDigits x = nd at *
  go_enter Tryz.func22, Tryz.ntmps22
  go_wp2_with (go_at_call 40; refine (K40.out _ HB1.out).mono ?_; rintro e w2 ⟨rfl, hB⟩; have B2 : Hid (Below w.heap.size w w2) := HB1.out.trans (hB.mono (by simp)); clear hB)
  go_ret
  exact ⟨rfl, B2.out⟩
/-- The decimal of n digits next above. -/
def upN (x : Nat) (k : Int) (n : Nat) : Nat × Int := trimN (x * 10 ^ (n - Lib.nDigits x) + 1) (k - (n - Lib.nDigits x : Nat))
set_option maxHeartbeats 2000000 in
theorem up_walk (x : Nat) (k : Int) (n : Nat) (w : World) (E : Env w) (h0 : 0 < x) (h1 : x < 1000000000000000000) (hn1 : Lib.nDigits x ≤ n) (hn2 : n ≤ 18) (hk1 : -500 ≤ k) (hk2 : k ≤ 500) : Calls Tryz.prog 24 #[.agg #[.int .u64 x, .int .i64 k], .int .i64 n] w fun e w' => e = .returned (.agg #[.int .u64 ((upN x k n).1 : Nat), .int .i64 (upN x k n).2]) ∧ Below w.heap.size w w' := by
  have hnp := Lib.nDigits_pos x
  have k22 : ∀ W : World, Below w.heap.size w W → Calls Tryz.prog 22 #[.agg #[.int .u64 x, .int .i64 k]] W fun e w' => e = .returned (.int .i64 (Lib.nDigits x)) ∧ Below W.heap.size W w' := fun W h => count_walk x k W (E.later h) h0 h1
  have hpow : ∀ i, i ≤ n - Lib.nDigits x → x * 10 ^ i < 1000000000000000000 := fun i hi => by
    have h2 := Lib.lt_pow_nDigits x
    have h3 : x * 10 ^ i < 10 ^ Lib.nDigits x * 10 ^ i := Nat.mul_lt_mul_of_pos_right h2 (Nat.pow_pos (by omega))
    rw [← Nat.pow_add] at h3
    have h4 : 10 ^ (Lib.nDigits x + i) ≤ 10 ^ 18 := Nat.pow_le_pow_right (by omega) (by omega)
    have e18 : (10 : Nat) ^ 18 = 1000000000000000000 := by decide
    omega
  have hup : upN x k n = trimN (x * 10 ^ (n - Lib.nDigits x) + 1) (k - (n - Lib.nDigits x : Nat)) := rfl
  have hcn : (n : Int) - (Lib.nDigits x : Int) = ((n - Lib.nDigits x : Nat) : Int) := by omega
  generalize upN x k n = res at *
  obtain ⟨ra, rb⟩ := res
  obtain ⟨c, hc⟩ : ∃ c, n - Lib.nDigits x = c := ⟨_, rfl⟩
  rw [hc] at hpow hup hcn
  have hcl : c ≤ 17 := by omega
  have K22 : Hid _ := k22
  have HPW : Hid (∀ i, i ≤ c → x * 10 ^ i < 1000000000000000000) := hpow
  have HUP : Hid ((ra, rb) = trimN (x * 10 ^ c + 1) (k - (c : Nat))) := hup
  generalize Lib.nDigits x = nd at *
  clear k22 hpow hup E hc
  have HB1 : Hid (Below w.heap.size w ((w.alloc (.cells #[.int .u64 x, .int .i64 k] 31)).alloc (.cells #[.int .u64 0, .int .i64 0] 31))) := ((Below.refl _ _).alloc (Nat.le_refl _) _).alloc (by simp) _
  have HD1 : Hid (DecIn ((w.alloc (.cells #[.int .u64 x, .int .i64 k] 31)).alloc (.cells #[.int .u64 0, .int .i64 0] 31)) w.heap.size x k) := (show DecIn (w.alloc _) w.heap.size x k from heap_new' w _).below ((Below.refl _ _).alloc (Nat.le_refl _) _) (by simp)
  have HD2 : Hid (DecIn ((w.alloc (.cells #[.int .u64 x, .int .i64 k] 31)).alloc (.cells #[.int .u64 0, .int .i64 0] 31)) (w.heap.size + 1) 0 0) := by
    have := heap_new' (w.alloc (.cells #[.int .u64 x, .int .i64 k] 31)) (.cells #[.int .u64 0, .int .i64 0] 31)
    refine Lib.hid ?_
    unfold DecIn
    simpa using this
  go_enter Tryz.func24, Tryz.ntmps24
  go_upto_region 2 with (go_at_call 22; refine (K22.out _ HB1.out).mono ?_; rintro e w2 ⟨rfl, hB⟩; have B2 : Hid (Below w.heap.size w w2) := HB1.out.trans (hB.mono (by simp; omega)); have D1 : Hid (DecIn w2 w.heap.size x k) := HD1.out.below hB (by simp; omega); have D2 : Hid (DecIn w2 (w.heap.size + 1) 0 0) := HD2.out.below hB (by simp); clear hB)
  go_loopw [9] (fun v wr => ∃ i : Nat, i ≤ c ∧ v = .int .i64 i ∧ DecIn wr w.heap.size (x * 10 ^ i) (k - i) ∧ DecIn wr (w.heap.size + 1) 0 0 ∧ Below w.heap.size w wr) (fun v _ => c - (intOf v).toNat)
  case atStart => exact ⟨0, Nat.zero_le _, rfl, by simpa using D1.out, D2.out, B2.out⟩
  case round =>
    obtain ⟨i, hi, rfl, hD1, hD2, hB⟩ := hrel
    have hpi := HPW.out i hi
    have c0 := hD1.c0
    have c1 := hD1.c1
    have f0 := hD1.f0
    have f1 := hD1.f1
    have H1 : Hid (DecIn wr w.heap.size (x * 10 ^ i) (k - i)) := hD1
    have H2 : Hid (DecIn wr (w.heap.size + 1) 0 0) := hD2
    have HB : Hid (Below w.heap.size w wr) := hB
    clear hD1 hD2 hB
    by_cases hlt : i < c
    · have hp2 := HPW.out (i + 1) hlt
      have hst : x * 10 ^ (i + 1) = x * 10 ^ i * 10 := by rw [Nat.pow_succ, Nat.mul_assoc]
      rw [hst] at hp2
      have HST : Hid (x * 10 ^ (i + 1) = x * 10 ^ i * 10) := hst
      clear hst
      generalize x * 10 ^ i = y at *
      have hl' : decide ((i : Int) < (c : Int)) = true := decide_eq_true (by omega)
      go_wp2_with fail
      refine ⟨⟨i + 1, hlt, by go_num, ?_, (H2.out.other _ _ (by simp)).other _ _ (by simp), (HB.out.setCell (by simp) _).setCell (by simp) _⟩, by simp [intOf]; omega⟩
      rw [HST.out, show k - ((i + 1 : Nat) : Int) = k - i - 1 from by omega]
      exact H1.out.setI (by omega)
    · obtain rfl : i = c := by omega
      have hl' : decide ((i : Int) < (i : Int)) = false := by simp
      obtain ⟨y, hy⟩ : ∃ y, x * 10 ^ i = y := ⟨_, rfl⟩
      rw [hy] at hpi c0 H1 HUP
      have k28 : ∀ W : World, Calls Tryz.prog 28 #[.agg #[.int .u64 ((y : Int) + 1), .int .i64 (k - i)]] W fun e w' => e = .returned (.agg #[.int .u64 ra, .int .i64 rb]) ∧ Below W.heap.size W w' := fun W => by
        have := trimmed_walk (y + 1) (k - i) W (by omega) (by omega) (by omega) (by omega)
        rw [← HUP.out] at this
        rw [show ((y + 1 : Nat) : Int) = (y : Int) + 1 from by omega] at this
        exact this
      have K28 : Hid _ := k28
      clear k28 hy
      go_upto_region 7 with fail
      have q0 : (wr.setCell ⟨w.heap.size, 0, none⟩ (.int .u64 ((y : Int) + 1))).cell? ⟨w.heap.size, 0, none⟩ = some (.int .u64 ((y : Int) + 1)) := by rw [Lib.cell_of_heap (setD_heap 0 _ H1.out)]; rfl
      go_wp2_with (go_at_call 28; refine (K28.out _).mono ?_; rintro e w5 ⟨rfl, hB5⟩; have D5 : Hid (DecIn w5 (w.heap.size + 1) 0 0) := (H2.out.other _ _ (by simp)).below hB5 (by simp; exact block_lt H2.out.c0); have B5 : Hid (Below w.heap.size w w5) := (HB.out.setCell (by simp) _).trans (hB5.mono (by simp; exact HB.out.size)); have g0 := D5.out.c0; have g1 := D5.out.c1; have g2 := D5.out.f0; have g3 := D5.out.f1; clear hB5)
      have r0 := D5.out.ret0 (.int .u64 ra)
      have r1 := D5.out.ret1 (.int .u64 ra) (.int .i64 rb)
      refine bodyPost_ret (v := .agg #[.int .u64 ra, .int .i64 rb]) (by simp [results, Tryz.results24, go_sem, Tryz.isAgg31, Tryz.sizeOf31, r0, r1, Result.andThen]) rfl ?_
      exact ⟨rfl, (B5.out.setCell (by simp) _).setCell (by simp) _⟩
theorem below_grow (w : World) (k : Nat) (os : Array Obj) : Below w.heap.size w (Go.Sort.grow (w.drewN k) os) := by
  refine ⟨rfl, rfl, rfl, ?_, fun j hj => ?_⟩
  · show w.heap.size ≤ (w.heap ++ os).size
    rw [Array.size_append]; omega
  · show (w.heap ++ os)[j]? = w.heap[j]?
    exact Array.getElem?_append_left hj
set_option maxHeartbeats 2000000 in
theorem str_walk (x : Nat) (k : Int) (w : World) (E : Env w) (h0 : 0 < x) (h1 : x < 1000000000000000000) (hk1 : -1000 ≤ k) (hk2 : k ≤ 1000) : Calls Tryz.prog 42 #[.agg #[.int .u64 x, .int .i64 k]] w fun e w' => e = .returned (.string ⟨(Lib.decDigits x ++ 101 :: Lib.itoa k).toArray⟩) ∧ Below w.heap.size w w' := by
  obtain ⟨s1, hs1⟩ : ∃ s : ByteArray, s = ⟨(Lib.decDigits x).toArray⟩ := ⟨_, rfl⟩
  obtain ⟨s2, hs2⟩ : ∃ s : ByteArray, s = ⟨(Lib.itoa k).toArray⟩ := ⟨_, rfl⟩
  have hcat : s1 ++ ⟨#[101]⟩ ++ s2 = ⟨(Lib.decDigits x ++ 101 :: Lib.itoa k).toArray⟩ := by
    rw [ba_app, ba_app, hs1, hs2]
    simp
  have k40 : ∀ W : World, Below w.heap.size w W → Calls Tryz.prog 40 #[.int .u64 x, .int .i64 10] W fun e w' => e = .returned (.string s1) ∧ Below W.heap.size W w' := fun W h => by rw [hs1]; exact uint_walk x W (E.later h) h0 h1
  have k68 : ∀ W : World, Below w.heap.size w W → Calls Tryz.prog 68 #[.int .i64 k] W fun e w' => e = .returned (.string s2) ∧ Below W.heap.size W w' := fun W h => by
    refine (Tryz.strconv_Itoa k (by omega) (by omega) W (E.later h).p10).mono ?_
    rintro e w' ⟨rfl, kk, os, rfl⟩
    exact ⟨by rw [hs2], below_grow W kk os⟩
  have hz1 : s1.size ≤ 20 := by
    have := Lib.decDigits_length x
    have h18 := nDigits_lt (d := x) (n := 18) (by omega) (by omega)
    rw [hs1]
    show (Lib.decDigits x).toArray.size ≤ 20
    simp; omega
  have hz2 : s2.size ≤ 20 := by
    have := Lib.decDigits_length k.natAbs
    have := Lib.decDigits_length k.toNat
    have h18 := nDigits_lt (d := k.natAbs) (n := 18) (by omega) (by omega)
    have h19 := nDigits_lt (d := k.toNat) (n := 18) (by omega) (by omega)
    rw [hs2]
    show (Lib.itoa k).toArray.size ≤ 20
    unfold Lib.itoa
    split <;> simp <;> omega
  rw [← hcat]
  have K40 : Hid _ := k40
  have K68 : Hid _ := k68
  have HB1 : Hid (Below w.heap.size w (w.alloc (.cells #[.int .u64 x, .int .i64 k] 31))) := (Below.refl _ _).alloc (Nat.le_refl _) _
  have HD1 : Hid (DecIn (w.alloc (.cells #[.int .u64 x, .int .i64 k] 31)) w.heap.size x k) := heap_new' w _
  clear k40 k68 E hcat hs1 hs2
  have HF : Hid (∀ W W' : World, Below w.heap.size w W → DecIn W w.heap.size x k → Below W.heap.size W W' → Below w.heap.size w W' ∧ DecIn W' w.heap.size x k) := fun W W' a b c => ⟨a.trans (c.mono a.size), b.below c (block_lt b.c0)⟩
  go_enter Tryz.func42, Tryz.ntmps42
  go_upto_region 1 with fail
  go_region_with (first
    | (go_at_call 40; refine (K40.out _ (by first | exact HB1.out | exact HB1.out.drew | exact (BA.out).1 | exact (BA.out).1.drew)).mono ?_; rintro e w3 ⟨rfl, hB⟩; have BB : Hid (Below w.heap.size w w3 ∧ DecIn w3 w.heap.size x k) := (by first | exact HF.out _ _ (BA.out).1 (BA.out).2 hB | exact HF.out _ _ HB1.out.drew HD1.out hB | exact HF.out _ _ HB1.out HD1.out hB); have g0 := BB.out.2.c0; have g1 := BB.out.2.c1; clear hB)
    | (go_at_call 68; refine (K68.out _ (by first | exact HB1.out | exact HB1.out.drew | exact (BB.out).1 | exact (BB.out).1.drew)).mono ?_; rintro e w4 ⟨rfl, hB⟩; have BA : Hid (Below w.heap.size w w4 ∧ DecIn w4 w.heap.size x k) := (by first | exact HF.out _ _ (BB.out).1 (BB.out).2 hB | exact HF.out _ _ HB1.out.drew HD1.out hB | exact HF.out _ _ HB1.out HD1.out hB); have g0' := BA.out.2.c0; have g1' := BA.out.2.c1; clear hB))
  all_goals (go_wp2_with fail; go_ret; first | exact ⟨rfl, BA.out.1⟩ | exact ⟨rfl, BB.out.1⟩ | exact ⟨rfl, BA.out.1.drew⟩ | exact ⟨rfl, BB.out.1.drew⟩)
end Go.Proofs.Qxb6606417aGreatDoor
