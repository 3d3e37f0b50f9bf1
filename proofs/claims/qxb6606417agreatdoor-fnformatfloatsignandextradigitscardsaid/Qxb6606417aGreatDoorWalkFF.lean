import Derived.Test.Qxb6606417aGreatDoorWalkLO
import Derived.Test.Qxb6606417aGreatDoorWalkNI
import Derived.Test.Qxb6606417aGreatDoorWalkIn
import Derived.Test.Qxb6606417aGreatDoorNum18
namespace Go.Proofs.Qxb6606417aGreatDoor
open Go.RowKit Go.PlainAid
set_option linter.unusedVariables false
set_option linter.unusedSimpArgs false
set_option maxRecDepth 100000

theorem up_last {x : Nat} {k : Int} {n : Nat} (D : DOk x k) : (upN x k n).1 % 10 ≠ 0 := by
  unfold upN
  obtain ⟨i, t1, t2, t3, t4, t5⟩ := trim_digits (x * 10 ^ (n - Lib.nDigits x) + 1) (x * 10 ^ (n - Lib.nDigits x) + 1) (k - (n - Lib.nDigits x : Nat)) (Nat.le_refl _) (by omega)
  exact t4
theorem loop_ok {V : Nat} {bt : Int} {M : Nat} {q : Int} {nar : Bool} {sho : Nat × Int} {fix : Nat → Nat × Int} {num : Nat → Int → Nat} (H : Num V bt M q nar sho fix num) :
    ∀ (f n : Nat), 1 ≤ n → n + f ≤ 18 → DP (loopN V M q nar fix num f n).1 (loopN V M q nar fix num f n).2 ∧ (loopN V M q nar fix num f n).1 % 10 ≠ 0
  | 0, n, h1, h2 => ⟨(H.dF n h1 (by omega)).1.dp, (H.dF n h1 (by omega)).1.last⟩
  | f + 1, n, h1, h2 => by
    have hd := H.dF n h1 (by omega)
    unfold loopN
    split
    · exact ⟨hd.1.dp, hd.1.last⟩
    · split
      · exact ⟨up_ok hd.1 hd.2 (by omega), up_last hd.1⟩
      · exact loop_ok H f (n + 1) (by omega) (by omega)
theorem shortest_ok {V : Nat} {bt : Int} {M : Nat} {q : Int} {nar : Bool} {sho : Nat × Int} {fix : Nat → Nat × Int} {num : Nat → Int → Nat} (H : Num V bt M q nar sho fix num) :
    DP (shortestN V M q nar sho fix num).1 (shortestN V M q nar sho fix num).2 ∧ (shortestN V M q nar sho fix num).1 % 10 ≠ 0 := by
  unfold shortestN
  split
  · exact ⟨H.dS.dp, H.dS.last⟩
  · have h1 := Lib.nDigits_pos sho.1
    have h2 : Lib.nDigits sho.1 ≤ 18 := nDigits_lt (by have := H.dS.lt; omega) (by omega)
    exact loop_ok H _ _ h1 (by omega)
theorem ite_len {c : Prop} [Decidable c] (L : List UInt8) (n : Nat) (h : L.length ≤ n) : (if c then L else []).length ≤ n := by
  split
  · exact h
  · simp
theorem lay_len (x : Nat) (k pb : Int) (h0 : 0 < x) (h1 : x < 1000000000000000000) (hk1 : -450 ≤ k) (hk2 : k ≤ 450) : (layN x k pb).length ≤ 2000 := by
  have hlen := Lib.decDigits_length x
  have hnd := nDigits_lt (d := x) (n := 18) (by omega) (by omega)
  unfold layN
  split
  · unfold plainTxt
    have ht : ∀ n, ((Lib.decDigits x).take n).length ≤ 18 := fun n => by rw [List.length_take]; omega
    have hd : ∀ n, ((Lib.decDigits x).drop n).length ≤ 18 := fun n => by rw [List.length_drop]; omega
    have h3 := ht (min (max (k + (Lib.decDigits x).length) 0) (Lib.decDigits x).length).toNat
    have h4 := hd (min (max (k + (Lib.decDigits x).length) 0) (Lib.decDigits x).length).toNat
    have h5 : (if k + ((Lib.decDigits x).length : Int) ≤ 0 then [(48 : UInt8)] else []).length ≤ 1 := ite_len _ 1 (by simp)
    rw [List.length_append, List.length_append, List.length_append, List.length_replicate]
    have h6 := ite_len (c := 0 < max (-k) 0) ([(46 : UInt8)] ++ List.replicate (max (-(k + (Lib.decDigits x).length)) 0).toNat 48 ++ (Lib.decDigits x).drop (min (max (k + (Lib.decDigits x).length) 0) (Lib.decDigits x).length).toNat ++ List.replicate (max (-k) 0 - max (-k) 0).toNat 48) 1000 (by
      rw [List.length_append, List.length_append, List.length_append, List.length_replicate, List.length_replicate, List.length_cons, List.length_nil]
      omega)
    omega
  · split
    · simp
    · rename_i c r hcr
      unfold sciTxt
      have hr : r.length ≤ 18 := by rw [hcr] at hlen; simp at hlen; omega
      have h5 : (if r = [] then [] else [(46 : UInt8)] ++ r).length ≤ 19 := by split <;> simp; omega
      have h6 : (if k + (Lib.nDigits x : Int) - 1 < 0 then [(101 : UInt8), 45] else [101, 43]).length ≤ 2 := by split <;> simp
      have h7 : (if (k + (Lib.nDigits x : Int) - 1).natAbs < 10 then [(48 : UInt8)] else []).length ≤ 1 := by split <;> simp
      have h8 : (Lib.itoa (((k + (Lib.nDigits x : Int) - 1).natAbs : Nat) : Int)).length ≤ 20 := by
        have hn : (k + (Lib.nDigits x : Int) - 1).natAbs ≤ 1000 := by omega
        generalize (k + (Lib.nDigits x : Int) - 1).natAbs = a at hn
        unfold Lib.itoa
        have g1 := Lib.decDigits_length a
        have g3 := nDigits_lt (d := a) (n := 18) (by omega) (by omega)
        split <;> simp <;> omega
      simp only [List.length_append, List.length_cons, List.length_nil]
      omega

/-- What formatFloat writes of a number above zero. -/
def ffTxt (sd : Int) (V : Nat) (M : Nat) (q : Int) (nar : Bool) (sho : Nat × Int) (fix : Nat → Nat × Int) (num : Nat → Int → Nat) (ed : Int) : List UInt8 :=
  if 0 < ed then layN (shortestN V M q nar sho fix num).1 (shortestN V M q nar sho fix num).2 sd
  else layN (fix (max (sd + ed) 1).toNat).1 (fix (max (sd + ed) 1).toNat).2 (max (sd + ed) 1)
theorem cat_neg5 (T : List UInt8) : (⟨#[45]⟩ : ByteArray) ++ ⟨T.toArray⟩ = ⟨(45 :: T).toArray⟩ := by rw [ba_app]; simp
theorem cat_pos5 (T : List UInt8) : (⟨#[]⟩ : ByteArray) ++ ⟨T.toArray⟩ = ⟨T.toArray⟩ := by rw [ba_app]; simp
theorem below_through {w W W' : World} (h : Below w.heap.size w W) (h' : Below W.heap.size W W') : Below w.heap.size w W' := h.trans (h'.mono h.size)

set_option maxHeartbeats 4000000 in
theorem ff_pos_short (V : Nat) (bt sd ed : Int) (M : Nat) (q : Int) (nar : Bool) (sho : Nat × Int) (fix : Nat → Nat × Int) (num : Nat → Int → Nat) (w : World) (EF : EnvF w) (H : Num V bt M q nar sho fix num)
    (h0 : 0 < V) (h1 : V < 9218868437227405312) (hsd : sd = if bt = 32 then 6 else 15) (hsd1 : 6 ≤ sd) (hsd2 : sd ≤ 15) (he1 : -9223372036854775808 ≤ ed) (he2 : ed ≤ 9223372036854775807) (hed : 0 < ed) :
    Calls Tryz.prog 5 #[.float .f64 V, .int .i64 bt, .int .i64 ed] w fun e w' => e = .returned (.string ⟨(ffTxt sd V M q nar sho fix num ed).toArray⟩) ∧ Below w.heap.size w w' := by
  obtain ⟨F, hF⟩ : ∃ F, V = F := ⟨_, rfl⟩
  have k6 : ∀ W : World, Calls Tryz.prog 6 #[.float .f64 F] W fun e w' => e = .returned (.bool false) ∧ W = w' := fun W => isNaN_any F W (by rw [← hF]; exact order_self h1)
  have k7a : ∀ W : World, Calls Tryz.prog 7 #[.float .f64 F, .int .i64 1] W fun e w' => e = .returned (.bool false) ∧ W = w' := fun W => isInf_pos F false W (by rw [← hF]; exact max_ge h1)
  have k7b : ∀ W : World, Calls Tryz.prog 7 #[.float .f64 F, .int .i64 (-1)] W fun e w' => e = .returned (.bool false) ∧ W = w' := fun W => isInf_neg F (9223372036854775808 + V) false W (by rw [← hF]; exact neg_pos (by omega)) (neg_not_gt (by omega) (by omega))
  have k8 : ∀ W : World, Calls Tryz.prog 8 #[.float .f64 F] W fun e w' => e = .returned (.bool false) ∧ W = w' := fun W => by
    have := signbit_any F W (by omega)
    rw [decide_eq_false (show ¬ 9223372036854775808 ≤ F by omega)] at this
    exact this
  have k11 : ∀ W : World, Calls Tryz.prog 11 #[.float .f64 F] W fun e w' => e = .returned (.float .f64 V) ∧ W = w' := fun W => by
    have := abs_any F W (by omega)
    rw [show F % 9223372036854775808 = V by omega] at this
    exact this
  have hz : (Ieee.double.order F 0 == some Ordering.eq) = false := by rw [← hF, order_zero h0 h1]; rfl
  rw [show (Value.float FloatKind.f64 V) = Value.float FloatKind.f64 F from by rw [hF]]
  have hz' : (FloatKind.f64.format.order F 0 == some Ordering.eq) = false := hz
  have k12 : ∀ W : World, Calls Tryz.prog 12 #[.int .i64 bt] W fun e w' => e = .returned (.int .i64 sd) ∧ W = w' := fun W => by rw [hsd]; exact sig_any bt W
  have HE : Hid (∀ W : World, Below w.heap.size w W → EnvF W) := fun W h => EF.later h
  obtain ⟨D, L⟩ := shortest_ok H
  have hT : ffTxt sd V M q nar sho fix num ed = layN (shortestN V M q nar sho fix num).1 (shortestN V M q nar sho fix num).2 sd := by unfold ffTxt; rw [if_pos hed]
  have k10 : ∀ W : World, Below w.heap.size w W → Calls Tryz.prog 10 #[.float .f64 V, .int .i64 bt] W fun e w' => e = .returned (.agg #[.int .u64 ((shortestN V M q nar sho fix num).1 : Nat), .int .i64 (shortestN V M q nar sho fix num).2]) ∧ Below W.heap.size W w' := fun W h => shortest_walk V bt M q nar sho fix num W (EF.later h) H
  rw [hT]
  clear hT
  generalize (shortestN V M q nar sho fix num).1 = x at *
  generalize (shortestN V M q nar sho fix num).2 = k at *
  have d1 := D.k1
  have d2 := D.k2
  have d3 := D.pos
  have d4 := D.lt
  have k9 : ∀ W : World, Below w.heap.size w W → Calls Tryz.prog 9 #[.agg #[.int .u64 x, .int .i64 k], .int .i64 sd] W fun e w' => e = .returned (.string ⟨(layN x k sd).toArray⟩) ∧ Below W.heap.size W w' := fun W h => layOut_walk x k sd W (EF.later h).env d3 d4 L (by omega) (by omega) (by omega) (by omega)
  have hll := lay_len x k sd d3 d4 (by omega) (by omega)
  generalize layN x k sd = T at *
  obtain ⟨s, hs⟩ : ∃ s : ByteArray, s = ⟨T.toArray⟩ := ⟨_, rfl⟩
  rw [← hs] at k9
  have hsz : s.size ≤ 2000 := by rw [hs]; simpa [ByteArray.size] using hll
  obtain ⟨s2, hs2⟩ : ∃ s2 : ByteArray, s2 = ⟨(T).toArray⟩ := ⟨_, rfl⟩
  have hcat : (⟨#[]⟩ : ByteArray) ++ s = s2 := by rw [hs, hs2]; exact cat_pos5 T
  rw [← hs2]
  have K6 : Hid _ := k6
  have K7a : Hid _ := k7a
  have K7b : Hid _ := k7b
  have K8 : Hid _ := k8
  have K11 : Hid _ := k11
  have K12 : Hid _ := k12
  have K9 : Hid _ := k9
  have K10 : Hid _ := k10
  have hgt : decide (ed > 0) = true := decide_eq_true hed
  clear k6 k7a k7b k8 k11 k12 k9 k10 EF H hs hs2 hF hsd
  go_enter Tryz.func5, Tryz.ntmps5
  go_upto_region 5 with (first
    | (go_at_call 6; refine (K6.out _).mono ?_; rintro e w' ⟨rfl, hw⟩; subst hw)
    | (go_at_call 7; refine (K7a.out _).mono ?_; rintro e w' ⟨rfl, hw⟩; subst hw))
  go_upto_region 7 with (go_at_call 7; refine (K7b.out _).mono ?_; rintro e w' ⟨rfl, hw⟩; subst hw)
  go_wp2_with (first
    | (go_at_call 8; refine (K8.out _).mono ?_; rintro e w' ⟨rfl, hw⟩; subst hw)
    | (go_at_call 11; refine (K11.out _).mono ?_; rintro e w' ⟨rfl, hw⟩; subst hw)
    | (go_at_call 12; refine (K12.out _).mono ?_; rintro e w' ⟨rfl, hw⟩; subst hw)
    | (go_at_call 10; refine (K10.out _ (Below.refl _ _)).mono ?_; rintro e w2 ⟨rfl, hB⟩; have B2 : Hid (Below w.heap.size w w2) := hB; clear hB)
    | (go_at_call 9; refine (K9.out _ B2.out).mono ?_; rintro e w3 ⟨rfl, hB⟩; have B3 : Hid (Below w.heap.size w w3) := below_through B2.out hB; clear hB))
  go_ret
  exact ⟨rfl, B3.out⟩

set_option maxHeartbeats 4000000 in
theorem ff_pos_fixed (V : Nat) (bt sd ed : Int) (M : Nat) (q : Int) (nar : Bool) (sho : Nat × Int) (fix : Nat → Nat × Int) (num : Nat → Int → Nat) (w : World) (EF : EnvF w) (H : Num V bt M q nar sho fix num)
    (h0 : 0 < V) (h1 : V < 9218868437227405312) (hsd : sd = if bt = 32 then 6 else 15) (hsd1 : 6 ≤ sd) (hsd2 : sd ≤ 15) (he1 : -9223372036854775808 ≤ ed) (he2 : ed ≤ 9223372036854775807) (hed : ¬ 0 < ed) :
    Calls Tryz.prog 5 #[.float .f64 V, .int .i64 bt, .int .i64 ed] w fun e w' => e = .returned (.string ⟨(ffTxt sd V M q nar sho fix num ed).toArray⟩) ∧ Below w.heap.size w w' := by
  obtain ⟨F, hF⟩ : ∃ F, V = F := ⟨_, rfl⟩
  have k6 : ∀ W : World, Calls Tryz.prog 6 #[.float .f64 F] W fun e w' => e = .returned (.bool false) ∧ W = w' := fun W => isNaN_any F W (by rw [← hF]; exact order_self h1)
  have k7a : ∀ W : World, Calls Tryz.prog 7 #[.float .f64 F, .int .i64 1] W fun e w' => e = .returned (.bool false) ∧ W = w' := fun W => isInf_pos F false W (by rw [← hF]; exact max_ge h1)
  have k7b : ∀ W : World, Calls Tryz.prog 7 #[.float .f64 F, .int .i64 (-1)] W fun e w' => e = .returned (.bool false) ∧ W = w' := fun W => isInf_neg F (9223372036854775808 + V) false W (by rw [← hF]; exact neg_pos (by omega)) (neg_not_gt (by omega) (by omega))
  have k8 : ∀ W : World, Calls Tryz.prog 8 #[.float .f64 F] W fun e w' => e = .returned (.bool false) ∧ W = w' := fun W => by
    have := signbit_any F W (by omega)
    rw [decide_eq_false (show ¬ 9223372036854775808 ≤ F by omega)] at this
    exact this
  have k11 : ∀ W : World, Calls Tryz.prog 11 #[.float .f64 F] W fun e w' => e = .returned (.float .f64 V) ∧ W = w' := fun W => by
    have := abs_any F W (by omega)
    rw [show F % 9223372036854775808 = V by omega] at this
    exact this
  have hz : (Ieee.double.order F 0 == some Ordering.eq) = false := by rw [← hF, order_zero h0 h1]; rfl
  rw [show (Value.float FloatKind.f64 V) = Value.float FloatKind.f64 F from by rw [hF]]
  have hz' : (FloatKind.f64.format.order F 0 == some Ordering.eq) = false := hz
  have k12 : ∀ W : World, Calls Tryz.prog 12 #[.int .i64 bt] W fun e w' => e = .returned (.int .i64 sd) ∧ W = w' := fun W => by rw [hsd]; exact sig_any bt W
  have HE : Hid (∀ W : World, Below w.heap.size w W → EnvF W) := fun W h => EF.later h
  obtain ⟨n, hn⟩ : ∃ n : Nat, max (sd + ed) 1 = n := ⟨(max (sd + ed) 1).toNat, by omega⟩
  have hn1 : 1 ≤ n := by omega
  have hn2 : n ≤ 15 := by omega
  obtain ⟨D, hD⟩ := H.dF n hn1 (by omega)
  have hT : ffTxt sd V M q nar sho fix num ed = layN (fix n).1 (fix n).2 n := by unfold ffTxt; rw [if_neg hed, hn, Int.toNat_natCast]
  have k14 : ∀ W : World, Below w.heap.size w W → Calls Tryz.prog 14 #[.float .f64 V, .int .u8 101, .int .i64 ((n : Int) - 1), .int .i64 bt] W fun e w' => e = .returned (.string ⟨(fmtTxt (fix n).1 (fix n).2 (n - 1)).toArray⟩) ∧ Below W.heap.size W w' := fun W h => H.kF n W hn1 (by omega) (EF.later h).env
  have k13 : ∀ W : World, Below w.heap.size w W → Calls Tryz.prog 13 #[.string ⟨(fmtTxt (fix n).1 (fix n).2 (n - 1)).toArray⟩] W fun e w' => e = .returned (.agg #[.int .u64 ((fix n).1 : Nat), .int .i64 (fix n).2]) ∧ Below W.heap.size W w' := fun W h => read_dok _ _ (n - 1) W (EF.later h).env D (by omega) (by omega)
  rw [hT]
  clear hT
  have d1 := D.k1
  have d2 := D.k2
  have d3 := D.pos
  have d4 := D.lt
  have d5 := D.last
  clear hD D
  generalize hsf : (ByteArray.mk (fmtTxt (fix n).1 (fix n).2 (n - 1)).toArray) = sf at *
  generalize (fix n).1 = x at *
  generalize (fix n).2 = k at *
  have k9 : ∀ W : World, Below w.heap.size w W → Calls Tryz.prog 9 #[.agg #[.int .u64 x, .int .i64 k], .int .i64 n] W fun e w' => e = .returned (.string ⟨(layN x k n).toArray⟩) ∧ Below W.heap.size W w' := fun W h => layOut_walk x k n W (EF.later h).env d3 d4 d5 (by omega) (by omega) (by omega) (by omega)
  have hll := lay_len x k n d3 d4 (by omega) (by omega)
  generalize layN x k n = T at *
  obtain ⟨s, hs⟩ : ∃ s : ByteArray, s = ⟨T.toArray⟩ := ⟨_, rfl⟩
  rw [← hs] at k9
  have hsz : s.size ≤ 2000 := by rw [hs]; simpa [ByteArray.size] using hll
  obtain ⟨s2, hs2⟩ : ∃ s2 : ByteArray, s2 = ⟨(T).toArray⟩ := ⟨_, rfl⟩
  have hcat : (⟨#[]⟩ : ByteArray) ++ s = s2 := by rw [hs, hs2]; exact cat_pos5 T
  rw [← hs2]
  have K6 : Hid _ := k6
  have K7a : Hid _ := k7a
  have K7b : Hid _ := k7b
  have K8 : Hid _ := k8
  have K11 : Hid _ := k11
  have K12 : Hid _ := k12
  have K9 : Hid _ := k9
  have K14 : Hid _ := k14
  have K13 : Hid _ := k13
  have hgt : decide (ed > 0) = false := decide_eq_false hed
  have hn' : max (sd + ed) 1 = (n : Int) := hn
  clear k6 k7a k7b k8 k11 k12 k9 k13 k14 EF H hs hs2 hF hsd hn hsf
  go_enter Tryz.func5, Tryz.ntmps5
  go_upto_region 5 with (first
    | (go_at_call 6; refine (K6.out _).mono ?_; rintro e w' ⟨rfl, hw⟩; subst hw)
    | (go_at_call 7; refine (K7a.out _).mono ?_; rintro e w' ⟨rfl, hw⟩; subst hw))
  go_upto_region 7 with (go_at_call 7; refine (K7b.out _).mono ?_; rintro e w' ⟨rfl, hw⟩; subst hw)
  go_wp2_with (first
    | (go_at_call 8; refine (K8.out _).mono ?_; rintro e w' ⟨rfl, hw⟩; subst hw)
    | (go_at_call 11; refine (K11.out _).mono ?_; rintro e w' ⟨rfl, hw⟩; subst hw)
    | (go_at_call 12; refine (K12.out _).mono ?_; rintro e w' ⟨rfl, hw⟩; subst hw)
    | (go_at_call 14; refine (K14.out _ (Below.refl _ _)).mono ?_; rintro e w2 ⟨rfl, hB⟩; have B2 : Hid (Below w.heap.size w w2) := hB; clear hB)
    | (go_at_call 13; refine (K13.out _ B2.out).mono ?_; rintro e w3 ⟨rfl, hB⟩; have B3 : Hid (Below w.heap.size w w3) := below_through B2.out hB; have B3a : Hid (∀ o : Obj, Below w.heap.size w (w3.alloc o)) := (fun o => B3.out.alloc B3.out.size o); have hw3 := B3.out.size; clear hB)
    | (go_at_call 9; refine (K9.out _ (by exact B3a.out _)).mono ?_; rintro e w4 ⟨rfl, hB⟩; have B4 : Hid (Below w.heap.size w w4) := below_through (B3a.out _) hB; clear hB))
  go_ret
  exact ⟨rfl, B4.out⟩

set_option maxHeartbeats 4000000 in
theorem ff_neg_short (V : Nat) (bt sd ed : Int) (M : Nat) (q : Int) (nar : Bool) (sho : Nat × Int) (fix : Nat → Nat × Int) (num : Nat → Int → Nat) (w : World) (EF : EnvF w) (H : Num V bt M q nar sho fix num)
    (h0 : 0 < V) (h1 : V < 9218868437227405312) (hsd : sd = if bt = 32 then 6 else 15) (hsd1 : 6 ≤ sd) (hsd2 : sd ≤ 15) (he1 : -9223372036854775808 ≤ ed) (he2 : ed ≤ 9223372036854775807) (hed : 0 < ed) :
    Calls Tryz.prog 5 #[.float .f64 (9223372036854775808 + V), .int .i64 bt, .int .i64 ed] w fun e w' => e = .returned (.string ⟨(45 :: ffTxt sd V M q nar sho fix num ed).toArray⟩) ∧ Below w.heap.size w w' := by
  obtain ⟨F, hF⟩ : ∃ F, 9223372036854775808 + V = F := ⟨_, rfl⟩
  have k6 : ∀ W : World, Calls Tryz.prog 6 #[.float .f64 F] W fun e w' => e = .returned (.bool false) ∧ W = w' := fun W => isNaN_any F W (by rw [← hF]; exact order_neg_self h1)
  have k7a : ∀ W : World, Calls Tryz.prog 7 #[.float .f64 F, .int .i64 1] W fun e w' => e = .returned (.bool false) ∧ W = w' := fun W => isInf_pos F false W (by rw [← hF]; exact neg_not_gt (by omega) (by omega))
  have k7b : ∀ W : World, Calls Tryz.prog 7 #[.float .f64 F, .int .i64 (-1)] W fun e w' => e = .returned (.bool false) ∧ W = w' := fun W => isInf_neg F V false W (by rw [← hF]; exact neg_neg' (by omega)) (max_ge h1)
  have k8 : ∀ W : World, Calls Tryz.prog 8 #[.float .f64 F] W fun e w' => e = .returned (.bool true) ∧ W = w' := fun W => by
    have := signbit_any F W (by omega)
    rw [decide_eq_true (show 9223372036854775808 ≤ F by omega)] at this
    exact this
  have k11 : ∀ W : World, Calls Tryz.prog 11 #[.float .f64 F] W fun e w' => e = .returned (.float .f64 V) ∧ W = w' := fun W => by
    have := abs_any F W (by omega)
    rw [show F % 9223372036854775808 = V by omega] at this
    exact this
  have hz : (Ieee.double.order F 0 == some Ordering.eq) = false := by rw [← hF, order_neg_zero h0 h1]; rfl
  rw [hF]
  have hz' : (FloatKind.f64.format.order F 0 == some Ordering.eq) = false := hz
  have k12 : ∀ W : World, Calls Tryz.prog 12 #[.int .i64 bt] W fun e w' => e = .returned (.int .i64 sd) ∧ W = w' := fun W => by rw [hsd]; exact sig_any bt W
  have HE : Hid (∀ W : World, Below w.heap.size w W → EnvF W) := fun W h => EF.later h
  obtain ⟨D, L⟩ := shortest_ok H
  have hT : ffTxt sd V M q nar sho fix num ed = layN (shortestN V M q nar sho fix num).1 (shortestN V M q nar sho fix num).2 sd := by unfold ffTxt; rw [if_pos hed]
  have k10 : ∀ W : World, Below w.heap.size w W → Calls Tryz.prog 10 #[.float .f64 V, .int .i64 bt] W fun e w' => e = .returned (.agg #[.int .u64 ((shortestN V M q nar sho fix num).1 : Nat), .int .i64 (shortestN V M q nar sho fix num).2]) ∧ Below W.heap.size W w' := fun W h => shortest_walk V bt M q nar sho fix num W (EF.later h) H
  rw [hT]
  clear hT
  generalize (shortestN V M q nar sho fix num).1 = x at *
  generalize (shortestN V M q nar sho fix num).2 = k at *
  have d1 := D.k1
  have d2 := D.k2
  have d3 := D.pos
  have d4 := D.lt
  have k9 : ∀ W : World, Below w.heap.size w W → Calls Tryz.prog 9 #[.agg #[.int .u64 x, .int .i64 k], .int .i64 sd] W fun e w' => e = .returned (.string ⟨(layN x k sd).toArray⟩) ∧ Below W.heap.size W w' := fun W h => layOut_walk x k sd W (EF.later h).env d3 d4 L (by omega) (by omega) (by omega) (by omega)
  have hll := lay_len x k sd d3 d4 (by omega) (by omega)
  generalize layN x k sd = T at *
  obtain ⟨s, hs⟩ : ∃ s : ByteArray, s = ⟨T.toArray⟩ := ⟨_, rfl⟩
  rw [← hs] at k9
  have hsz : s.size ≤ 2000 := by rw [hs]; simpa [ByteArray.size] using hll
  obtain ⟨s2, hs2⟩ : ∃ s2 : ByteArray, s2 = ⟨(45 :: T).toArray⟩ := ⟨_, rfl⟩
  have hcat : (⟨#[45]⟩ : ByteArray) ++ s = s2 := by rw [hs, hs2]; exact cat_neg5 T
  rw [← hs2]
  have K6 : Hid _ := k6
  have K7a : Hid _ := k7a
  have K7b : Hid _ := k7b
  have K8 : Hid _ := k8
  have K11 : Hid _ := k11
  have K12 : Hid _ := k12
  have K9 : Hid _ := k9
  have K10 : Hid _ := k10
  have hgt : decide (ed > 0) = true := decide_eq_true hed
  clear k6 k7a k7b k8 k11 k12 k9 k10 EF H hs hs2 hF hsd
  go_enter Tryz.func5, Tryz.ntmps5
  go_upto_region 5 with (first
    | (go_at_call 6; refine (K6.out _).mono ?_; rintro e w' ⟨rfl, hw⟩; subst hw)
    | (go_at_call 7; refine (K7a.out _).mono ?_; rintro e w' ⟨rfl, hw⟩; subst hw))
  go_upto_region 7 with (go_at_call 7; refine (K7b.out _).mono ?_; rintro e w' ⟨rfl, hw⟩; subst hw)
  go_wp2_with (first
    | (go_at_call 8; refine (K8.out _).mono ?_; rintro e w' ⟨rfl, hw⟩; subst hw)
    | (go_at_call 11; refine (K11.out _).mono ?_; rintro e w' ⟨rfl, hw⟩; subst hw)
    | (go_at_call 12; refine (K12.out _).mono ?_; rintro e w' ⟨rfl, hw⟩; subst hw)
    | (go_at_call 10; refine (K10.out _ (Below.refl _ _)).mono ?_; rintro e w2 ⟨rfl, hB⟩; have B2 : Hid (Below w.heap.size w w2) := hB; clear hB)
    | (go_at_call 9; refine (K9.out _ B2.out).mono ?_; rintro e w3 ⟨rfl, hB⟩; have B3 : Hid (Below w.heap.size w w3) := below_through B2.out hB; clear hB))
  go_ret
  exact ⟨rfl, B3.out⟩

set_option maxHeartbeats 4000000 in
theorem ff_neg_fixed (V : Nat) (bt sd ed : Int) (M : Nat) (q : Int) (nar : Bool) (sho : Nat × Int) (fix : Nat → Nat × Int) (num : Nat → Int → Nat) (w : World) (EF : EnvF w) (H : Num V bt M q nar sho fix num)
    (h0 : 0 < V) (h1 : V < 9218868437227405312) (hsd : sd = if bt = 32 then 6 else 15) (hsd1 : 6 ≤ sd) (hsd2 : sd ≤ 15) (he1 : -9223372036854775808 ≤ ed) (he2 : ed ≤ 9223372036854775807) (hed : ¬ 0 < ed) :
    Calls Tryz.prog 5 #[.float .f64 (9223372036854775808 + V), .int .i64 bt, .int .i64 ed] w fun e w' => e = .returned (.string ⟨(45 :: ffTxt sd V M q nar sho fix num ed).toArray⟩) ∧ Below w.heap.size w w' := by
  obtain ⟨F, hF⟩ : ∃ F, 9223372036854775808 + V = F := ⟨_, rfl⟩
  have k6 : ∀ W : World, Calls Tryz.prog 6 #[.float .f64 F] W fun e w' => e = .returned (.bool false) ∧ W = w' := fun W => isNaN_any F W (by rw [← hF]; exact order_neg_self h1)
  have k7a : ∀ W : World, Calls Tryz.prog 7 #[.float .f64 F, .int .i64 1] W fun e w' => e = .returned (.bool false) ∧ W = w' := fun W => isInf_pos F false W (by rw [← hF]; exact neg_not_gt (by omega) (by omega))
  have k7b : ∀ W : World, Calls Tryz.prog 7 #[.float .f64 F, .int .i64 (-1)] W fun e w' => e = .returned (.bool false) ∧ W = w' := fun W => isInf_neg F V false W (by rw [← hF]; exact neg_neg' (by omega)) (max_ge h1)
  have k8 : ∀ W : World, Calls Tryz.prog 8 #[.float .f64 F] W fun e w' => e = .returned (.bool true) ∧ W = w' := fun W => by
    have := signbit_any F W (by omega)
    rw [decide_eq_true (show 9223372036854775808 ≤ F by omega)] at this
    exact this
  have k11 : ∀ W : World, Calls Tryz.prog 11 #[.float .f64 F] W fun e w' => e = .returned (.float .f64 V) ∧ W = w' := fun W => by
    have := abs_any F W (by omega)
    rw [show F % 9223372036854775808 = V by omega] at this
    exact this
  have hz : (Ieee.double.order F 0 == some Ordering.eq) = false := by rw [← hF, order_neg_zero h0 h1]; rfl
  rw [hF]
  have hz' : (FloatKind.f64.format.order F 0 == some Ordering.eq) = false := hz
  have k12 : ∀ W : World, Calls Tryz.prog 12 #[.int .i64 bt] W fun e w' => e = .returned (.int .i64 sd) ∧ W = w' := fun W => by rw [hsd]; exact sig_any bt W
  have HE : Hid (∀ W : World, Below w.heap.size w W → EnvF W) := fun W h => EF.later h
  obtain ⟨n, hn⟩ : ∃ n : Nat, max (sd + ed) 1 = n := ⟨(max (sd + ed) 1).toNat, by omega⟩
  have hn1 : 1 ≤ n := by omega
  have hn2 : n ≤ 15 := by omega
  obtain ⟨D, hD⟩ := H.dF n hn1 (by omega)
  have hT : ffTxt sd V M q nar sho fix num ed = layN (fix n).1 (fix n).2 n := by unfold ffTxt; rw [if_neg hed, hn, Int.toNat_natCast]
  have k14 : ∀ W : World, Below w.heap.size w W → Calls Tryz.prog 14 #[.float .f64 V, .int .u8 101, .int .i64 ((n : Int) - 1), .int .i64 bt] W fun e w' => e = .returned (.string ⟨(fmtTxt (fix n).1 (fix n).2 (n - 1)).toArray⟩) ∧ Below W.heap.size W w' := fun W h => H.kF n W hn1 (by omega) (EF.later h).env
  have k13 : ∀ W : World, Below w.heap.size w W → Calls Tryz.prog 13 #[.string ⟨(fmtTxt (fix n).1 (fix n).2 (n - 1)).toArray⟩] W fun e w' => e = .returned (.agg #[.int .u64 ((fix n).1 : Nat), .int .i64 (fix n).2]) ∧ Below W.heap.size W w' := fun W h => read_dok _ _ (n - 1) W (EF.later h).env D (by omega) (by omega)
  rw [hT]
  clear hT
  have d1 := D.k1
  have d2 := D.k2
  have d3 := D.pos
  have d4 := D.lt
  have d5 := D.last
  clear hD D
  generalize hsf : (ByteArray.mk (fmtTxt (fix n).1 (fix n).2 (n - 1)).toArray) = sf at *
  generalize (fix n).1 = x at *
  generalize (fix n).2 = k at *
  have k9 : ∀ W : World, Below w.heap.size w W → Calls Tryz.prog 9 #[.agg #[.int .u64 x, .int .i64 k], .int .i64 n] W fun e w' => e = .returned (.string ⟨(layN x k n).toArray⟩) ∧ Below W.heap.size W w' := fun W h => layOut_walk x k n W (EF.later h).env d3 d4 d5 (by omega) (by omega) (by omega) (by omega)
  have hll := lay_len x k n d3 d4 (by omega) (by omega)
  generalize layN x k n = T at *
  obtain ⟨s, hs⟩ : ∃ s : ByteArray, s = ⟨T.toArray⟩ := ⟨_, rfl⟩
  rw [← hs] at k9
  have hsz : s.size ≤ 2000 := by rw [hs]; simpa [ByteArray.size] using hll
  obtain ⟨s2, hs2⟩ : ∃ s2 : ByteArray, s2 = ⟨(45 :: T).toArray⟩ := ⟨_, rfl⟩
  have hcat : (⟨#[45]⟩ : ByteArray) ++ s = s2 := by rw [hs, hs2]; exact cat_neg5 T
  rw [← hs2]
  have K6 : Hid _ := k6
  have K7a : Hid _ := k7a
  have K7b : Hid _ := k7b
  have K8 : Hid _ := k8
  have K11 : Hid _ := k11
  have K12 : Hid _ := k12
  have K9 : Hid _ := k9
  have K14 : Hid _ := k14
  have K13 : Hid _ := k13
  have hgt : decide (ed > 0) = false := decide_eq_false hed
  have hn' : max (sd + ed) 1 = (n : Int) := hn
  clear k6 k7a k7b k8 k11 k12 k9 k13 k14 EF H hs hs2 hF hsd hn hsf
  go_enter Tryz.func5, Tryz.ntmps5
  go_upto_region 5 with (first
    | (go_at_call 6; refine (K6.out _).mono ?_; rintro e w' ⟨rfl, hw⟩; subst hw)
    | (go_at_call 7; refine (K7a.out _).mono ?_; rintro e w' ⟨rfl, hw⟩; subst hw))
  go_upto_region 7 with (go_at_call 7; refine (K7b.out _).mono ?_; rintro e w' ⟨rfl, hw⟩; subst hw)
  go_wp2_with (first
    | (go_at_call 8; refine (K8.out _).mono ?_; rintro e w' ⟨rfl, hw⟩; subst hw)
    | (go_at_call 11; refine (K11.out _).mono ?_; rintro e w' ⟨rfl, hw⟩; subst hw)
    | (go_at_call 12; refine (K12.out _).mono ?_; rintro e w' ⟨rfl, hw⟩; subst hw)
    | (go_at_call 14; refine (K14.out _ (Below.refl _ _)).mono ?_; rintro e w2 ⟨rfl, hB⟩; have B2 : Hid (Below w.heap.size w w2) := hB; clear hB)
    | (go_at_call 13; refine (K13.out _ B2.out).mono ?_; rintro e w3 ⟨rfl, hB⟩; have B3 : Hid (Below w.heap.size w w3) := below_through B2.out hB; have B3a : Hid (∀ o : Obj, Below w.heap.size w (w3.alloc o)) := (fun o => B3.out.alloc B3.out.size o); have hw3 := B3.out.size; clear hB)
    | (go_at_call 9; refine (K9.out _ (by exact B3a.out _)).mono ?_; rintro e w4 ⟨rfl, hB⟩; have B4 : Hid (Below w.heap.size w w4) := below_through (B3a.out _) hB; clear hB))
  go_ret
  exact ⟨rfl, B4.out⟩
end Go.Proofs.Qxb6606417aGreatDoor
