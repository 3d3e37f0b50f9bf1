import Derived.Test.Qxb6606417aGreatDoorWalkYB
namespace Go.Proofs.Qxb6606417aGreatDoor
open Go.RowKit Go.PlainAid
set_option linter.unusedVariables false
set_option linter.unusedSimpArgs false
set_option maxRecDepth 100000

theorem DOk.dp {x : Nat} {k : Int} (D : DOk x k) : DP x k := ⟨D.pos, D.lt, by have := D.k1; omega, by have := D.k2; omega⟩
theorem up_ok {x : Nat} {k : Int} {n : Nat} (D : DOk x k) (h1 : Lib.nDigits x ≤ n) (h2 : n ≤ 18) : DP (upN x k n).1 (upN x k n).2 := by
  have hlt := Lib.lt_pow_nDigits x
  have hn0 := Lib.nDigits_pos x
  have k1 := D.k1
  have k2 := D.k2
  have h3 : x * 10 ^ (n - Lib.nDigits x) < 10 ^ Lib.nDigits x * 10 ^ (n - Lib.nDigits x) := Nat.mul_lt_mul_of_pos_right hlt (Nat.pow_pos (by omega))
  rw [← Nat.pow_add] at h3
  have h4 : 10 ^ (Lib.nDigits x + (n - Lib.nDigits x)) ≤ 10 ^ 18 := Nat.pow_le_pow_right (by omega) (by omega)
  have e18 : (10 : Nat) ^ 18 = 1000000000000000000 := by decide
  unfold upN
  obtain ⟨j, hj⟩ : ∃ j, n - Lib.nDigits x = j := ⟨_, rfl⟩
  rw [hj] at h3 h4 ⊢
  have hd : x * 10 ^ j + 1 ≤ 1000000000000000000 := by omega
  have hd0 : 0 < x * 10 ^ j + 1 := by omega
  generalize x * 10 ^ j + 1 = d at *
  by_cases he : d = 1000000000000000000
  · have := trim_shift 1 (k - j + 18) (by decide) 18
    rw [Nat.one_mul, e18, show k - (j : Int) + 18 - ((18 : Nat) : Int) = k - j from by omega] at this
    rw [he, this]
    exact ⟨by show 0 < 1; omega, by show 1 < 1000000000000000000; omega, by show -400 ≤ k - (j : Int) + 18; omega, by show k - (j : Int) + 18 ≤ 400; omega⟩
  · obtain ⟨i, t1, t2, t3, t4, t5⟩ := trim_digits d d (k - j) (Nat.le_refl _) hd0
    have hn18 : Lib.nDigits d ≤ 18 := nDigits_lt (by omega) (by omega)
    have hp := Lib.nDigits_pos (trimN d (k - j)).1
    have hle : (trimN d (k - j)).1 ≤ d := by
      have : (trimN d (k - j)).1 * 1 ≤ (trimN d (k - j)).1 * 10 ^ i := Nat.mul_le_mul_left _ (Nat.pow_pos (by omega))
      omega
    have hz : (trimN d (k - j)).1 ≠ 0 := by intro h; rw [h] at t4; simp at t4
    exact ⟨by omega, by omega, by omega, by omega⟩
/-- What is known of a number and its type's width. -/
structure Num (V : Nat) (bt : Int) (M : Nat) (q : Int) (nar : Bool) (sho : Nat × Int) (fix : Nat → Nat × Int) (num : Nat → Int → Nat) : Prop where
  parts : PartsAre V bt M q nar
  m0 : 0 < M
  m1 : M < 9007199254740992
  q1 : -2000 ≤ q
  q2 : q ≤ 2000
  dS : DOk sho.1 sho.2
  dF : ∀ n, 1 ≤ n → n ≤ 18 → DOk (fix n).1 (fix n).2 ∧ Lib.nDigits (fix n).1 ≤ n
  kS : ∀ W : World, Env W → Calls Tryz.prog 14 #[.float .f64 V, .int .u8 101, .int .i64 (-1), .int .i64 bt] W fun e w' => e = .returned (.string ⟨(fmtTxt sho.1 sho.2 (Lib.nDigits sho.1 - 1)).toArray⟩) ∧ Below W.heap.size W w'
  kF : ∀ (n : Nat) (W : World), 1 ≤ n → n ≤ 18 → Env W → Calls Tryz.prog 14 #[.float .f64 V, .int .u8 101, .int .i64 ((n : Int) - 1), .int .i64 bt] W fun e w' => e = .returned (.string ⟨(fmtTxt (fix n).1 (fix n).2 (n - 1)).toArray⟩) ∧ Below W.heap.size W w'
  kN : ∀ (x : Nat) (k : Int) (W : World), DP x k → EnvF W → Calls Tryz.prog 41 #[.string ⟨(dstr x k).toArray⟩, .int .i64 bt] W fun e w' => (∃ ev, e = .returned (.tuple #[.float .f64 (num x k), ev])) ∧ Below W.heap.size W w'
  fin : (eqW (num (fix 18).1 (fix 18).2) V && !atEndN M q nar (fix 18).1 (fix 18).2) = true
section
variable (V : Nat) (bt : Int) (M : Nat) (q : Int) (nar : Bool) (sho : Nat × Int) (fix : Nat → Nat × Int) (num : Nat → Int → Nat)
def insN (d : Nat × Int) : Bool := eqW (num d.1 d.2) V && !atEndN M q nar d.1 d.2
def upF (n : Nat) : Nat × Int := upN (fix n).1 (fix n).2 n
def loopN : Nat → Nat → Nat × Int
  | 0, n => fix n
  | f + 1, n => if insN V M q nar num (fix n) then fix n else if insN V M q nar num (upF fix n) then upF fix n else loopN f (n + 1)
def shortestN : Nat × Int := if !atEndN M q nar sho.1 sho.2 && !tiedN M q sho.1 sho.2 then sho else loopN V M q nar fix num (18 - Lib.nDigits sho.1) (Lib.nDigits sho.1)
end
theorem loop_at (V : Nat) (M : Nat) (q : Int) (nar : Bool) (fix : Nat → Nat × Int) (num : Nat → Int → Nat) (hfin : insN V M q nar num (fix 18) = true) (n : Nat) (hn : n ≤ 18) :
    loopN V M q nar fix num (18 - n) n = if insN V M q nar num (fix n) then fix n else if insN V M q nar num (upF fix n) then upF fix n else loopN V M q nar fix num (18 - (n + 1)) (n + 1) := by
  by_cases h : n = 18
  · subst h
    rw [hfin]
    rfl
  · rw [show 18 - n = (18 - (n + 1)) + 1 from by omega]
    rfl
/-- Read back what FormatFloat wrote. -/
theorem read_dok (x : Nat) (k : Int) (prec : Nat) (W : World) (E : Env W) (D : DOk x k) (h1 : Lib.nDigits x ≤ prec + 1) (h2 : prec ≤ 17) : Calls Tryz.prog 13 #[.string ⟨(fmtTxt x k prec).toArray⟩] W fun e w' => e = .returned (.agg #[.int .u64 x, .int .i64 k]) ∧ Below W.heap.size W w' := readFmt_walk x k prec W E D h1 h2
set_option maxHeartbeats 4000000 in
theorem shortest_walk (V : Nat) (bt : Int) (M : Nat) (q : Int) (nar : Bool) (sho : Nat × Int) (fix : Nat → Nat × Int) (num : Nat → Int → Nat) (w : World) (EF : EnvF w) (H : Num V bt M q nar sho fix num) :
    Calls Tryz.prog 10 #[.float .f64 V, .int .i64 bt] w fun e w' => e = .returned (.agg #[.int .u64 ((shortestN V M q nar sho fix num).1 : Nat), .int .i64 (shortestN V M q nar sho fix num).2]) ∧ Below w.heap.size w w' := by
  have HE : Hid (∀ W : World, Below w.heap.size w W → EnvF W) := fun W h => EF.later h
  have HH : Hid (Num V bt M q nar sho fix num) := H
  have hfin : insN V M q nar num (fix 18) = true := H.fin
  have HL : Hid (∀ n, n ≤ 18 → loopN V M q nar fix num (18 - n) n = if insN V M q nar num (fix n) then fix n else if insN V M q nar num (upF fix n) then upF fix n else loopN V M q nar fix num (18 - (n + 1)) (n + 1)) := fun n hn => loop_at V M q nar fix num hfin n hn
  have hsh : shortestN V M q nar sho fix num = if !atEndN M q nar sho.1 sho.2 && !tiedN M q sho.1 sho.2 then sho else loopN V M q nar fix num (18 - Lib.nDigits sho.1) (Lib.nDigits sho.1) := rfl
  obtain ⟨R, hR⟩ : ∃ R, shortestN V M q nar sho fix num = R := ⟨_, rfl⟩
  rw [hR] at hsh ⊢
  clear hR
  obtain ⟨x, k⟩ := sho
  simp only at hsh
  have D := H.dS
  have d1 := D.pos
  have d2 := D.lt
  have d3 := D.k1
  have d4 := D.k2
  simp only at d1 d2 d3 d4
  have hnd1 := Lib.nDigits_pos x
  have hnd2 := nDigits_lt (d := x) (n := 18) (by omega) (by omega)
  have k14 : ∀ W : World, Below w.heap.size w W → Calls Tryz.prog 14 #[.float .f64 V, .int .u8 101, .int .i64 (-1), .int .i64 bt] W fun e w' => e = .returned (.string ⟨(fmtTxt x k (Lib.nDigits x - 1)).toArray⟩) ∧ Below W.heap.size W w' := fun W h => H.kS W (EF.later h).env
  have k13 : ∀ W : World, Below w.heap.size w W → Calls Tryz.prog 13 #[.string ⟨(fmtTxt x k (Lib.nDigits x - 1)).toArray⟩] W fun e w' => e = .returned (.agg #[.int .u64 x, .int .i64 k]) ∧ Below W.heap.size W w' := fun W h => read_dok x k _ W (EF.later h).env D (by omega) (by omega)
  have k20 : ∀ W : World, Below w.heap.size w W → Calls Tryz.prog 20 #[.float .f64 V, .int .i64 bt, .agg #[.int .u64 x, .int .i64 k]] W fun e w' => e = .returned (.bool (atEndN M q nar x k)) ∧ Below W.heap.size W w' := fun W h => atEnd_walk V bt M q nar x k W (EF.later h).env H.parts H.m0 H.m1 H.q1 H.q2 d1 (by omega) (by omega) (by omega)
  have k21 : ∀ W : World, Below w.heap.size w W → Calls Tryz.prog 21 #[.float .f64 V, .int .i64 bt, .agg #[.int .u64 x, .int .i64 k]] W fun e w' => e = .returned (.bool (tiedN M q x k)) ∧ Below W.heap.size W w' := fun W h => tied_walk V bt M q nar x k W (EF.later h).env H.parts H.m0 H.m1 H.q1 H.q2 d1 d2 (by omega) (by omega)
  have k22 : ∀ W : World, Below w.heap.size w W → Calls Tryz.prog 22 #[.agg #[.int .u64 x, .int .i64 k]] W fun e w' => e = .returned (.int .i64 (Lib.nDigits x)) ∧ Below W.heap.size W w' := fun W h => count_walk x k W (EF.later h).env d1 d2
  generalize (⟨(fmtTxt x k (Lib.nDigits x - 1)).toArray⟩ : ByteArray) = s0 at *
  obtain ⟨nd, hnd⟩ : ∃ nd, Lib.nDigits x = nd := ⟨_, rfl⟩
  rw [hnd] at hsh hnd1 hnd2 k22
  generalize atEndN M q nar x k = ae at *
  generalize tiedN M q x k = ti at *
  have K14 : Hid _ := k14
  have K13 : Hid _ := k13
  have K20 : Hid _ := k20
  have K21 : Hid _ := k21
  have K22 : Hid _ := k22
  have HF : Hid (∀ (b y : Nat) (j : Int) (W W' : World), Below w.heap.size w W → DecIn W b y j → Below W.heap.size W W' → Below w.heap.size w W' ∧ DecIn W' b y j) := fun b y j W W' a b c => ⟨a.trans (c.mono a.size), b.below c (block_lt b.c0)⟩
  have HF1 : Hid (∀ (W W' : World), Below w.heap.size w W → Below W.heap.size W W' → Below w.heap.size w W') := fun W W' a c => a.trans (c.mono a.size)
  have HB0 : Hid (Below w.heap.size w (w.alloc (.cells #[.int .u64 0, .int .i64 0] 31))) := (Below.refl _ _).alloc (Nat.le_refl _) _
  have HD0 : Hid (DecIn (w.alloc (.cells #[.int .u64 0, .int .i64 0] 31)) w.heap.size 0 0) := heap_new' w _
  have HSH : Hid (R = if !ae && !ti then (x, k) else loopN V M q nar fix num (18 - nd) nd) := hsh
  clear k14 k13 k20 k21 k22 EF H D hsh hnd hfin
  obtain ⟨ra, rb⟩ := R
  go_enter Tryz.func10, Tryz.ntmps10
  go_upto_region 2 with (first
    | (go_at_call 14; refine (K14.out _ HB0.out).mono ?_; rintro e w2 ⟨rfl, hB⟩; have B2 : Hid (Below w.heap.size w w2 ∧ DecIn w2 w.heap.size 0 0) := HF.out _ _ _ _ _ HB0.out HD0.out hB; clear hB)
    | (go_at_call 13; refine (K13.out _ B2.out.1).mono ?_; rintro e w3 ⟨rfl, hB⟩; have B3 : Hid (Below w.heap.size w w3 ∧ DecIn w3 w.heap.size 0 0) := HF.out _ _ _ _ _ B2.out.1 B2.out.2 hB; clear hB))
  have B4 : Hid (Below w.heap.size w (w3.alloc (.cells #[.int .u64 x, .int .i64 k] 31)) ∧ DecIn (w3.alloc (.cells #[.int .u64 x, .int .i64 k] 31)) w.heap.size 0 0) := HF.out _ _ _ _ _ B3.out.1 B3.out.2 ((Below.refl _ _).alloc (Nat.le_refl _) _)
  have D4 : Hid (DecIn (w3.alloc (.cells #[.int .u64 x, .int .i64 k] 31)) w3.heap.size x k) := heap_new' w3 _
  have hne : w.heap.size < w3.heap.size := block_lt B3.out.2.c0
  go_cut [24] (fun c wx => c = .bool (!ae && !ti) ∧ Below w.heap.size w wx ∧ DecIn wx w.heap.size 0 0 ∧ DecIn wx w3.heap.size x k)
  case first =>
    cases ae with
    | true =>
      go_wp2_with (go_at_call 20; refine (K20.out _ B4.out.1).mono ?_; rintro e w5 ⟨rfl, hB⟩; have B5 : Hid (Below w.heap.size w w5 ∧ DecIn w5 w.heap.size 0 0) := HF.out _ _ _ _ _ B4.out.1 B4.out.2 hB; have D5 : Hid (DecIn w5 w3.heap.size x k) := (HF.out _ _ _ _ _ B4.out.1 D4.out hB).2; have g0 := D5.out.c0; have g1 := D5.out.c1; clear hB)
      go_meet
      exact ⟨rfl, B5.out.1, B5.out.2, D5.out⟩
    | false =>
      go_wp2_with (first
        | (go_at_call 21; refine (K21.out _ B5.out.1).mono ?_; rintro e w6 ⟨rfl, hB⟩; have B6 : Hid (Below w.heap.size w w6 ∧ DecIn w6 w.heap.size 0 0) := HF.out _ _ _ _ _ B5.out.1 B5.out.2 hB; have D6 : Hid (DecIn w6 w3.heap.size x k) := (HF.out _ _ _ _ _ B5.out.1 D5.out hB).2; have h0 := D6.out.c0; have h1 := D6.out.c1; clear hB)
        | (go_at_call 20; refine (K20.out _ B4.out.1).mono ?_; rintro e w5 ⟨rfl, hB⟩; have B5 : Hid (Below w.heap.size w w5 ∧ DecIn w5 w.heap.size 0 0) := HF.out _ _ _ _ _ B4.out.1 B4.out.2 hB; have D5 : Hid (DecIn w5 w3.heap.size x k) := (HF.out _ _ _ _ _ B4.out.1 D4.out hB).2; have g0 := D5.out.c0; have g1 := D5.out.c1; clear hB))
      go_meet
      exact ⟨by cases ti <;> rfl, B6.out.1, B6.out.2, D6.out⟩
  case rest =>
  obtain ⟨rfl, hb7, hz7, hd7⟩ := hcut
  have B7 : Hid (Below w.heap.size w wc ∧ DecIn wc w.heap.size 0 0) := ⟨hb7, hz7⟩
  have D7 : Hid (DecIn wc w3.heap.size x k) := hd7
  have c70 := hd7.c0
  have c71 := hd7.c1
  clear hb7 hz7 hd7
  cases hc : (!ae && !ti) with
  | true =>
    rw [hc] at HSH
    have hrr : (ra, rb) = (x, k) := HSH.out
    obtain ⟨rfl, rfl⟩ : ra = x ∧ rb = k := Prod.mk.inj hrr
    have p0 := B7.out.2.c0
    have p1 := B7.out.2.c1
    have p2 := B7.out.2.f0
    have p3 := B7.out.2.f1
    clear hrr
    go_wp2_with fail
    have r0 := B7.out.2.ret0 (.int .u64 ra)
    have r1 := B7.out.2.ret1 (.int .u64 ra) (.int .i64 rb)
    refine bodyPost_ret (v := .agg #[.int .u64 ra, .int .i64 rb]) (by simp [results, Tryz.results10, go_sem, Tryz.isAgg31, Tryz.sizeOf31, r0, r1, Result.andThen]) rfl ?_
    exact ⟨rfl, (B7.out.1.setCell (by simp) _).setCell (by simp) _⟩
  | false =>
    rw [hc] at HSH
    have HSH2 : Hid ((ra, rb) = loopN V M q nar fix num (18 - nd) nd) := HSH.out
    clear HSH
    go_upto_region 5 with (go_at_call 22; refine (K22.out _ B7.out.1).mono ?_; rintro e w8 ⟨rfl, hB⟩; have B8 : Hid (Below w.heap.size w w8 ∧ DecIn w8 w.heap.size 0 0) := HF.out _ _ _ _ _ B7.out.1 B7.out.2 hB; clear hB)
    go_loopw [6] (fun v wr => ∃ n : Nat, nd ≤ n ∧ n ≤ 18 ∧ v = .int .i64 n ∧ (ra, rb) = loopN V M q nar fix num (18 - n) n ∧ Below w.heap.size w wr ∧ DecIn wr w.heap.size 0 0) (fun v _ => 19 - (intOf v).toNat)
    case atStart => exact ⟨nd, Nat.le_refl _, hnd2, rfl, HSH2.out, B8.out.1, B8.out.2⟩
    case round =>
      obtain ⟨n, hn1, hn2, rfl, hL, hB, hD⟩ := hrel
      have B9 : Hid (Below w.heap.size w wr ∧ DecIn wr w.heap.size 0 0) := ⟨hB, hD⟩
      obtain ⟨dF, hnF⟩ := HH.out.dF n (by omega) hn2
      have hup := up_ok dF hnF hn2
      have hdp := dF.dp
      have hLn := HL.out n hn2
      rw [← hL] at hLn
      have h18 : n = 18 → insN V M q nar num (fix n) = true := fun h => by rw [h]; exact HH.out.fin
      have j14 : ∀ W : World, Below w.heap.size w W → Calls Tryz.prog 14 #[.float .f64 V, .int .u8 101, .int .i64 ((n : Int) - 1), .int .i64 bt] W fun e w' => e = .returned (.string ⟨(fmtTxt (fix n).1 (fix n).2 (n - 1)).toArray⟩) ∧ Below W.heap.size W w' := fun W h => HH.out.kF n W (by omega) hn2 (HE.out W h).env
      have j13 : ∀ W : World, Below w.heap.size w W → Calls Tryz.prog 13 #[.string ⟨(fmtTxt (fix n).1 (fix n).2 (n - 1)).toArray⟩] W fun e w' => e = .returned (.agg #[.int .u64 (fix n).1, .int .i64 (fix n).2]) ∧ Below W.heap.size W w' := fun W h => read_dok _ _ _ W (HE.out W h).env dF (by omega) (by omega)
      have j23 : ∀ (d : Nat × Int) (W : World), DP d.1 d.2 → Below w.heap.size w W → Calls Tryz.prog 23 #[.float .f64 V, .int .i64 bt, .agg #[.int .u64 d.1, .int .i64 d.2]] W fun e w' => e = .returned (.bool (insN V M q nar num d)) ∧ Below W.heap.size W w' := fun d W hd h => inside_walk V bt M q nar d.1 d.2 (num d.1 d.2) W (HE.out W h) HH.out.parts HH.out.m0 HH.out.m1 HH.out.q1 HH.out.q2 hd (fun W' h' => HH.out.kN d.1 d.2 W' hd h')
      have j24 : ∀ W : World, Below w.heap.size w W → Calls Tryz.prog 24 #[.agg #[.int .u64 (fix n).1, .int .i64 (fix n).2], .int .i64 n] W fun e w' => e = .returned (.agg #[.int .u64 ((upF fix n).1 : Nat), .int .i64 (upF fix n).2]) ∧ Below W.heap.size W w' := fun W h => up_walk (fix n).1 (fix n).2 n W (HE.out W h).env hdp.pos hdp.lt hnF hn2 (by have := dF.k1; omega) (by have := dF.k2; omega)
      have j23f := fun W => j23 (fix n) W hdp
      have j23u := fun W => j23 (upF fix n) W hup
      have hLn2 : loopN V M q nar fix num (18 - (n + 1)) (n + 1) = loopN V M q nar fix num (18 - (n + 1)) (n + 1) := rfl
      generalize (⟨(fmtTxt (fix n).1 (fix n).2 (n - 1)).toArray⟩ : ByteArray) = sn at *
      generalize insN V M q nar num (fix n) = i1 at *
      generalize insN V M q nar num (upF fix n) = i2 at *
      generalize fix n = fd at *
      generalize upF fix n = ud at *
      obtain ⟨fx, fk⟩ := fd
      obtain ⟨ux, uk⟩ := ud
      have J14 : Hid _ := j14
      have J13 : Hid _ := j13
      have J23F : Hid _ := j23f
      have J23U : Hid _ := j23u
      have J24 : Hid _ := j24
      have HLN : Hid ((ra, rb) = if i1 then (fx, fk) else if i2 then (ux, uk) else loopN V M q nar fix num (18 - (n + 1)) (n + 1)) := hLn
      have H18 : Hid (n = 18 → i1 = true) := h18
      clear j14 j13 j23 j23f j23u j24 hL hB hD dF hnF hup hdp hLn h18 hLn2
      go_upto_region 7 with (first
        | (go_at_call 14; refine (J14.out _ B9.out.1).mono ?_; rintro e w10 ⟨rfl, hB⟩; have B10 : Hid (Below w.heap.size w w10 ∧ DecIn w10 w.heap.size 0 0) := HF.out _ _ _ _ _ B9.out.1 B9.out.2 hB; clear hB)
        | (go_at_call 13; refine (J13.out _ B10.out.1).mono ?_; rintro e w11 ⟨rfl, hB⟩; have B11 : Hid (Below w.heap.size w w11 ∧ DecIn w11 w.heap.size 0 0) := HF.out _ _ _ _ _ B10.out.1 B10.out.2 hB; clear hB))
      have B12 : Hid (Below w.heap.size w (w11.alloc (.cells #[.int .u64 fx, .int .i64 fk] 31)) ∧ DecIn (w11.alloc (.cells #[.int .u64 fx, .int .i64 fk] 31)) w.heap.size 0 0) := HF.out _ _ _ _ _ B11.out.1 B11.out.2 ((Below.refl _ _).alloc (Nat.le_refl _) _)
      have D12 : Hid (DecIn (w11.alloc (.cells #[.int .u64 fx, .int .i64 fk] 31)) w11.heap.size fx fk) := heap_new' w11 _
      have hne11 : w.heap.size < w11.heap.size := block_lt B11.out.2.c0
      cases i1 with
      | true =>
        have hrr : ra = fx ∧ rb = fk := Prod.mk.inj HLN.out
        go_upto_region 8 with (go_at_call 23; refine (J23F.out _ B12.out.1).mono ?_; rintro e w13 ⟨rfl, hB⟩; have B13 : Hid (Below w.heap.size w w13 ∧ DecIn w13 w.heap.size 0 0) := HF.out _ _ _ _ _ B12.out.1 B12.out.2 hB; have D13 : Hid (DecIn w13 w11.heap.size fx fk) := (HF.out _ _ _ _ _ B12.out.1 D12.out hB).2; have g0 := D13.out.c0; have g1 := D13.out.c1; clear hB)
        have p0 := B13.out.2.c0
        have p1 := B13.out.2.c1
        have p2 := B13.out.2.f0
        have p3 := B13.out.2.f1
        go_wp2_with fail
        have r0 := B13.out.2.ret0 (.int .u64 fx)
        have r1 := B13.out.2.ret1 (.int .u64 fx) (.int .i64 fk)
        refine bodyPost_ret (v := .agg #[.int .u64 fx, .int .i64 fk]) (by simp [results, Tryz.results10, go_sem, Tryz.isAgg31, Tryz.sizeOf31, r0, r1, Result.andThen]) rfl ?_
        rw [hrr.1, hrr.2]
        exact ⟨rfl, (B13.out.1.setCell (by simp) _).setCell (by simp) _⟩
      | false =>
        have hn18 : n ≠ 18 := fun h => by have := H18.out h; cases this
        go_upto_region 9 with (go_at_call 23; refine (J23F.out _ B12.out.1).mono ?_; rintro e w13 ⟨rfl, hB⟩; have B13 : Hid (Below w.heap.size w w13 ∧ DecIn w13 w.heap.size 0 0) := HF.out _ _ _ _ _ B12.out.1 B12.out.2 hB; have D13 : Hid (DecIn w13 w11.heap.size fx fk) := (HF.out _ _ _ _ _ B12.out.1 D12.out hB).2; have g0 := D13.out.c0; have g1 := D13.out.c1; clear hB)
        go_upto_region 10 with (go_at_call 24; refine (J24.out _ B13.out.1).mono ?_; rintro e w14 ⟨rfl, hB⟩; have B14 : Hid (Below w.heap.size w w14 ∧ DecIn w14 w.heap.size 0 0) := HF.out _ _ _ _ _ B13.out.1 B13.out.2 hB; clear hB)
        have B15 : Hid (Below w.heap.size w (w14.alloc (.cells #[.int .u64 ux, .int .i64 uk] 31)) ∧ DecIn (w14.alloc (.cells #[.int .u64 ux, .int .i64 uk] 31)) w.heap.size 0 0) := HF.out _ _ _ _ _ B14.out.1 B14.out.2 ((Below.refl _ _).alloc (Nat.le_refl _) _)
        have D15 : Hid (DecIn (w14.alloc (.cells #[.int .u64 ux, .int .i64 uk] 31)) w14.heap.size ux uk) := heap_new' w14 _
        have hne14 : w.heap.size < w14.heap.size := block_lt B14.out.2.c0
        cases i2 with
        | true =>
          have hrr : ra = ux ∧ rb = uk := Prod.mk.inj HLN.out
          go_upto_region 11 with (go_at_call 23; refine (J23U.out _ B15.out.1).mono ?_; rintro e w16 ⟨rfl, hB⟩; have B16 : Hid (Below w.heap.size w w16 ∧ DecIn w16 w.heap.size 0 0) := HF.out _ _ _ _ _ B15.out.1 B15.out.2 hB; have D16 : Hid (DecIn w16 w14.heap.size ux uk) := (HF.out _ _ _ _ _ B15.out.1 D15.out hB).2; have g3 := D16.out.c0; have g4 := D16.out.c1; clear hB)
          have p0 := B16.out.2.c0
          have p1 := B16.out.2.c1
          have p2 := B16.out.2.f0
          have p3 := B16.out.2.f1
          go_wp2_with fail
          have r0 := B16.out.2.ret0 (.int .u64 ux)
          have r1 := B16.out.2.ret1 (.int .u64 ux) (.int .i64 uk)
          refine bodyPost_ret (v := .agg #[.int .u64 ux, .int .i64 uk]) (by simp [results, Tryz.results10, go_sem, Tryz.isAgg31, Tryz.sizeOf31, r0, r1, Result.andThen]) rfl ?_
          rw [hrr.1, hrr.2]
          exact ⟨rfl, (B16.out.1.setCell (by simp) _).setCell (by simp) _⟩
        | false =>
          go_wp2_with (go_at_call 23; refine (J23U.out _ B15.out.1).mono ?_; rintro e w16 ⟨rfl, hB⟩; have B16 : Hid (Below w.heap.size w w16 ∧ DecIn w16 w.heap.size 0 0) := HF.out _ _ _ _ _ B15.out.1 B15.out.2 hB; clear hB)
          refine ⟨⟨n + 1, by omega, by omega, by go_num, HLN.out, B16.out.1, B16.out.2⟩, by simp [intOf]; omega⟩
end Go.Proofs.Qxb6606417aGreatDoor
