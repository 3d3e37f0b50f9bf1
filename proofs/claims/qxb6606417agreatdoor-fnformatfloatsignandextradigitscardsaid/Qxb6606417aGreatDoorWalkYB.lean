import Derived.Test.Qxb6606417aGreatDoorNum15
import Derived.Test.Qxb6606417aGreatDoorWalkZ
import Derived.Test.Qxb6606417aGreatDoorWalkM
namespace Go.Proofs.Qxb6606417aGreatDoor
open Go.RowKit Go.PlainAid
set_option linter.unusedVariables false
set_option linter.unusedSimpArgs false
set_option maxRecDepth 100000

set_option maxHeartbeats 1000000 in
theorem parse41 (s : ByteArray) (bt : Int) (g ln : Nat) (b : Bool) (w : World) (E : Env w) (hsz : s.size = ln) (hln : ln ≤ 1000) (k101 : ∀ W : World, Below w.heap.size w W → Calls Tryz.prog 101 #[.string s, .int .i64 bt] W fun e w' => e = .returned (.tuple #[.float .f64 g, .int .i64 ln, errV b]) ∧ Below W.heap.size W w') :
    Calls Tryz.prog 41 #[.string s, .int .i64 bt] w fun e w' => (∃ ev, e = .returned (.tuple #[.float .f64 g, ev])) ∧ Below w.heap.size w w' := by
  have K101 : Hid _ := k101
  have k67 : Calls Tryz.prog 67 #[.string s, .int .i64 bt] w fun e w' => e = .returned (.tuple #[.float .f64 g, errV b]) ∧ Below w.heap.size w w' := by
    obtain ⟨er, her⟩ : ∃ er, errV b = er := ⟨_, rfl⟩
    rw [her] at K101 ⊢
    clear k101 her E
    go_enter Tryz.func67, Tryz.ntmps67
    go_wp2_with (go_at_call 101; refine (K101.out _ (Below.refl _ _)).mono ?_; rintro e w2 ⟨rfl, hB⟩; have B2 : Hid (Below w.heap.size w w2) := hB; clear hB)
    go_ret2
    exact ⟨rfl, B2.out⟩
  have K67 := Lib.hid k67
  cases b with
  | false =>
    rw [show errV false = .nilIface from rfl] at K67
    clear k101 k67 K101 E
    go_enter Tryz.func41, Tryz.ntmps41
    go_wp2_with (go_at_call 67; refine K67.out.mono ?_; rintro e w2 ⟨rfl, hB⟩; have B2 : Hid (Below w.heap.size w w2) := hB; clear hB)
    go_ret2
    exact ⟨⟨_, rfl⟩, B2.out⟩
  | true =>
    have k45 : ∀ (W : World) (fn : ByteArray) (base bits : Int), Below w.heap.size w W → Calls Tryz.prog 45 #[.string fn, .string s, .int .i64 base, .int .i64 bits, .iface 94 (.int .i64 1)] W fun e w' => ∃ N, e = .returned (.iface 97 (.pointer (some ⟨N, 0, none⟩))) ∧ Below W.heap.size W w' := fun W fn base bits h => by
      obtain ⟨ev, h1, h2⟩ := (E.later h).er
      refine (Tryz.strconv_toError_range fn s base bits ev W (by omega) h1 h2).mono ?_
      rintro e w' ⟨N, rfl, _, _, hb⟩
      exact ⟨N, rfl, hb⟩
    have K45 : Hid _ := k45
    rw [show errV true = .iface 94 (.int .i64 1) from rfl] at K67
    clear k101 k67 k45 K101 E
    go_enter Tryz.func41, Tryz.ntmps41
    go_wp2_with (first
      | (go_at_call 67; refine K67.out.mono ?_; rintro e w2 ⟨rfl, hB⟩; have B2 : Hid (Below w.heap.size w w2) := hB; clear hB)
      | (go_at_call 45; refine (K45.out _ _ _ _ B2.out).mono ?_; rintro e w3 ⟨N, rfl, hB⟩; have B3 : Hid (Below w.heap.size w w3) := B2.out.trans (hB.mono B2.out.size); clear hB))
    go_ret2
    exact ⟨⟨_, rfl⟩, B3.out⟩
theorem dstr_short (x : Nat) (k : Int) (D : DP x k) : (dstr x k).length ≤ 1000 := by
  have h1 := Lib.decDigits_length x
  have hn := nDigits_lt (d := x) (n := 18) (by have := D.lt; omega) (by omega)
  have := D.k1
  have := D.k2
  have := Lib.decDigits_length k.natAbs
  have := Lib.decDigits_length k.toNat
  have h18 := nDigits_lt (d := k.natAbs) (n := 18) (by omega) (by omega)
  have h19 := nDigits_lt (d := k.toNat) (n := 18) (by omega) (by omega)
  unfold dstr Lib.itoa
  split <;> simp <;> omega
theorem num64_walk (x : Nat) (k : Int) (w : World) (D : DP x k) (EF : EnvF w) :
    Calls Tryz.prog 41 #[.string ⟨(dstr x k).toArray⟩, .int .i64 64] w fun e w' => (∃ ev, e = .returned (.tuple #[.float .f64 (numD x k).1, ev])) ∧ Below w.heap.size w w' := by
  refine parse41 _ 64 _ _ (numD x k).2 w EF.env (dstr_len x k) (dstr_short x k D) fun W h => ?_
  have k133 := atof64_walk x k W D (EF.later h)
  generalize numD x k = res at *
  generalize (dstr x k).length = ln at *
  generalize errV res.2 = er at *
  have K133 := Lib.hid k133
  clear k133 EF h
  go_enter Tryz.func101, Tryz.ntmps101
  go_wp2_with (go_at_call 133; refine K133.out.mono ?_; rintro e w2 ⟨rfl, hB⟩; have B2 : Hid (Below W.heap.size W w2) := hB; clear hB)
  go_ret3
  exact ⟨rfl, B2.out⟩
theorem num32_walk (x : Nat) (k : Int) (w : World) (D : DP x k) (EF : EnvF w) :
    Calls Tryz.prog 41 #[.string ⟨(dstr x k).toArray⟩, .int .i64 32] w fun e w' => (∃ ev, e = .returned (.tuple #[.float .f64 (widW (numS x k).1), ev])) ∧ Below w.heap.size w w' := by
  refine parse41 _ 32 _ _ (numS x k).2 w EF.env (dstr_len x k) (dstr_short x k D) fun W h => ?_
  have k132 := atof32_walk x k W D (EF.later h)
  have hle := numS_le x k D
  generalize numS x k = res at *
  have hcv : ∀ W : World, (convert 23 22 (.float .f32 res.1)).run Tryz.prog W = .ok (.float .f64 (widW res.1)) W := fun W => run_convert_float_float W 23 22 .f32 .f64 res.1 _ (by decide +kernel) Tryz.underlying22 (wid_ok _ hle)
  generalize (dstr x k).length = ln at *
  generalize errV res.2 = er at *
  generalize widW res.1 = wd at *
  have K132 := Lib.hid k132
  clear k132 EF h
  go_enter Tryz.func101, Tryz.ntmps101
  go_wp2_with (go_at_call 132; refine K132.out.mono ?_; rintro e w2 ⟨rfl, hB⟩; have B2 : Hid (Below W.heap.size W w2) := hB; clear hB)
  go_ret3
  exact ⟨rfl, B2.out⟩

/-- Does the decimal lie strictly inside? -/
def eqW (g V : Nat) : Bool := Ieee.double.order g V == some Ordering.eq
set_option maxHeartbeats 1000000 in
theorem inside_walk (V : Nat) (bt : Int) (M : Nat) (q : Int) (nar : Bool) (x : Nat) (k : Int) (g : Nat) (w : World) (EF : EnvF w) (hP : PartsAre V bt M q nar) (hM : 0 < M) (hM2 : M < 9007199254740992) (hq1 : -2000 ≤ q) (hq2 : q ≤ 2000) (D : DP x k)
    (hN : ∀ W : World, EnvF W → Calls Tryz.prog 41 #[.string ⟨(dstr x k).toArray⟩, .int .i64 bt] W fun e w' => (∃ ev, e = .returned (.tuple #[.float .f64 g, ev])) ∧ Below W.heap.size W w') :
    Calls Tryz.prog 23 #[.float .f64 V, .int .i64 bt, .agg #[.int .u64 x, .int .i64 k]] w fun e w' => e = .returned (.bool (eqW g V && !atEndN M q nar x k)) ∧ Below w.heap.size w w' := by
  have hd1 := D.pos
  have hd2 := D.lt
  have hk1 := D.k1
  have hk2 := D.k2
  have k42 : ∀ W : World, Below w.heap.size w W → Calls Tryz.prog 42 #[.agg #[.int .u64 x, .int .i64 k]] W fun e w' => e = .returned (.string ⟨(dstr x k).toArray⟩) ∧ Below W.heap.size W w' := fun W h => str_walk x k W (EF.later h).env hd1 hd2 (by omega) (by omega)
  have k41 : ∀ W : World, Below w.heap.size w W → Calls Tryz.prog 41 #[.string ⟨(dstr x k).toArray⟩, .int .i64 bt] W fun e w' => (∃ ev, e = .returned (.tuple #[.float .f64 g, ev])) ∧ Below W.heap.size W w' := fun W h => hN W (EF.later h)
  have k20 : ∀ W : World, Below w.heap.size w W → Calls Tryz.prog 20 #[.float .f64 V, .int .i64 bt, .agg #[.int .u64 x, .int .i64 k]] W fun e w' => e = .returned (.bool (atEndN M q nar x k)) ∧ Below W.heap.size W w' := fun W h => atEnd_walk V bt M q nar x k W (EF.later h).env hP hM hM2 hq1 hq2 hd1 (by omega) (by omega) (by omega)
  generalize (⟨(dstr x k).toArray⟩ : ByteArray) = s at *
  generalize atEndN M q nar x k = ae at *
  have K42 : Hid _ := k42
  have K41 : Hid _ := k41
  have K20 : Hid _ := k20
  have HB1 : Hid (Below w.heap.size w (w.alloc (.cells #[.int .u64 x, .int .i64 k] 31))) := (Below.refl _ _).alloc (Nat.le_refl _) _
  have HD1 : Hid (DecIn (w.alloc (.cells #[.int .u64 x, .int .i64 k] 31)) w.heap.size x k) := heap_new' w _
  have HF : Hid (∀ W W' : World, Below w.heap.size w W → DecIn W w.heap.size x k → Below W.heap.size W W' → Below w.heap.size w W' ∧ DecIn W' w.heap.size x k) := fun W W' a b c => ⟨a.trans (c.mono a.size), b.below c (block_lt b.c0)⟩
  clear k42 k41 k20 hN hP EF D
  cases he : eqW g V with
  | false =>
    have he1 : (Ieee.double.order g V == some Ordering.eq) = false := he
    have he2 : (FloatKind.f64.format.order g V == some Ordering.eq) = false := he
    rw [Bool.false_and]
    clear he
    go_enter Tryz.func23, Tryz.ntmps23
    go_wp2_with (first
      | (go_at_call 42; refine (K42.out _ HB1.out).mono ?_; rintro e w2 ⟨rfl, hB⟩; have B2 : Hid (Below w.heap.size w w2 ∧ DecIn w2 w.heap.size x k) := HF.out _ _ HB1.out HD1.out hB; clear hB)
      | (go_at_call 41; refine (K41.out _ B2.out.1).mono ?_; rintro e w3 ⟨⟨ev, rfl⟩, hB⟩; have B3 : Hid (Below w.heap.size w w3 ∧ DecIn w3 w.heap.size x k) := HF.out _ _ B2.out.1 B2.out.2 hB; clear hB))
    go_ret
    exact ⟨rfl, B3.out.1⟩
  | true =>
    have he1 : (Ieee.double.order g V == some Ordering.eq) = true := he
    have he2 : (FloatKind.f64.format.order g V == some Ordering.eq) = true := he
    rw [Bool.true_and]
    clear he
    go_enter Tryz.func23, Tryz.ntmps23
    go_wp2_with (first
      | (go_at_call 42; refine (K42.out _ HB1.out).mono ?_; rintro e w2 ⟨rfl, hB⟩; have B2 : Hid (Below w.heap.size w w2 ∧ DecIn w2 w.heap.size x k) := HF.out _ _ HB1.out HD1.out hB; clear hB)
      | (go_at_call 41; refine (K41.out _ B2.out.1).mono ?_; rintro e w3 ⟨⟨ev, rfl⟩, hB⟩; have B3 : Hid (Below w.heap.size w w3 ∧ DecIn w3 w.heap.size x k) := HF.out _ _ B2.out.1 B2.out.2 hB; have g0 := B3.out.2.c0; have g1 := B3.out.2.c1; clear hB)
      | (go_at_call 20; refine (K20.out _ B3.out.1).mono ?_; rintro e w4 ⟨rfl, hB⟩; have B4 : Hid (Below w.heap.size w w4) := B3.out.1.trans (hB.mono B3.out.1.size); clear hB))
    go_ret
    exact ⟨rfl, B4.out⟩
end Go.Proofs.Qxb6606417aGreatDoor
