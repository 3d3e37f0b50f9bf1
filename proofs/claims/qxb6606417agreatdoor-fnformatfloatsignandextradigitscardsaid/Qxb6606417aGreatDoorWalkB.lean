import Derived.Test.Qxb6606417aGreatDoorWalkA
import Derived.Test.Qxb6606417aGreatDoorShelf
import Derived.Lib.TrailingZeros
namespace Go.Proofs.Qxb6606417aGreatDoor
open Go.RowKit Go.PlainAid
set_option linter.unusedVariables false
set_option maxRecDepth 100000

theorem log10_walk (x : Int) (w : World) (h1 : -100000 ≤ x) (h2 : x ≤ 100000) : Calls Tryz.prog 83 #[.int .i64 x] w fun e w' => e = .returned (.int .i64 (log10Pow2 x)) ∧ w' = w := by
  go_enter Tryz.func83, Tryz.ntmps83
  go_wp2
  go_ret
  exact ⟨rfl, rfl⟩
theorem log2_walk (x : Int) (w : World) (h1 : -100000 ≤ x) (h2 : x ≤ 100000) : Calls Tryz.prog 113 #[.int .i64 x] w fun e w' => e = .returned (.int .i64 (log2Pow10 x)) ∧ w' = w := by
  go_enter Tryz.func113, Tryz.ntmps113
  go_wp2
  go_ret
  exact ⟨rfl, rfl⟩
theorem skewed_walk (x : Int) (w : World) (h1 : -100000 ≤ x) (h2 : x ≤ 100000) : Calls Tryz.prog 111 #[.int .i64 x] w fun e w' => e = .returned (.int .i64 (skewed x)) ∧ w' = w := by
  go_enter Tryz.func111, Tryz.ntmps111
  go_wp2
  go_ret
  exact ⟨rfl, rfl⟩
theorem ceil_walk (u : Nat) (w : World) (h1 : u < 9223372036854775808) : Calls Tryz.prog 116 #[.int .u64 u] w fun e w' => e = .returned (.int .u64 (ceilN u : Nat)) ∧ w' = w := by
  go_enter Tryz.func116, Tryz.ntmps116
  go_wp2
  go_ret
  exact ⟨rfl, rfl⟩
theorem floor_walk (u : Nat) (w : World) (h1 : u < 9223372036854775808) : Calls Tryz.prog 117 #[.int .u64 u] w fun e w' => e = .returned (.int .u64 (floorN u : Nat)) ∧ w' = w := by
  go_enter Tryz.func117, Tryz.ntmps117
  go_wp2
  go_ret
  exact ⟨rfl, rfl⟩
theorem and_one_u64 (u : Nat) (h : u < 18446744073709551616) : bits BinOp.and IntKind.u64 (u : Int) 1 = ((u % 2 : Nat) : Int) := by
  have := u64_and_nat u 1 h (by omega)
  rw [Nat.and_one_is_mod] at this
  exact this
theorem round_walk (u : Nat) (w : World) (h1 : u < 9223372036854775808) : Calls Tryz.prog 118 #[.int .u64 u] w fun e w' => e = .returned (.int .u64 (roundN u : Nat)) ∧ w' = w := by
  obtain ⟨v, hv⟩ : ∃ v : Nat, v = u / 4 := ⟨_, rfl⟩
  have hv' : (u : Int) / 4 = (v : Int) := by omega
  have hb : bits BinOp.and IntKind.u64 ((u : Int) / 4) 1 = ((v % 2 : Nat) : Int) := by
    rw [hv']; exact and_one_u64 v (by omega)
  obtain ⟨r, hr⟩ : ∃ r : Nat, v % 2 = r := ⟨_, rfl⟩
  have hr1 : r ≤ 1 := by omega
  have hres : roundN u = (u + 1 + r) / 4 := by unfold roundN; rw [← hr, hv]
  rw [hres]
  rw [hr] at hb
  clear hr hv hv' hres
  go_enter Tryz.func118, Tryz.ntmps118
  go_wp2
  go_ret
  exact ⟨rfl, rfl⟩
theorem nudge_walk (u : Nat) (d : Int) (w : World) (h1 : u < 9223372036854775808) (h0 : 1 ≤ u) (hd1 : -1 ≤ d) (hd2 : d ≤ 1) : Calls Tryz.prog 115 #[.int .u64 u, .int .i64 d] w fun e w' => e = .returned (.int .u64 (u + d)) ∧ w' = w := by
  have hr : IntKind.u64.wrap ((u : Int) + IntKind.u64.wrap d) = u + d := by rw [IntKind.wrap_u64, IntKind.wrap_u64]; omega
  go_enter Tryz.func115, Tryz.ntmps115
  go_wp2
  go_ret
  exact ⟨rfl, rfl⟩
theorem unmin_walk (u : Nat) (w : World) (h0 : 1 ≤ u) (h1 : u ≤ 1000000000000000000) : Calls Tryz.prog 119 #[.int .u64 u] w fun e w' => e = .returned (.int .u64 (4 * u - 2 : Nat)) ∧ w' = w := by
  have hr : ((4 * u - 2 : Nat) : Int) = (u : Int) * 4 - 2 := by omega
  rw [hr]
  go_enter Tryz.func119, Tryz.ntmps119
  go_wp2
  go_ret
  exact ⟨rfl, rfl⟩
theorem bool2u_walk (b : Bool) (w : World) : Calls Tryz.prog 138 #[.bool b] w fun e w' => e = .returned (.int .u64 (if b then 1 else 0)) ∧ w' = w := by
  cases b
  all_goals
    go_enter Tryz.func138, Tryz.ntmps138
    go_wp2
    go_ret
    exact ⟨rfl, rfl⟩
theorem bool2r_walk (b : Bool) (w : World) : Calls Tryz.prog 139 #[.bool b] w fun e w' => e = .returned (.int .u64 (if b then 1 else 0)) ∧ w' = w := by
  cases b
  all_goals
    go_enter Tryz.func139, Tryz.ntmps139
    go_wp2
    go_ret
    exact ⟨rfl, rfl⟩
theorem or_bit_u64 (a b : Nat) (ha : a < 18446744073709551616) (hb : b < 18446744073709551616) : bits BinOp.or IntKind.u64 (a : Int) (b : Int) = ((a ||| b : Nat) : Int) := u64_or_nat a b ha hb
theorem div_walk (u : Nat) (w : World) (h1 : u < 9223372036854775808) : Calls Tryz.prog 120 #[.int .u64 u, .int .u64 10] w fun e w' => e = .returned (.int .u64 (divN u 10 : Nat)) ∧ ∃ m, w' = w.drewN m := by
  have e1 : bits BinOp.and IntKind.u64 (u : Int) 1 = ((u % 2 : Nat) : Int) := and_one_u64 u (by omega)
  obtain ⟨r, hr⟩ : ∃ r : Nat, u % 2 = r := ⟨_, rfl⟩
  obtain ⟨v, hv⟩ : ∃ v : Nat, u / 10 = v := ⟨_, rfl⟩
  have hr1 : r ≤ 1 := by omega
  have hvv : (u : Int) / 10 = (v : Int) := by omega
  have hvl : v < 9223372036854775808 := by omega
  rw [hr] at e1
  obtain ⟨o, ho⟩ : ∃ o : Nat, v ||| r = o := ⟨_, rfl⟩
  have hol : o ≤ v + 1 := by rw [← ho]; exact (or_bit v r hr1).2
  have e2 : bits BinOp.or IntKind.u64 (v : Int) (r : Int) = (o : Int) := by rw [← ho]; exact u64_or_nat v r (by omega) (by omega)
  have hres : divN u 10 = o ||| (if u % 10 ≠ 0 then 1 else 0) := by unfold divN; rw [hv, hr, ho]
  rw [hres]
  have htd : (u : Int).tdiv 10 = (v : Int) := by rw [Int.tdiv_eq_ediv_of_nonneg (by omega)]; exact hvv
  have htm : (u : Int).tmod 10 = (u : Int) % 10 := Int.tmod_eq_emod_of_nonneg (by omega)
  by_cases hz : u % 10 = 0
  · rw [if_neg (by omega)]
    have hz' : (u : Int) % 10 = 0 := by omega
    have e3 : bits BinOp.or IntKind.u64 (o : Int) 0 = ((o ||| 0 : Nat) : Int) := u64_or_nat o 0 (by omega) (by omega)
    clear hr hv ho hres
    go_enter Tryz.func120, Tryz.ntmps120
    go_wp2
    go_quiet ((go_at_call 139; exact Calls.quiet_of_same (bool2r_walk _ _)))
    go_wp2
    go_ret
    exact ⟨rfl, _, rfl⟩
  · rw [if_pos hz]
    have hz' : ((u : Int) % 10 != 0) = true := by simp; omega
    have e3 : bits BinOp.or IntKind.u64 (o : Int) 1 = ((o ||| 1 : Nat) : Int) := u64_or_nat o 1 (by omega) (by omega)
    clear hr hv ho hres
    go_enter Tryz.func120, Tryz.ntmps120
    go_wp2
    go_quiet ((go_at_call 139; exact Calls.quiet_of_same (bool2r_walk _ _)))
    go_wp2
    go_ret
    exact ⟨rfl, _, rfl⟩

/-- The tables that the road reads. -/
structure Env (w : World) : Prop where
  tab : ∀ i : Nat, i < 696 → w.cell? ⟨7, i * 2, none⟩ = some (.int .u64 ((rowAt i).1 : Nat)) ∧ w.cell? ⟨7, i * 2 + 1, none⟩ = some (.int .u64 ((rowAt i).2 : Nat))
  p10 : Lib.TabIs Tryz.prog w "internal/strconv.uint64pow10" .u64 Lib.pow10Tab
  u10 : ∀ n : Nat, n ≤ 19 → w.cell? ⟨2, n, none⟩ = some (.int .u64 ((10 ^ n : Nat) : Int))
  db : ∀ j : Nat, j < 64 → w.cell? ⟨3, j, none⟩ = some (.int .u8 ((Lib.deBruijn64tab.getD j 0 : Nat) : Int))
  opt : w.cell? ⟨1, 0, none⟩ = some (.bool true)
  mx : ∃ m, w.cell? ⟨4, 0, none⟩ = some (.int .i64 m)
  f64i : w.cell? ⟨13, 0, none⟩ = some (.int .u64 52)
  er : ∃ ev, w.cell? ⟨6, 0, none⟩ = some ev ∧ (ev = .nilIface ∨ ∃ te pe, ev = .iface te pe)
theorem Env.later {w w' : World} (E : Env w) (h : Below w.heap.size w w') : Env w' where
  tab := fun i hi => ⟨cell_later h (E.tab i hi).1, cell_later h (E.tab i hi).2⟩
  p10 := Lib.tabBelow_of_tabIs E.p10 w' h
  u10 := fun n hn => cell_later h (E.u10 n hn)
  db := fun n hn => cell_later h (E.db n hn)
  opt := cell_later h E.opt
  mx := by obtain ⟨m, hm⟩ := E.mx; exact ⟨m, cell_later h hm⟩
  f64i := cell_later h E.f64i
  er := by obtain ⟨m, hm, h2⟩ := E.er; exact ⟨m, cell_later h hm, h2⟩
theorem tz_of (m : Nat) : ∀ k, tz (2 ^ k * (2 * m + 1)) = k
  | 0 => by rw [tz, dif_neg (by omega)]
  | k + 1 => by
    have hp : 0 < 2 ^ k * (2 * m + 1) := Nat.mul_pos (Nat.pow_pos (by omega)) (by omega)
    have e : 2 ^ (k + 1) * (2 * m + 1) = 2 * (2 ^ k * (2 * m + 1)) := by rw [Nat.pow_succ, Nat.mul_comm (2 ^ k) 2, Nat.mul_assoc]
    rw [e, tz, dif_pos (by omega), show 2 * (2 ^ k * (2 * m + 1)) / 2 = 2 ^ k * (2 * m + 1) from by omega, tz_of m k]
theorem ctz_tz (x : Nat) (h0 : x ≠ 0) (h : x < 2 ^ 64) : Lib.ctz 64 x = tz x := by
  unfold Lib.ctz
  rw [if_neg h0]
  obtain ⟨m, hm, _⟩ := Lib.ctzFrom_spec 64 x (by omega) h
  generalize Lib.ctzFrom 64 x = k at hm
  rw [hm, tz_of]
theorem tz_core (x k idx : Nat) (w : World) (hx0 : ((x : Int) == 0) = false)
    (key : IntKind.u64.wrap (bits BinOp.and IntKind.u64 (x : Int) (IntKind.u64.wrap (-(x : Int))) * 285870213051353865) / 288230376151711744 = (idx : Int))
    (hi : idx < 64) (hk : k < 64) (hcell : w.cell? ⟨3, idx, none⟩ = some (.int .u8 k)) : Calls Tryz.prog 65 #[.int .u64 x] w fun e w' => e = .returned (.int .i64 k) ∧ w' = w := by
  go_enter Tryz.func65, Tryz.ntmps65
  go_wp2_with (simp only [key])
  go_ret
  exact ⟨rfl, rfl⟩
theorem tz_key (x a : Nat) (hx : x < 18446744073709551616) (hx0 : x ≠ 0) (hlow : x &&& (18446744073709551616 - x) = a) :
    IntKind.u64.wrap (bits BinOp.and IntKind.u64 (x : Int) (IntKind.u64.wrap (-(x : Int))) * 285870213051353865) / 288230376151711744 = ((a * 285870213051353865 % 18446744073709551616 / 288230376151711744 : Nat) : Int) := by
  have e1 : IntKind.u64.wrap (-(x : Int)) = ((18446744073709551616 - x : Nat) : Int) := by rw [IntKind.wrap_u64]; omega
  rw [e1, u64_and_nat x _ hx (by omega), hlow, IntKind.wrap_u64]
  omega
theorem tz_walk (x : Nat) (w : World) (E : Env w) (h0 : 0 < x) (h1 : x < 18446744073709551616) : Calls Tryz.prog 65 #[.int .u64 x] w fun e w' => e = .returned (.int .i64 (tz x : Nat)) ∧ w' = w := by
  have h64 : (2 : Nat) ^ 64 = 18446744073709551616 := by decide
  have h1' : x < 2 ^ 64 := by rw [h64]; exact h1
  obtain ⟨hl, hk⟩ := Lib.lowest_bit 64 x (by omega) h1'
  rw [ctz_tz x (by omega) h1'] at hl hk
  rw [h64] at hl
  obtain ⟨hi, ht⟩ := Lib.deBruijn64_at _ hk
  have hd := E.db _ hi
  rw [ht] at hd
  exact tz_core x _ _ w (by simp; omega) (tz_key x _ h1 (by omega) hl) hi hk hd
end Go.Proofs.Qxb6606417aGreatDoor
