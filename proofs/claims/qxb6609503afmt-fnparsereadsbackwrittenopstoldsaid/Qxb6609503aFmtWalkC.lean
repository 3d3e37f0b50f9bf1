import Derived.Test.Qxb6609503aFmtWalkA
import Derived.OwnWalk
import Derived.Carry
namespace Go.Proofs.Qxb6609503aFmt
open Go.RowKit Go.PlainAid
set_option linter.unusedVariables false

def byteV (b : UInt8) : Value := .int .u8 b.toNat
def bytesV (l : List UInt8) : List Value := l.map byteV
theorem bytesV_len (l : List UInt8) : (bytesV l).length = l.length := by simp [bytesV]
theorem bytesV_app (a b : List UInt8) : bytesV (a ++ b) = bytesV a ++ bytesV b := by simp [bytesV]
theorem bytesV_one (l : List UInt8) : ∀ u ∈ bytesV l, u.oneCell' = true := by
  intro u hu
  simp only [bytesV, List.mem_map] at hu
  obtain ⟨x, _, rfl⟩ := hu
  rfl
theorem info5 : (Tryf.prog.info? 5).map (fun i => (i.zero, i.size, i.bytes)) = some (some (.int .u8 0), 1, 1) := by kernel_rfl

theorem dec_step {m : Nat} (h : ¬ m < 10) : Pl.dec m = Pl.dec (m / 10) ++ [UInt8.ofNat (48 + m % 10)] := by
  rw [Pl.dec, dif_neg h]
theorem dec_base {m : Nat} (h : m < 10) : Pl.dec m = [UInt8.ofNat (48 + m)] := by
  rw [Pl.dec, dif_pos h]
theorem digit_byte (m : Nat) : byteV (UInt8.ofNat (48 + m % 10)) = .int .u8 (48 + (m : Int) % 10) := by
  unfold byteV
  have : (UInt8.ofNat (48 + m % 10)).toNat = 48 + m % 10 := by
    simp; omega
  rw [this]; rfl

theorem len62 : Tryf.prog.arrayLen 62 = 20 := by kernel_rfl
theorem size62 (w : World) : (sizeOf (Tryf.prog.elem 62)).run Tryf.prog w = .ok 1 w := by kernel_rfl
set_option maxRecDepth 100000 in
theorem slice_buf (b k : Nat) (hk : k < 20) (w : World) : (Instr.sliceAt 62 (.pointer (some ⟨b, 0, none⟩)) (some (.int .i64 (k : Int))) none none).run Tryf.prog w = .ok (.slice (some ⟨b, k, none⟩) (20 - k) (20 - k)) w := by
  have hk' : (k : Int) ≤ (Tryf.prog.arrayLen 62 : Int) := by rw [len62]; omega
  rw [run_sliceAt_array_l (P := Tryf.prog) w 62 ⟨b, 0, none⟩ Tryf.underlying62 .i64 (k : Int) (by omega) hk', size62]
  simp only [Result.andThen, slicedAt, len62, Int.toNat_natCast]
  rw [if_neg (by omega)]
  simp [Addr.add]
  exact fun h => h.symm

/-- The digits that lie in the buffer from place p on. -/
def DecAt (nn p m : Nat) (A : Array Value) : Prop := A.size = 20 ∧ ∃ L, Pl.dec nn = Pl.dec m ++ L ∧ A.toList.drop p = bytesV L
theorem decAt_store {nn p m : Nat} {A : Array Value} (h : DecAt nn p m A) (hp : 1 ≤ p) (hp2 : p ≤ 20) : (A.setIfInBounds (p - 1) (.int .u8 (48 + (m : Int) % 10))).size = 20 ∧ ∃ L, Pl.dec nn = Pl.dec m ++ L ∧ (A.setIfInBounds (p - 1) (.int .u8 (48 + (m : Int) % 10))).toList.drop (p - 1) = bytesV (UInt8.ofNat (48 + m % 10) :: L) := by
  obtain ⟨hA, L, h1, h2⟩ := h
  refine ⟨by simpa using hA, L, h1, ?_⟩
  have hl : A.toList.length = 20 := by simpa using hA
  rw [Array.toList_setIfInBounds, List.drop_set, if_neg (by omega), Nat.sub_self]
  rw [List.drop_eq_getElem_cons (by omega), show p - 1 + 1 = p by omega, h2]
  rw [List.set_cons_zero]
  simp only [bytesV, List.map_cons, digit_byte]

def AppPost (base n : Nat) (xs : List UInt8) (v : Value) (ys : List UInt8) (w : World) (e : Ending) (w' : World) : Prop :=
  ∃ v', e = .returned v' ∧ w'.ownsRow base 5 1 v' (n + ys.length) (bytesV (xs ++ ys)) ∧ w.grownBy w' v.ownBlock

set_option maxHeartbeats 2000000 in
set_option maxRecDepth 100000 in
theorem appendDec_any (base n nn : Nat) (v : Value) (xs : List UInt8) (w : World) (hown : w.ownsRow base 5 1 v n (bytesV xs)) (hbase : base ≤ w.heap.size) (h0 : 0 < nn) (h64 : nn < 18446744073709551616) (hn : n ≤ 10000000) :
    Calls Tryf.prog 11 #[v, .int .u64 nn] w fun e w' => AppPost base n xs v (Pl.dec nn) w e w' := by
  obtain ⟨i0, hi, hz0, hz1, hz2⟩ := info_parts info5
  have HO : Hid (w.ownsRow base 5 1 v n (bytesV xs)) := hown
  clear hown
  go_enter Tryf.func11, Tryf.ntmps11
  go_wp2_with fail
  go_loopw [1, 6] (fun x i wr => ∃ (m p : Nat) (A : Array Value), x = .int .u64 m ∧ i = .int .i64 p ∧ 0 < m ∧ m ≤ nn ∧ m < 10 ^ p ∧ p ≤ 20 ∧ wr = w.alloc (.cells A 62) ∧ DecAt nn p m A) (fun x _ _ => (intOf x).toNat)
  case atStart =>
    refine ⟨nn, 20, _, rfl, rfl, h0, Nat.le_refl _, by omega, Nat.le_refl _, rfl, rfl, [], by simp, by simp [bytesV]⟩
  case round =>
    obtain ⟨m, p, A, rfl, rfl, hm0, hmn, hm, hp, rfl, hA⟩ := hrel
    obtain ⟨q, rfl⟩ : ∃ q, p = q + 1 := by
      cases p with
      | zero => exfalso; simp at hm; omega
      | succ q => exact ⟨q, rfl⟩
    have hst := decAt_store hA (by omega) hp
    have hq : (((q + 1 : Nat)) : Int) - 1 = (q : Int) := by omega
    rw [Nat.add_sub_cancel] at hst
    have HM : Hid (m < 10 ^ (q + 1)) := hm
    have HST : Hid ((A.setIfInBounds q (.int .u8 (48 + (m : Int) % 10))).size = 20 ∧ ∃ L, Pl.dec nn = Pl.dec m ++ L ∧ (A.setIfInBounds q (.int .u8 (48 + (m : Int) % 10))).toList.drop q = bytesV (UInt8.ofNat (48 + m % 10) :: L)) := hst
    have hx : ∃ u, (w.alloc (.cells A 62)).cell? ⟨w.heap.size, q, none⟩ = some u := by
      rw [World.cell?_alloc_at _ _ _ _ rfl]
      exact ⟨_, Array.getElem?_eq_getElem (by rw [hA.1]; omega)⟩
    obtain ⟨u, hu⟩ := hx
    clear hst hm hA
    by_cases h10 : m < 10
    · have hd : (m : Int) / 10 = 0 := by omega
      have hsl := slice_buf w.heap.size q (by omega)
      obtain ⟨A2, hA2⟩ : ∃ A2, A.setIfInBounds q (.int .u8 (48 + (m : Int) % 10)) = A2 := ⟨_, rfl⟩
      rw [hA2] at HST
      have hnew : ∀ (j : Nat) (x : Value), (bytesV (Pl.dec nn))[j]? = some x → (w.alloc (.cells A2 62)).cell? (Addr.add ⟨w.heap.size, q, none⟩ j) = some x := by
        obtain ⟨h1, L, h2, h3⟩ := HST.out
        intro j x hj
        rw [dec_base h10, List.singleton_append] at h2
        have e : m % 10 = m := Nat.mod_eq_of_lt h10
        rw [e, ← h2] at h3
        rw [Addr.add_lit, World.cell?_alloc_at _ _ _ _ rfl]
        rw [← h3] at hj
        rw [List.getElem?_drop] at hj
        rw [← Array.getElem?_toList]
        exact hj
      have hlen : (Pl.dec nn).length = 20 - q := by
        obtain ⟨h1, L, h2, h3⟩ := HST.out
        rw [dec_base h10, List.singleton_append] at h2
        have e : m % 10 = m := Nat.mod_eq_of_lt h10
        rw [e, ← h2] at h3
        have := congrArg List.length h3
        rw [bytesV_len, List.length_drop, Array.length_toList, h1] at this
        omega
      have hown2 : (w.alloc (.cells A2 62)).ownsRow base 5 1 v n (bytesV xs) := HO.out.alloc _
      have HLen : Hid ((Pl.dec nn).length = 20 - q) := hlen
      have hl1 : (bytesV (Pl.dec nn)).length = (20 - q) * 1 := by rw [bytesV_len, hlen]; omega
      clear hlen
      go_wp2_with (at_builtin; refine wpList_append_own _ rfl (.tmp 19) (.tmp 21) 22 rfl base 5 i0 (.int .u8 0) 1 1 Tryf.underlying22 hi hz0 hz1 hz2 rfl (by decide) v n (bytesV xs) rfl hown2 ⟨w.heap.size, q, none⟩ (20 - q) (20 - q) (bytesV (Pl.dec nn)) rfl hl1 hnew (bytesV_one _) (by unfold maxLen; omega) (by omega) (by simp; omega) ?_; intro v1 w1 hown1 hgrow1 hnn)
      go_ret
      refine ⟨v1, rfl, ?_, (World.grownBy_alloc w _ _).trans hgrow1⟩
      rw [HLen.out, bytesV_app]
      exact hown1
    · have hd : ((m : Int) / 10 == 0) = false := beq_eq_false_iff_ne.2 (by omega)
      go_wp2_with fail
      refine ⟨⟨m / 10, q, _, by go_num, rfl, by omega, by omega, ?_, by omega, rfl, HST.out.1, ?_⟩, by simp [intOf]; omega⟩
      · have := HM.out
        rw [Nat.pow_succ] at this
        exact Nat.div_lt_of_lt_mul (by rw [Nat.mul_comm]; exact this)
      · obtain ⟨h1, L, h2, h3⟩ := HST.out
        exact ⟨_, by rw [h2, dec_step h10, List.append_assoc, List.singleton_append], h3⟩
end Go.Proofs.Qxb6609503aFmt
