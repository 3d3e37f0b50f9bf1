import Derived.Test.Qxb6606157aDoorWalkA
import Derived.LoopTactic
import Derived.WalkSmall
import Derived.Lib.ItoaLen
import Derived.Lib.ItoaMem
namespace Go.Proofs.Qxb6606157aDoor
open Go.RowKit Go.PlainAid
set_option linter.unusedVariables false

/-- The world has only drawn. -/
def Dr (w w' : World) : Prop := ∃ n, w' = w.drewN n
theorem Dr.refl (w : World) : Dr w w := ⟨0, rfl⟩
theorem Dr.trans {a b c : World} (h : Dr a b) (g : Dr b c) : Dr a c := by
  obtain ⟨n, rfl⟩ := h; obtain ⟨m, rfl⟩ := g; exact ⟨n + m, World.drewN_drewN _ _ _⟩
theorem Dr.below {w w' : World} (h : Dr w w') : Below w.heap.size w w' := by
  obtain ⟨n, rfl⟩ := h; exact below_drewN (Below.refl _ _) n

def strSize : Value → Nat | .string t => t.size | _ => 0
def R1 (s t : ByteArray) : Prop := t.size ≤ s.size ∧ (t.size = s.size → t = s)
def R2 (s t : ByteArray) : Prop := t.size ≤ s.size ∧ (t.size = s.size → t = s ∧ NoHead s)
def TrimPost (s : ByteArray) (w : World) (e : Ending) (w' : World) : Prop := ∃ t : ByteArray, e = .returned (.string t) ∧ Dr w w' ∧ (t = s → NoHead s ∧ NoTail s)

theorem size_extract (s : ByteArray) (a b : Nat) : (s.extract a b).size = min b s.size - a := by simp

theorem R1.drop {s t : ByteArray} (h : R1 s t) {k : Nat} (hk : ¬ k = 0) (hkt : k ≤ t.size) : R1 s (t.extract k t.size) := by
  have hsz : (t.extract k t.size).size = t.size - k := by rw [size_extract, Nat.min_self]
  exact ⟨by have := h.1; omega, fun e => by have := h.1; omega⟩
theorem R2.take {s t : ByteArray} (h : R2 s t) {k : Nat} (hk : ¬ k = 0) (hkt : k ≤ t.size) : R2 s (t.extract 0 (t.size - k)) := by
  have hsz : (t.extract 0 (t.size - k)).size = t.size - k := by rw [size_extract, Nat.min_eq_left (by omega)]; omega
  exact ⟨by have := h.1; omega, fun e => by have := h.1; omega⟩

set_option maxHeartbeats 400000 in
theorem trimSpace_any (s : ByteArray) (w : World) (hs : s.size ≤ maxLen) :
    Calls Tryd.prog 10 #[.string s] w fun e w' => TrimPost s w e w' := by
  go_enter Tryd.func10, Tryd.ntmps10
  go_wp2
  go_loopw [0] (fun s0 wr => ∃ t : ByteArray, s0 = .string t ∧ Dr w wr ∧ R1 s t) (fun s0 _ => strSize s0)
  case atStart => exact ⟨s, rfl, Dr.refl _, Nat.le_refl _, fun _ => rfl⟩
  case round =>
    obtain ⟨t, rfl, hD, hR⟩ := hrel
    have ht : t.size ≤ maxLen := Nat.le_trans hR.1 hs
    have HR : Hid (R1 s t) := hR
    have HD : Hid (Dr w wr) := hD
    clear hR hD
    go_wp2_with fail
    refine (prefixLen_any t _ ht).mono ?_
    rintro e w1 ⟨k, rfl, hD1, hk⟩
    have HD1 : Hid (Dr w w1) := Dr.trans HD.out hD1
    have hks : k ≤ t.size := hk.1
    have HK : Hid (PreOk t k) := hk
    clear hD1 hk
    unfold maxLen at ht
    by_cases hk0 : k = 0
    · subst hk0
      have hNH := HK.out.2 rfl
      have HR2 : Hid (R2 s t) := ⟨HR.out.1, fun e => ⟨HR.out.2 e, HR.out.2 e ▸ hNH⟩⟩
      clear hNH
      go_wp2
      go_loopw [0] (fun s0 wr => ∃ t : ByteArray, s0 = .string t ∧ Dr w wr ∧ R2 s t) (fun s0 _ => strSize s0)
      case atStart => exact ⟨t, rfl, HD1.out, HR2.out⟩
      case round =>
        obtain ⟨u, rfl, hD2, hR2⟩ := hrel
        have hu : u.size ≤ maxLen := Nat.le_trans hR2.1 hs
        have HR3 : Hid (R2 s u) := hR2
        have HD2 : Hid (Dr w wr) := hD2
        clear hR2 hD2 HR2 HR HK HD HD1
        go_wp2_with fail
        refine (suffixLen_any u _ hu).mono ?_
        rintro e w2 ⟨j, rfl, hD3, hj⟩
        have HD3 : Hid (Dr w w2) := Dr.trans HD2.out hD3
        have hjs : j ≤ u.size := hj.1
        have HJ : Hid (SufOk u j) := hj
        clear hD3 hj
        unfold maxLen at hu
        by_cases hj0 : j = 0
        · subst hj0
          go_wp2
          go_ret
          refine ⟨u, rfl, HD3.out, fun e => ?_⟩
          subst e
          exact ⟨(HR3.out.2 rfl).2, HJ.out.2 rfl⟩
        · have hj1 : ((j : Int) == 0) = false := by simp; omega
          go_wp2
          go_roundw
          case rel => exact ⟨_, rfl, HD3.out, HR3.out.take hj0 hjs⟩
          case measure => simp [strSize]; omega
    · have hk1 : ((k : Int) == 0) = false := by simp; omega
      go_wp2
      go_roundw
      case rel => exact ⟨_, rfl, HD1.out, HR.out.drop hk0 hks⟩
      case measure => simp [strSize]; omega

/-- The buffer of 24 bytes with l at its end. -/
def bufA (l : List UInt8) : Array Value := (List.replicate (24 - l.length) (Value.int .u8 0) ++ l.map fun b => Value.int .u8 (b.toNat : Int)).toArray
def ItInv (u0 v m : Nat) (l : List UInt8) : Prop := m + l.length = 24 ∧ Lib.decDigits v ++ l = Lib.decDigits u0

theorem bufA_nil : bufA [] = #[Value.int IntKind.u8 0, Value.int IntKind.u8 0, Value.int IntKind.u8 0, Value.int IntKind.u8 0,
        Value.int IntKind.u8 0, Value.int IntKind.u8 0, Value.int IntKind.u8 0, Value.int IntKind.u8 0,
        Value.int IntKind.u8 0, Value.int IntKind.u8 0, Value.int IntKind.u8 0, Value.int IntKind.u8 0,
        Value.int IntKind.u8 0, Value.int IntKind.u8 0, Value.int IntKind.u8 0, Value.int IntKind.u8 0,
        Value.int IntKind.u8 0, Value.int IntKind.u8 0, Value.int IntKind.u8 0, Value.int IntKind.u8 0,
        Value.int IntKind.u8 0, Value.int IntKind.u8 0, Value.int IntKind.u8 0, Value.int IntKind.u8 0] := rfl
theorem bufA_size (l : List UInt8) (h : l.length ≤ 24) : (bufA l).size = 24 := by simp [bufA]; omega
theorem bufA_cell (l : List UInt8) (j : Nat) (hj : j < 24) (h : l.length ≤ 24) : ∃ z : Int, (bufA l)[j]? = some (.int .u8 z) := by
  unfold bufA
  by_cases hl : j < 24 - l.length
  · exact ⟨0, by simp [List.getElem?_append_left, hl]⟩
  · have : j - (24 - l.length) < l.length := by omega
    exact ⟨(l[j - (24 - l.length)].toNat : Int), by simp [List.getElem?_append_right, Nat.not_lt.1 hl, List.getElem?_eq_getElem this]⟩
theorem bufA_at (l : List UInt8) (j : Nat) (h : l.length ≤ 24) (hj : j < l.length) : (bufA l)[24 - l.length + j]? = some (.int .u8 ((l.map fun b => (b.toNat : Int)).getD j 0)) := by
  unfold bufA
  simp [List.getElem?_append_right, List.getElem?_eq_getElem hj]
theorem bufA_cons (l : List UInt8) (b : UInt8) (m : Nat) (h : m + 1 + l.length = 24) : (bufA l).setIfInBounds m (.int .u8 (b.toNat : Int)) = bufA (b :: l) := by
  unfold bufA
  have e1 : 24 - l.length = m + 1 := by omega
  have e2 : 24 - (b :: l).length = m := by simp; omega
  rw [e1, e2, List.replicate_succ']
  simp
  


theorem cell_new (w : World) (A : Array Value) (T : TypeId) (j : Nat) (x : Value) (h : A[j]? = some x) : (w.alloc (.cells A T)).cell? ⟨w.heap.size, j, none⟩ = some x := by
  rw [World.cell?_alloc_at _ _ _ _ rfl]; exact h


theorem len45 : Tryd.prog.arrayLen 45 = 24 := by kernel_rfl
theorem size45 (w : World) : (sizeOf (Tryd.prog.elem 45)).run Tryd.prog w = .ok 1 w := by kernel_rfl
set_option maxRecDepth 100000 in
theorem slice_buf (b k : Nat) (hk : k < 24) (w : World) : (Instr.sliceAt 45 (.pointer (some ⟨b, 0, none⟩)) (some (.int .i64 (k : Int))) none none).run Tryd.prog w = .ok (.slice (some ⟨b, k, none⟩) (24 - k) (24 - k)) w := by
  have hk' : (k : Int) ≤ (Tryd.prog.arrayLen 45 : Int) := by rw [len45]; omega
  rw [run_sliceAt_array_l (P := Tryd.prog) w 45 ⟨b, 0, none⟩ Tryd.underlying45 .i64 (k : Int) (by omega) hk', size45]
  simp only [Result.andThen, slicedAt, len45, Int.toNat_natCast]
  rw [if_neg (by omega)]
  simp [Addr.add]
  exact fun h => h.symm

theorem strOfNums_bytes (l : List UInt8) : strOfNums (l.map fun b => (b.toNat : Int)) = ⟨l.toArray⟩ := by
  have h : ∀ b ∈ l, ((fun n : Int => UInt8.ofNat n.toNat) ∘ fun b : UInt8 => (b.toNat : Int)) b = id b := fun b _ => by simp
  unfold strOfNums
  rw [List.map_map, List.map_congr_left h, List.map_id]

theorem conv_buf (w : World) (l : List UInt8) (k : Nat) (h : k + l.length = 24) :
    (convert 46 9 (.slice (some ⟨w.heap.size, k, none⟩) (24 - k) (24 - k))).run Tryd.prog (w.alloc (.cells (bufA l) 45)) = .ok (.string ⟨l.toArray⟩) (w.alloc (.cells (bufA l) 45)) := by
  rw [← strOfNums_bytes l]
  refine run_convert_bytes_arg _ 46 5 Tryd.underlying46 Tryd.underlying5 w.heap.size k (24 - k) (24 - k) (l.map fun b => (b.toNat : Int)) (by simp; omega) (fun i hi => ?_) 9 Tryd.underlying9
  have hk : k = 24 - l.length := by omega
  rw [hk]
  exact cell_new w (bufA l) 45 _ _ (bufA_at l i (by omega) (by omega))

theorem inv_pos {u v m : Nat} {l : List UInt8} (h : ItInv u v m l) (hu : u < 18446744073709551616) : ∃ k, m = k + 1 ∧ k < 24 ∧ 4 ≤ k := by
  have h1 : (Lib.decDigits v ++ l).length = (Lib.decDigits u).length := by rw [h.2]
  have h2 : (Lib.decDigits u).length ≤ 20 := by rw [Lib.decDigits_length]; exact Lib.nDigits_le20 u hu
  have h3 : 1 ≤ (Lib.decDigits v).length := by rw [Lib.decDigits_length]; exact Lib.nDigits_pos v
  rw [List.length_append] at h1
  have := h.1
  exact ⟨m - 1, by omega, by omega, by omega⟩
theorem inv_step {u v k : Nat} {l : List UInt8} (h : ItInv u v (k + 1) l) (hv : ¬ v < 10) : ItInv u (v / 10) k (UInt8.ofNat (48 + v % 10) :: l) := by
  refine ⟨by have := h.1; simp; omega, ?_⟩
  rw [← h.2, Lib.decDigits.eq_1 v, dif_neg hv, List.append_assoc]; rfl
theorem inv_last {u v k : Nat} {l : List UInt8} (h : ItInv u v (k + 1) l) (hv : v < 10) : UInt8.ofNat (48 + v % 10) :: l = Lib.decDigits u := by
  rw [← h.2, Lib.decDigits.eq_1 v, dif_pos hv, Nat.mod_eq_of_lt hv]; rfl
theorem bufA_dig (l : List UInt8) (v k : Nat) (h : k + 1 + l.length = 24) : (bufA l).setIfInBounds k (.int .u8 (48 + (v : Int) % 10)) = bufA (UInt8.ofNat (48 + v % 10) :: l) := by
  rw [← bufA_cons l _ k h]
  congr 2
  simp
  omega

set_option maxHeartbeats 1000000 in
set_option maxRecDepth 100000 in
theorem itoa_any (n : Int) (w : World) (h0 : -9223372036854775808 ≤ n) (h1 : n ≤ 9223372036854775807) :
    Calls Tryd.prog 21 #[.int .i64 n] w fun e w' => e = .returned (.string ⟨(Lib.itoa n).toArray⟩) ∧ Below w.heap.size w w' := by
  by_cases hn : n < 0
  · obtain ⟨u, rfl⟩ : ∃ u : Nat, n = -(u : Int) := ⟨n.natAbs, by omega⟩
    have hu : u < 18446744073709551616 := by omega
    have hu1 : 1 ≤ u := by omega
    have hT : Lib.itoa (-(u : Int)) = 45 :: Lib.decDigits u := Lib.itoa_neg u hu1
    have HT : Hid (Lib.itoa (-(u : Int)) = 45 :: Lib.decDigits u) := hT
    clear hT
    go_enter Tryd.func21, Tryd.ntmps21
    go_wp2
    go_loopw [6, 3] (fun s6 s3 wr => ∃ (v m : Nat) (l : List UInt8), s6 = .int .i64 (m : Int) ∧ s3 = .int .u64 (v : Int) ∧ wr = w.alloc (.cells (bufA l) 45) ∧ ItInv u v m l ∧ v < 18446744073709551616) (fun _ s3 _ => (intOf s3).toNat)
    case atStart => exact ⟨u, 24, [], rfl, by go_num, by rw [bufA_nil], ⟨rfl, by simp⟩, by omega⟩
    case round =>
      obtain ⟨v, m, l, rfl, rfl, rfl, hI, hv⟩ := hrel
      obtain ⟨k, rfl, hm, hm4⟩ := inv_pos hI hu
      obtain ⟨z, hz⟩ := bufA_cell l k hm (by have := hI.1; omega)
      have hc := cell_new w (bufA l) 45 k _ hz
      clear hz
      have hset := bufA_dig l v k hI.1
      have HI : Hid (ItInv u v (k + 1) l) := hI
      clear hI
      by_cases hv0 : v < 10
      · have hq : ((v : Int) / 10 == 0) = true := by simp; omega
        have HL := HI.out.1
        have Hlast : Hid (UInt8.ofNat (48 + v % 10) :: l = Lib.decDigits u) := inv_last HI.out hv0
        generalize UInt8.ofNat (48 + v % 10) = b at hset Hlast
        obtain ⟨j, rfl⟩ : ∃ j, k = j + 1 := ⟨k - 1, by omega⟩
        obtain ⟨z', hz'⟩ := bufA_cell (b :: l) j (by omega) (by simp; omega)
        have hc' := cell_new w (bufA (b :: l)) 45 j _ hz'
        clear hz'
        have hset' : (bufA (b :: l)).setIfInBounds j (.int .u8 45) = bufA (45 :: b :: l) := bufA_cons (b :: l) 45 j (by simp; omega)
        have hsl := slice_buf w.heap.size j (by omega)
        have hcv := conv_buf w (45 :: b :: l) j (by simp; omega)
        have hm' : j + 1 < 24 := hm
        go_wp2
        go_ret
        refine ⟨?_, (Below.refl _ _).alloc (Nat.le_refl _) _⟩
        rw [HT.out, ← Hlast.out]; rfl
      · have hq : ((v : Int) / 10 == 0) = false := by simp; omega
        have HS : Hid (ItInv u (v / 10) k (UInt8.ofNat (48 + v % 10) :: l)) := inv_step HI.out hv0
        generalize UInt8.ofNat (48 + v % 10) = b at hset HS
        go_wp2
        go_roundw
        case rel => exact ⟨v / 10, k, _, rfl, by go_num, rfl, HS.out, by omega⟩
        case measure => simp [intOf]; omega
  · obtain ⟨u, rfl⟩ : ∃ u : Nat, n = u := ⟨n.toNat, by omega⟩
    have hu : u < 18446744073709551616 := by omega
    have hT : Lib.itoa (u : Int) = Lib.decDigits u := Lib.itoa_nonneg u
    have HT : Hid (Lib.itoa (u : Int) = Lib.decDigits u) := hT
    clear hT
    go_enter Tryd.func21, Tryd.ntmps21
    go_wp2
    go_loopw [6, 3] (fun s6 s3 wr => ∃ (v m : Nat) (l : List UInt8), s6 = .int .i64 (m : Int) ∧ s3 = .int .u64 (v : Int) ∧ wr = w.alloc (.cells (bufA l) 45) ∧ ItInv u v m l ∧ v < 18446744073709551616) (fun _ s3 _ => (intOf s3).toNat)
    case atStart => exact ⟨u, 24, [], rfl, rfl, by rw [bufA_nil], ⟨rfl, by simp⟩, by omega⟩
    case round =>
      obtain ⟨v, m, l, rfl, rfl, rfl, hI, hv⟩ := hrel
      obtain ⟨k, rfl, hm, hm4⟩ := inv_pos hI hu
      obtain ⟨z, hz⟩ := bufA_cell l k hm (by have := hI.1; omega)
      have hc := cell_new w (bufA l) 45 k _ hz
      clear hz
      have hset := bufA_dig l v k hI.1
      have HI : Hid (ItInv u v (k + 1) l) := hI
      clear hI
      by_cases hv0 : v < 10
      · have hq : ((v : Int) / 10 == 0) = true := by simp; omega
        have HL := HI.out.1
        have Hlast : Hid (UInt8.ofNat (48 + v % 10) :: l = Lib.decDigits u) := inv_last HI.out hv0
        generalize UInt8.ofNat (48 + v % 10) = b at hset Hlast
        have hsl := slice_buf w.heap.size k hm
        have hcv := conv_buf w (b :: l) k (by simp; omega)
        go_wp2
        go_ret
        refine ⟨?_, (Below.refl _ _).alloc (Nat.le_refl _) _⟩
        rw [HT.out, ← Hlast.out]; rfl
      · have hq : ((v : Int) / 10 == 0) = false := by simp; omega
        have HS : Hid (ItInv u (v / 10) k (UInt8.ofNat (48 + v % 10) :: l)) := inv_step HI.out hv0
        generalize UInt8.ofNat (48 + v % 10) = b at hset HS
        go_wp2
        go_roundw
        case rel => exact ⟨v / 10, k, _, rfl, by go_num, rfl, HS.out, by omega⟩
        case measure => simp [intOf]; omega
end Go.Proofs.Qxb6606157aDoor
