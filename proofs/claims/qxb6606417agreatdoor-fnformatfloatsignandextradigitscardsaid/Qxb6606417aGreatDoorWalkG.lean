import Derived.Test.Qxb6606417aGreatDoorWalkD
import Derived.Test.Qxb6606417aGreatDoorWalkH
namespace Go.Proofs.Qxb6606417aGreatDoor
open Go.RowKit Go.PlainAid
open Go.Sort (Holds putRow mapBlock size_putRow)
set_option linter.unusedVariables false
set_option linter.unusedSimpArgs false
set_option maxRecDepth 100000

theorem holds_zeros (w : World) (bb n0 N : Nat) (T : TypeId) (h : w.heap[bb]? = some (.cells (Array.replicate n0 (.int .u8 0)) T (0, 0))) (hN : N ≤ n0) : Holds (fun (b : UInt8) => Value.int .u8 (b.toNat : Int)) w bb 0 (Array.replicate N (0 : UInt8)) := fun j hj => by
  have hj' : j < N := by simpa using hj
  constructor
  · unfold World.cell?
    rw [h]
    simp [show j < n0 by omega, getElem!_pos, hj']
  · unfold World.frozen?
    rw [h]
    simp
theorem heap_mapBlock_other (w : World) (bb k : Nat) (f : Array Value → Array Value) (h : k ≠ bb) : (mapBlock w bb f).heap[k]? = w.heap[k]? := by
  unfold mapBlock
  simp [Array.getElem?_modify, Ne.symm h]
theorem heap_mapBlock_same (w : World) (bb : Nat) (f : Array Value → Array Value) (C : Array Value) (T : TypeId) (fr : Nat × Nat) (h : w.heap[bb]? = some (.cells C T fr)) : (mapBlock w bb f).heap[bb]? = some (.cells (f C) T fr) := by
  unfold mapBlock
  simp [Array.getElem?_modify, h, Go.Sort.onCells]
theorem buf_digits (w : World) (bb n0 d n v' : Nat) (T : TypeId) (dk : Array UInt8) (hT : T ≠ 5) (h : w.heap[bb]? = some (.cells (Array.replicate n0 (.int .u8 0)) T (0, 0))) (hN : Lib.nDigits d ≤ n0) (hF : Lib.FmtInv (Lib.nDigits d) d 0 v' dk) :
    BufAt ((putRow (fun (b : UInt8) => Value.int .u8 (b.toNat : Int)) w bb 0 dk).drewN n) bb T (Lib.decDigits d) := by
  refine ⟨hT, Go.Sort.putCells (fun (b : UInt8) => Value.int .u8 (b.toNat : Int)) 0 dk (Array.replicate n0 (.int .u8 0)), ?_, fun j hj => ?_⟩
  · show (putRow (fun (b : UInt8) => Value.int .u8 (b.toNat : Int)) w bb 0 dk).heap[bb]? = _
    exact heap_mapBlock_same w bb _ _ T _ h
  · have hj' : j < Lib.nDigits d := by rw [Lib.decDigits_length] at hj; exact hj
    have hs := hF.size
    simp only [Go.Sort.putCells, Array.getElem?_mapIdx, Array.getElem?_replicate]
    rw [if_pos (by omega), Option.map_some, if_pos ⟨Nat.zero_le _, by omega⟩, Nat.sub_zero, Lib.row_is_numeral hF j hj]
    rfl
theorem putRow_below (w : World) (bb n : Nat) (dk : Array UInt8) : Below bb w ((putRow (fun (b : UInt8) => Value.int .u8 (b.toNat : Int)) w bb 0 dk).drewN n) ∧ ((putRow (fun (b : UInt8) => Value.int .u8 (b.toNat : Int)) w bb 0 dk).drewN n).heap.size = w.heap.size := by
  have hs : ((putRow (fun (b : UInt8) => Value.int .u8 (b.toNat : Int)) w bb 0 dk).drewN n).heap.size = w.heap.size := size_putRow _ _ _ _ _
  exact ⟨⟨rfl, rfl, rfl, by rw [hs]; exact Nat.le_refl _, fun k hk => heap_mapBlock_other w bb k _ (by omega)⟩, hs⟩
theorem base10_walk (bb n0 d cap : Nat) (T : TypeId) (w : World) (hbb : w.heap[bb]? = some (.cells (Array.replicate n0 (.int .u8 0)) T (0, 0))) (hT : T ≠ 5) (hN : Lib.nDigits d ≤ n0) (hn1 : n0 ≤ 32) (hd2 : d < 1000000000000000000) :
    Calls Tryz.prog 50 #[.slice (some ⟨bb, 0, none⟩) (Lib.nDigits d) cap, .int .u64 d] w fun e w' => e = .returned (.tuple #[]) ∧ BufAt w' bb T (Lib.decDigits d) ∧ Below bb w w' ∧ w'.heap.size = w.heap.size := by
  have := Tryz.internal_strconv_formatBase10 bb 0 cap d (Array.replicate (Lib.nDigits d) 0) w (holds_zeros w bb n0 _ T hbb hN) (by rw [Array.size_replicate]; exact Lib.lt_pow_nDigits d) (by omega) (by rw [Array.size_replicate]; omega)
  rw [Array.size_replicate] at this
  refine this.mono ?_
  rintro e w' ⟨rfl, n, v', dk, rfl, hF⟩
  exact ⟨rfl, buf_digits w bb n0 d n v' T dk hT hbb hN hF, putRow_below w bb n dk⟩

set_option maxHeartbeats 2000000 in
theorem setDigits_walk (bb n0 d : Nat) (p : Int) (T : TypeId) (w : World) (hbb : w.heap[bb]? = some (.cells (Array.replicate n0 (.int .u8 0)) T (0, 0))) (hT : T ≠ 5) (hn0 : 20 ≤ n0) (hn1 : n0 ≤ 32) (hd : 0 < d) (hd2 : d < 1000000000000000000) (hp1 : -400 ≤ p) (hp2 : p ≤ 400) :
    Calls Tryz.prog 82 #[.slice (some ⟨bb, 0, none⟩) n0 n0, .int .u64 d, .int .i64 p, .int .i64 (Lib.nDigits d)] w fun e w' => e = .returned (.tuple #[.int .i64 (Lib.nDigits (trimN d p).1 + (trimN d p).2), .int .i64 (Lib.nDigits (trimN d p).1)]) ∧ BufAt w' bb T (Lib.decDigits (trimN d p).1) ∧ Below bb w w' ∧ w'.heap.size = w.heap.size := by
  obtain ⟨i, t1, t2, t3, t4, t5⟩ := trim_digits d d p (Nat.le_refl _) hd
  have hN18 : Lib.nDigits d ≤ 18 := nDigits_lt (by omega) (by omega)
  have k50 := base10_walk bb n0 d n0 T w hbb hT (by omega) hn1 hd2
  obtain ⟨M, c, m1, m2⟩ := dec_last t4
  generalize (trimN d p).1 = x at *
  generalize (trimN d p).2 = k at *
  have hx1 := Lib.nDigits_pos x
  have hxl := Lib.decDigits_length x
  generalize Lib.nDigits x = nx at *
  generalize Lib.nDigits d = N at *
  subst t3
  have HC : Hid (∀ W : World, BufAt W bb T (Lib.decDigits d) → (∀ j, 0 < j → j ≤ i → W.cell? ⟨bb, nx + j - 1, none⟩ = some (.int .u8 48)) ∧ ∃ y : Nat, y ≠ 48 ∧ y < 256 ∧ W.cell? ⟨bb, nx - 1, none⟩ = some (.int .u8 y)) := by
    show ∀ W, _
    intro W hW
    rw [t2] at hW
    constructor
    · intro j j1 j2
      have hj : nx + j - 1 < (Lib.decDigits x ++ List.replicate i 48).length := by rw [List.length_append, hxl, List.length_replicate]; omega
      rw [hW.cell hj, List.getElem_append_right (by omega), List.getElem_replicate]
      rfl
    · refine ⟨c.toNat, by omega, by omega, ?_⟩
      have hj : nx - 1 < (Lib.decDigits x).length := by omega
      rw [hW.prefix.cell hj]
      congr 1
      have hml : M.length = nx - 1 := by rw [m1, List.length_append] at hxl; simp at hxl; omega
      simp only [m1, List.getElem_append_right (show M.length ≤ nx - 1 from by omega)]
      simp [hml, byteV]
  have HP : Hid (∀ W : World, BufAt W bb T (Lib.decDigits d) → BufAt W bb T (Lib.decDigits x)) := by
    show ∀ W, _
    intro W hW
    rw [t2] at hW
    exact hW.prefix
  have HK := Lib.hid k50
  have hle : decide (((nx + i : Nat) : Int) ≤ (n0 : Int)) = true := by simp; omega
  have hk : ((nx + i : Nat) : Int) + p = (nx : Int) + k := by omega
  have HPK : Hid (((nx + i : Nat) : Int) + p = (nx : Int) + k) := hk
  clear hk t1 t2 t4 t5 m1 m2 hxl k50 hbb M c
  go_enter Tryz.func82, Tryz.ntmps82
  go_upto_region 3 with (go_at_call 50; refine HK.out.mono ?_; rintro e w1 ⟨rfl, b1, b2, b3⟩; have B1 : Hid _ := b1; have B2 : Hid _ := b2; have B3 : Hid _ := b3; clear b1 b2 b3)
  go_upto_region 4 with fail
  obtain ⟨hc48, y, hy1, hy2, hcy⟩ := HC.out w1 B1.out
  have HC48 : Hid (∀ j, 0 < j → j ≤ i → w1.cell? ⟨bb, nx + j - 1, none⟩ = some (.int .u8 48)) := hc48
  clear hc48
  go_loop [3] (fun v => ∃ j q : Nat, j ≤ i ∧ q + 1 = nx + j ∧ v = .int .i64 (q + 1)) (fun v => (intOf v).toNat)
  case atStart => exact ⟨i, nx + i - 1, Nat.le_refl _, by omega, by show Value.int _ _ = Value.int _ _; congr 1; omega⟩
  case round =>
    obtain ⟨j, q, hj, hq, rfl⟩ := hrel
    have hgt : decide ((q : Int) + 1 > 0) = true := decide_eq_true (by omega)
    by_cases h0 : j = 0
    · subst h0
      have hcq : w1.cell? ⟨bb, q, none⟩ = some (.int .u8 y) := by rw [show q = nx - 1 from by omega]; exact hcy
      have hne : ((y : Int) == 48) = false := by simp; omega
      clear hcy
      go_wp2_with fail
      go_ret2
      refine ⟨?_, HP.out w1 B1.out, B2.out, B3.out⟩
      rw [show ((q : Int) + 1) = (nx : Int) from by omega]
      have hpk : (nx : Int) + i + p = nx + k := by have := HPK.out; omega
      rw [← hpk]
      rfl
    · have hcq := HC48.out j (by omega) hj
      rw [show nx + j - 1 = q from by omega] at hcq
      go_wp2_with fail
      refine ⟨⟨j - 1, q - 1, by omega, by omega, ?_⟩, ?_⟩
      · show Value.int _ _ = Value.int _ _
        congr 1; omega
      · simp [intOf]
end Go.Proofs.Qxb6606417aGreatDoor
