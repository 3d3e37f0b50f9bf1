import Derived.Test.Qxb6612590aDoorWalkJ
namespace Go.Proofs.Qxb6612590aDoor
open Go.RowKit
set_option linter.unusedVariables false

theorem assert_w (a : Addr) (w : World) : (Instr.typeAssert (.iface 41 (.pointer (some a))) 66 51 true).run Tryd.prog w = .ok (.tuple #[.pointer none, .bool false]) w := by kernel_rfl

theorem five (w : World) (o0 o1 o2 o3 o4 : Obj) :
    (((((w.alloc o0).alloc o1).alloc o2).alloc o3).alloc o4).heap[w.heap.size]? = some o0 ∧ (((((w.alloc o0).alloc o1).alloc o2).alloc o3).alloc o4).heap[w.heap.size + 1]? = some o1 ∧
    (((((w.alloc o0).alloc o1).alloc o2).alloc o3).alloc o4).heap[w.heap.size + 2]? = some o2 ∧ (((((w.alloc o0).alloc o1).alloc o2).alloc o3).alloc o4).heap[w.heap.size + 3]? = some o3 ∧
    (((((w.alloc o0).alloc o1).alloc o2).alloc o3).alloc o4).heap[w.heap.size + 4]? = some o4 := by
  have s1 : (w.alloc o0).heap.size = w.heap.size + 1 := World.size_alloc _ _
  have s2 : ((w.alloc o0).alloc o1).heap.size = w.heap.size + 2 := by rw [World.size_alloc, s1]
  have s3 : (((w.alloc o0).alloc o1).alloc o2).heap.size = w.heap.size + 3 := by rw [World.size_alloc, s2]
  have s4 : ((((w.alloc o0).alloc o1).alloc o2).alloc o3).heap.size = w.heap.size + 4 := by rw [World.size_alloc, s3]
  refine ⟨?_, ?_, ?_, ?_, ?_⟩
  · rw [Below.heap_alloc _ _ _ (by omega), Below.heap_alloc _ _ _ (by omega), Below.heap_alloc _ _ _ (by omega), Below.heap_alloc _ _ _ (by omega)]; exact heap_alloc_new _ _
  · rw [Below.heap_alloc _ _ _ (by omega), Below.heap_alloc _ _ _ (by omega), Below.heap_alloc _ _ _ (by omega), ← s1]; exact heap_alloc_new _ _
  · rw [Below.heap_alloc _ _ _ (by omega), Below.heap_alloc _ _ _ (by omega), ← s2]; exact heap_alloc_new _ _
  · rw [Below.heap_alloc _ _ _ (by omega), ← s3]; exact heap_alloc_new _ _
  · rw [← s4]; exact heap_alloc_new _ _

set_option maxHeartbeats 4000000 in
set_option maxRecDepth 100000 in
theorem newSink_any (w : World) :
    Calls Tryd.prog 8 #[] w fun e w' => e = .returned (.pointer (some ⟨w.heap.size + 4, 0, none⟩)) ∧ St w w' w.heap.size w.heap.size (w.heap.size + 1) (w.heap.size + 2) (w.heap.size + 3) (w.heap.size + 4) [] := by
  obtain ⟨i0, hi, hz0, hz1, hz2⟩ := info_parts info5
  obtain ⟨M, hM⟩ : ∃ M, M = madeCells (Value.int .u8 0).cells ((65536 : Int).toNat * i0.size) := ⟨_, rfl⟩
  have hMs : M.size = 65536 := by rw [hM, size_madeCells, hz1]; rfl
  have hmk : ∀ W : World, (Instr.makeSlice 24 (.int .i64 65536) (.int .i64 65536)).run Tryd.prog W = .ok (.slice (some ⟨W.heap.size, 0, none⟩) 65536 65536) (W.alloc (.cells M 5)) := fun W => by
    have h := run_makeSlice (P := Tryd.prog) W 24 5 i0 (.int .u8 0) Tryd.underlying24 hi hz0 .i64 .i64 65536 65536 (by omega) (by omega) (by rw [hz1]; decide) (by rw [hz2]; decide) (by decide)
    rw [← hM] at h
    simpa using h
  have HM : Hid (M.size = 65536) := hMs
  clear hM hi hz0 hz1 hz2 i0 hMs
  have has := assert_w ⟨w.heap.size, 0, none⟩
  go_enter Tryd.func8, Tryd.ntmps8
  go_wp2
  go_ret
  have hmid := HM.out
  refine ⟨rfl, ?_⟩
  obtain ⟨q0, q1, q2, q3, q4⟩ := five w (.cells #[.slice none 0 0, .int .i64 0, .int .i8 0] 45) (.cells M 5)
    (.cells #[.nilIface, .slice (some ⟨w.heap.size + 1, 0, none⟩) 65536 65536, .int .i64 0, .iface 41 (.pointer (some ⟨w.heap.size, 0, none⟩))] 69)
    (.cells #[.pointer (some ⟨w.heap.size + 1 + 1, 0, none⟩)] 53)
    (.cells #[.pointer (some ⟨w.heap.size + 1 + 1 + 1, 0, none⟩), .pointer (some ⟨w.heap.size, 0, none⟩)] 48)
  have hbel : Below w.heap.size w (((((w.alloc (.cells #[.slice none 0 0, .int .i64 0, .int .i8 0] 45)).alloc (.cells M 5)).alloc
    (.cells #[.nilIface, .slice (some ⟨w.heap.size + 1, 0, none⟩) 65536 65536, .int .i64 0, .iface 41 (.pointer (some ⟨w.heap.size, 0, none⟩))] 69)).alloc
    (.cells #[.pointer (some ⟨w.heap.size + 1 + 1, 0, none⟩)] 53)).alloc
    (.cells #[.pointer (some ⟨w.heap.size + 1 + 1 + 1, 0, none⟩), .pointer (some ⟨w.heap.size, 0, none⟩)] 48)) :=
    (((((Below.refl _ _).alloc (Nat.le_refl _) _).alloc (by simp) _).alloc (by simp; omega) _).alloc (by simp; omega) _).alloc (by simp; omega) _
  refine ⟨[], [], none, ⟨⟨0, Or.inl ⟨rfl, rfl, q0⟩⟩, q2, ⟨M, q1, hmid, by simp [bytesV]⟩, by simp, by omega, by omega, by omega, by simp, by simp⟩, rfl, hbel, Nat.le_refl _, Nat.le_refl _, by omega, by omega, by simp, q3, q4, ⟨by omega, by omega, by omega, by simp⟩, ⟨by omega, by omega, by omega, by simp⟩⟩

theorem Dr.below {w w' : World} (h : Dr w w') : Below w.heap.size w w' := by
  obtain ⟨n, rfl⟩ := h; exact ⟨rfl, rfl, rfl, Nat.le_refl _, fun _ _ => rfl⟩
theorem St.bel {w0 w : World} {B b db wb rw sk : Nat} {c : List UInt8} (h : St w0 w B b db wb rw sk c) : Below B w0 w := by
  obtain ⟨f, p, row, hS, _, hb, _⟩ := h; exact hb
theorem St.skc {w0 w : World} {B b db wb rw sk : Nat} {c : List UInt8} (h : St w0 w B b db wb rw sk c) : w.cell? ⟨sk, 0, none⟩ = some (.pointer (some ⟨rw, 0, none⟩)) ∧ w.cell? ⟨sk, 1, none⟩ = some (.pointer (some ⟨b, 0, none⟩)) := by
  obtain ⟨f, p, row, hS, _, hb, hB0, _, _, _, _, hr, hk, _⟩ := h
  rw [Lib.cell_of_heap hk, Lib.cell_of_heap hk]; exact ⟨rfl, rfl⟩

set_option maxHeartbeats 400000 in
theorem sinkWriter_any (w0 w : World) (B b db wb rw sk : Nat) (c : List UInt8) (h : St w0 w B b db wb rw sk c) :
    Calls Tryd.prog 9 #[.pointer (some ⟨sk, 0, none⟩)] w fun e w' => e = .returned (.pointer (some ⟨rw, 0, none⟩)) ∧ w = w' := by
  obtain ⟨k0, k1⟩ := h.skc
  clear h
  go_enter Tryd.func9, Tryd.ntmps9
  go_wp2
  go_ret
  exact ⟨rfl, rfl⟩

/-- The bytes l lie in a slice v of the world w. -/
def SlIs (w : World) (v : Value) (l : List UInt8) : Prop :=
  ∃ (a : Option Addr) (cap : Nat), v = .slice a l.length cap ∧ l.length ≤ cap ∧ (l ≠ [] → ∃ g o, a = some ⟨g, o, none⟩ ∧ ∀ j, j < l.length → w.cell? ⟨g, o + j, none⟩ = some (byteV (l.getD j 0)))

theorem bytesV_ints (c : List UInt8) : bytesV c = (c.map fun b => (b.toNat : Int)).map (Value.int .u8) := by simp [bytesV, byteV]
theorem own_cases {w : World} {B n : Nat} {v : Value} {c : List UInt8} (h : w.ownsRow B 5 1 v n (bytesV c)) (hn : c.length = n) (hc : c ≠ []) :
    ∃ g cap, v = .slice (some ⟨g, 0, none⟩) n cap ∧ B ≤ g ∧ n ≤ cap ∧ cap ≤ maxLen ∧ ∀ j, j < n → w.cell? ⟨g, j, none⟩ = some (byteV (c.getD j 0)) := by
  obtain ⟨_, hnil | ⟨g, cap, cur, hv, hB, hg, hnc, hcm, hcs, htk⟩⟩ := h
  · exfalso
    have h0 : c.length ≠ 0 := fun e => hc (List.length_eq_zero_iff.1 e)
    exact h0 (by have := hnil.2; omega)
  · refine ⟨g, cap, hv, hB, by omega, hcm, fun j hj => ?_⟩
    have := cell_row hg hn (by rw [Nat.mul_one] at htk; exact htk) j hj
    rwa [Nat.zero_add] at this
theorem st_flush {w0 w : World} {B b db wb rw sk : Nat} {c : List UInt8} (h : St w0 w B b db wb rw sk c) (hlim : c.length ≤ 1000000000) :
    Calls Tryd.prog 26 #[.pointer (some ⟨wb, 0, none⟩)] w fun e w' => e = .returned .nilIface ∧ St w0 w' B b db wb rw sk c ∧ w.heap.size ≤ w'.heap.size ∧ ∃ r', BufIs w' b c r' := by
  obtain ⟨f, p, row, hS, hc, hb0, hB0, h1, h2, h3, h4, hr, hk, nr, nk⟩ := h
  by_cases hp : p.length = 0
  · have hpe : p = [] := List.length_eq_zero_iff.1 hp
    subst hpe
    refine (flush_none w b db wb f row hS).mono ?_
    rintro e w' ⟨rfl, hw⟩
    subst hw
    exact ⟨rfl, ⟨f, [], row, hS, hc, hb0, hB0, h1, h2, h3, h4, hr, hk, nr, nk⟩, Nat.le_refl _, row, by rw [← hc, List.append_nil]; exact hS.buf⟩
  · refine (flush_some w b db wb f p row hS (by omega) (by have := congrArg List.length hc; simp at this; omega)).mono ?_
    rintro e w' ⟨rfl, r', hS', hF⟩
    have hst := St.wrote (xs := []) hS hb0 hB0 h1 h2 h3 h4 hr hk nr nk ⟨f ++ p, [], r', hS', by simp, hF⟩
    rw [List.append_nil, hc] at hst
    exact ⟨rfl, hst, hF.size, r', by rw [← hc]; exact hS'.buf⟩
theorem bufIs_isBuffer {w : World} {b : Nat} {c : List UInt8} {row : Option Nat} (h : BufIs w b c row) : Lib.IsBuffer 45 5 0 b (bytesV c) w := by
  obtain ⟨lr, hB | ⟨g, cap, cur, e1, e2, e3, e4, e5, e6, e7, e8, e9⟩⟩ := h
  · obtain ⟨_, rfl, hb⟩ := hB
    exact ⟨Nat.zero_le _, _, _, hb, World.ownsRow_nil _ _ _ _, by simp [Value.ownBlock]⟩
  · exact ⟨Nat.zero_le _, _, _, e3, ⟨by rw [Nat.mul_one], .inr ⟨g, cap, cur, by rw [bytesV_len], Nat.zero_le _, e4, by rw [bytesV_len]; exact e7, e8, by omega, by rw [bytesV_len, Nat.mul_one]; exact e9⟩⟩, by simp [Value.ownBlock]; exact e2⟩

set_option maxHeartbeats 4000000 in
set_option maxRecDepth 100000 in
theorem sinkBytes_any (w0 w : World) (B b db wb rw sk : Nat) (c : List UInt8) (h : St w0 w B b db wb rw sk c) (hc : c ≠ []) (hlim : c.length ≤ 1000000000) :
    Calls Tryd.prog 11 #[.pointer (some ⟨sk, 0, none⟩)] w fun e w' => ∃ (g cap : Nat), e = .returned (.slice (some ⟨g, 0, none⟩) c.length cap) ∧ w.heap.size ≤ g ∧ c.length ≤ cap ∧ cap ≤ maxLen ∧ (∀ j, j < c.length → w'.cell? ⟨g, j, none⟩ = some (byteV (c.getD j 0))) ∧ Below B w0 w' := by
  obtain ⟨k0, k1⟩ := h.skc
  have r0 := h.rwc
  have HS : Hid (St w0 w B b db wb rw sk c) := h
  clear h
  go_enter Tryd.func11, Tryd.ntmps11
  go_wp2_with fail
  refine (st_flush HS.out hlim).mono ?_
  rintro e w1 ⟨rfl, hS1, hsz1, r1, hB1⟩
  have k1' := hS1.skc.2
  have HS1 : Hid (St w0 w1 B b db wb rw sk c) := hS1
  have HB1 : Hid (BufIs w1 b c r1) := hB1
  clear hS1 hB1
  go_wp2_with fail
  refine (Tryd.Buffer_Bytes 0 b (bytesV c) w1 (bufIs_isBuffer HB1.out)).mono ?_
  rintro e w2 ⟨v, rfl, hown, hD⟩
  rw [bytesV_len] at hown
  obtain ⟨g, cap, rfl, hg0, hgc, hgm, hcell⟩ := own_cases hown rfl hc
  have HD : Hid (Dr w1 w2) := hD
  have HC : Hid (∀ j, j < c.length → w2.cell? ⟨g, j, none⟩ = some (byteV (c.getD j 0))) := hcell
  clear hown hD hcell
  go_wp2_with fail
  refine (Tryd.bytes_Clone_at ⟨g, 0, none⟩ c.length cap (c.map fun b => (b.toNat : Int)) w2 (by simp) (by omega) (fun i hi => by
    rw [Lib.addr_add, Nat.zero_add, HC.out i hi]
    simp [byteV, List.getD, List.getElem?_eq_getElem hi])).mono ?_
  rintro e w3 ⟨v', rfl, hown', hnn, hb3⟩
  rw [← bytesV_ints] at hown'
  obtain ⟨g', cap', rfl, hg', hgc', hgm', hcell'⟩ := own_cases hown' rfl hc
  have hsz : w.heap.size ≤ w2.heap.size := by rw [HD.out.heap]; exact hsz1
  have hbB : Below B w0 w3 := ((HS1.out.below HD.out.below).below hb3).bel
  have HE : Hid (w.heap.size ≤ g' ∧ c.length ≤ cap' ∧ cap' ≤ maxLen ∧ (∀ j, j < c.length → w3.cell? ⟨g', j, none⟩ = some (byteV (c.getD j 0))) ∧ Below B w0 w3) :=
    ⟨by omega, hgc', hgm', hcell', hbB⟩
  clear hown' hnn hb3 hg' hgc' hgm' hcell' hbB
  go_wp2_with fail
  go_ret
  exact ⟨g', cap', rfl, HE.out⟩
end Go.Proofs.Qxb6612590aDoor
