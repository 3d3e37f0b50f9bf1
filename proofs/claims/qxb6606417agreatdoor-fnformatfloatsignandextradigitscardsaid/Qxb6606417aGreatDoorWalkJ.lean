import Derived.Test.Qxb6606417aGreatDoorWalkI
import Derived.Test.Qxb6606417aGreatDoorWalkD
import Derived.Lib.AtoiErrMem
namespace Go.Proofs.Qxb6606417aGreatDoor
open Go.RowKit Go.PlainAid
set_option linter.unusedVariables false
set_option linter.unusedSimpArgs false
set_option maxRecDepth 100000

theorem DecIn.below {w w' : World} {b y : Nat} {k : Int} {B : Nat} (h : DecIn w b y k) (hb : Below B w w') (hl : b < B) : DecIn w' b y k := by
  unfold DecIn
  rw [hb.block b hl]
  exact h
theorem DecIn.setI {w : World} {b y y' : Nat} {k k' a : Int} (h : DecIn w b y k) (hy : a = y') : DecIn ((w.setCell ⟨b, 0, none⟩ (.int .u64 a)).setCell ⟨b, 1, none⟩ (.int .i64 k')) b y' k' := by
  subst hy
  exact h.set
theorem mstep_lt {s : Nat × Int} {c : UInt8} {i : Nat} (h : s.1 < 10 ^ i) (hc : c.toNat = 46 ∨ 48 ≤ c.toNat ∧ c.toNat ≤ 57) : (mstep s c).1 < 10 ^ (i + 1) := by
  unfold mstep
  rw [Nat.pow_succ]
  split
  · omega
  · show s.1 * 10 + (c.toNat - 48) < _
    omega
theorem mfold_lt (m : List UInt8) (E : Int) (hm : ∀ c ∈ m, c.toNat = 46 ∨ 48 ≤ c.toNat ∧ c.toNat ≤ 57) : ∀ i, i ≤ m.length → ((m.take i).foldl mstep (0, E)).1 < 10 ^ i ∧ E - i ≤ ((m.take i).foldl mstep (0, E)).2 ∧ ((m.take i).foldl mstep (0, E)).2 ≤ E
  | 0, _ => by simp
  | i + 1, h => by
    obtain ⟨a, b, c⟩ := mfold_lt m E hm i (by omega)
    rw [List.take_succ_eq_append_getElem (by omega), List.foldl_append]
    refine ⟨mstep_lt a (hm _ (List.getElem_mem _)), ?_⟩
    show E - ((i + 1 : Nat) : Int) ≤ (mstep _ _).2 ∧ (mstep _ _).2 ≤ E
    generalize (m.take i).foldl mstep (0, E) = s at *
    unfold mstep
    split
    · omega
    · show E - ((i + 1 : Nat) : Int) ≤ s.2 - 1 ∧ s.2 - 1 ≤ E
      omega
/-- Reading a decimal. -/
def readN (m : List UInt8) (E : Int) : Nat × Int := trimN (m.foldl mstep (0, E)).1 ((m.foldl mstep (0, E)).2 + 1)
set_option maxHeartbeats 2000000 in
theorem read_walk (m x : List UInt8) (E : Int) (w : World) (Ew : Env w) (hm : ∀ c ∈ m, c.toNat = 46 ∨ 48 ≤ c.toNat ∧ c.toNat ≤ 57) (hml : m.length ≤ 19) (hx : Lib.atoi x = some E) (hxl : x.length ≤ 18) (hE1 : -1000 ≤ E) (hE2 : E ≤ 1000) (hpos : 0 < (m.foldl mstep (0, E)).1) :
    Calls Tryz.prog 13 #[.string ⟨(m ++ 101 :: x).toArray⟩] w fun e w' => e = .returned (.agg #[.int .u64 ((readN m E).1 : Nat), .int .i64 (readN m E).2]) ∧ Below w.heap.size w w' := by
  have k26 : ∀ W : World, Env W → Calls Tryz.prog 26 #[.string ⟨(m ++ 101 :: x).toArray⟩, .string ⟨#[101]⟩] W fun e w' => e = .returned (.tuple #[.string ⟨m.toArray⟩, .string ⟨x.toArray⟩, .bool true]) ∧ ∃ n, w' = W.drewN n := fun W EW => by
    obtain ⟨mx, hmx⟩ := EW.mx
    have := Tryz.strings_Cut ⟨(m ++ 101 :: x).toArray⟩ ⟨#[101]⟩ mx W (by show (m ++ 101 :: x).toArray.size < _; simp; omega) hmx
    simp only [cut_e m x (fun c hc => by have := hm c hc; intro e; subst e; simp at this)] at this
    exact this
  have k27 : ∀ W : World, Calls Tryz.prog 27 #[.string ⟨x.toArray⟩] W fun e w' => e = .returned (.tuple #[.int .i64 E, .nilIface]) ∧ Below W.heap.size W w' ∧ W.heap.size ≤ w'.heap.size := fun W => by
    refine (Tryz.strconv_Atoi ⟨x.toArray⟩ E (by show x.toArray.size ≤ 18; simpa using hxl) (by simpa using hx) W).mono ?_
    rintro e w' ⟨rfl, t, rfl⟩
    have := Lib.bytesWorld_below W 5 t
    exact ⟨rfl, this, this.size⟩
  have hcv : ∀ W : World, (convert 9 39 (.string ⟨m.toArray⟩)).run Tryz.prog W = .ok (.slice (some ⟨W.heap.size, 0, none⟩) m.length (grownCap W m.length 0 5)) (Lib.bytesWorld W 5 ⟨m.toArray⟩) := fun W => by
    have := Lib.run_convert_string_bytes (P := Tryz.prog) W 9 39 5 ⟨m.toArray⟩ Tryz.underlying9 Tryz.underlying39 Tryz.underlying5
    rw [show (ByteArray.mk m.toArray).size = m.length from by simp [ByteArray.size]] at this
    exact this
  have HE : Hid (∀ W, Below w.heap.size w W → Env W) := fun W h => Ew.later h
  have K26 : Hid _ := k26
  have K27 : Hid _ := k27
  have HM : Hid (∀ c ∈ m, c.toNat = 46 ∨ 48 ≤ c.toNat ∧ c.toNat ≤ 57) := hm
  have HPOS : Hid (0 < (m.foldl mstep (0, E)).1) := hpos
  clear k26 k27 hm Ew hpos hx hxl
  go_enter Tryz.func13, Tryz.ntmps13
  go_upto_region 3 with (first
    | (go_at_call 26; refine (K26.out _ (HE.out _ ((Below.refl _ _).alloc (Nat.le_refl _) _))).mono ?_; rintro e w1 ⟨rfl, n, hw⟩; subst hw)
    | (go_at_call 27; refine (K27.out _).mono ?_; rintro e w2 ⟨rfl, hB, hS⟩; have D0 : Hid (DecIn w2 w.heap.size 0 0) := (show DecIn ((w.alloc _).drewN n) w.heap.size 0 0 from heap_new' w _).below hB (by simp); have B2 : Hid (Below w.heap.size w w2) := (below_drewN ((Below.refl _ _).alloc (Nat.le_refl _) _) n).trans (hB.mono (by simp)); have hS2 : w.heap.size + 1 ≤ w2.heap.size := by (simpa using hS)); clear hB hS)
  go_upto_region 5 with fail
  go_loopw [27] (fun v wr => ∃ i : Nat, i ≤ m.length ∧ v = .int .i64 i ∧ DecIn wr w2.heap.size ((m.take i).foldl mstep (0, E)).1 ((m.take i).foldl mstep (0, E)).2 ∧ DecIn wr w.heap.size 0 0 ∧ Below w.heap.size w wr ∧ (∀ j (h : j < m.length), wr.cell? ⟨w2.heap.size + 1, j, none⟩ = some (.int .u8 (m[j].toNat : Int)))) (fun v _ => m.length - (intOf v).toNat)
  case atStart =>
    refine ⟨0, Nat.zero_le _, rfl, ?_, ?_, ?_, ?_⟩
    · exact (show DecIn (w2.alloc _) w2.heap.size 0 E from heap_new' w2 _).below (Lib.bytesWorld_below _ 5 _) (by simp)
    · exact (D0.out.below ((Below.refl _ _).alloc (Nat.le_refl _) _) (by omega)).below (Lib.bytesWorld_below _ 5 _) (by simp; omega)
    · exact (B2.out.alloc (by omega) _).trans ((Lib.bytesWorld_below _ 5 _).mono (by simp; omega))
    · intro j hj
      have := Lib.bytesWorld_cell (w2.alloc (.cells #[.int .u64 0, .int .i64 E] 31)) 5 ⟨m.toArray⟩ j (by simpa [ByteArray.size] using hj)
      simpa [hj] using this
  case round =>
    obtain ⟨i, hi, rfl, D1, D2, hB, hC⟩ := hrel
    obtain ⟨b1, b2, b3⟩ := mfold_lt m E HM.out i hi
    have hp18 : 10 ^ i ≤ 10 ^ 19 := Nat.pow_le_pow_right (by omega) (by omega)
    have e19 : (10 : Nat) ^ 19 = 10000000000000000000 := by decide
    have hs1 : ((m.take i).foldl mstep (0, E)).1 < 10000000000000000000 := by omega
    obtain ⟨s, hs⟩ : ∃ s, (m.take i).foldl mstep (0, E) = s := ⟨_, rfl⟩
    rw [hs] at D1 b2 b3 hs1
    obtain ⟨y, k⟩ := s
    simp only at D1 b2 b3 hs1
    have c0 := D1.c0
    have c1 := D1.c1
    have f0 := D1.f0
    have f1 := D1.f1
    have hsz : w.heap.size + 1 ≤ w2.heap.size := hS2
    have HS : Hid ((m.take i).foldl mstep (0, E) = (y, k)) := hs
    have H1 : Hid (DecIn wr w2.heap.size y k) := D1
    have H2 : Hid (DecIn wr w.heap.size 0 0) := D2
    have HB : Hid (Below w.heap.size w wr) := hB
    have HC : Hid (∀ j (h : j < m.length), wr.cell? ⟨w2.heap.size + 1, j, none⟩ = some (.int .u8 (m[j].toNat : Int))) := hC
    have hk1 : -1100 ≤ k := by omega
    have hk2 : k ≤ 1000 := by omega
    clear D1 D2 hB hC hs hp18 e19 b1 b2 b3
    by_cases hlt : i < m.length
    · have hcell := HC.out i hlt
      have hmi := HM.out m[i] (List.getElem_mem _)
      obtain ⟨x, hx⟩ : ∃ x : Nat, m[i].toNat = x := ⟨_, rfl⟩
      rw [hx] at hcell hmi
      have HX : Hid (m[i].toNat = x) := hx
      clear hx
      have hstep : (m.take (i + 1)).foldl mstep (0, E) = mstep (y, k) m[i] := by
        rw [List.take_succ_eq_append_getElem hlt, List.foldl_append, HS.out]; rfl
      have HST : Hid ((m.take (i + 1)).foldl mstep (0, E) = mstep (y, k) m[i]) := hstep
      clear hstep
      have hl' : decide ((i : Int) < (m.length : Int)) = true := by simp; omega
      by_cases h46 : x = 46
      · have hne : ((x : Int) != 46) = false := by simp; omega
        go_wp2_with fail
        refine ⟨⟨i + 1, hlt, by go_num, ?_, H2.out, HB.out, HC.out⟩, by simp [intOf]; omega⟩
        rw [HST.out]
        unfold mstep
        rw [if_pos (by rw [HX.out]; exact h46)]
        exact H1.out
      · have hne : ((x : Int) != 46) = true := by simp; omega
        have hx2 : 48 ≤ x ∧ x ≤ 57 := by omega
        have hyy : y < 1000000000000000000 := by
          have := (mfold_lt m E HM.out (i + 1) hlt).1
          have hp : 10 ^ (i + 1) ≤ 10 ^ 19 := Nat.pow_le_pow_right (by omega) (by omega)
          have e19 : (10 : Nat) ^ 19 = 10000000000000000000 := by decide
          rw [HST.out] at this
          unfold mstep at this
          rw [if_neg (by rw [HX.out]; exact h46)] at this
          simp only at this
          omega
        go_wp2_with fail
        refine ⟨⟨i + 1, hlt, by go_num, ?_, (H2.out.other _ _ (by simp; omega)).other _ _ (by simp; omega), (HB.out.setCell (by simp; omega) _).setCell (by simp; omega) _, ?_⟩, by simp [intOf]; omega⟩
        · rw [HST.out]
          unfold mstep
          rw [if_neg (by rw [HX.out]; exact h46), HX.out]
          exact H1.out.setI (by omega)
        · intro j hj
          rw [World.cell?_setCell_other _ _ _ _ (by simp), World.cell?_setCell_other _ _ _ _ (by simp)]
          exact HC.out j hj
    · obtain rfl : i = m.length := by omega
      have hl' : decide ((m.length : Int) < (m.length : Int)) = false := by simp
      have hfull : m.foldl mstep (0, E) = (y, k) := by have := HS.out; rw [List.take_length] at this; exact this
      have hpos : 0 < y := by have := HPOS.out; rw [hfull] at this; exact this
      have hrd : readN m E = trimN y (k + 1) := by unfold readN; rw [hfull]
      have HRD : Hid (readN m E = trimN y (k + 1)) := hrd
      obtain ⟨a, b, hab⟩ : ∃ a b, trimN y (k + 1) = (a, b) := ⟨_, _, rfl⟩
      have k28 : ∀ W : World, Calls Tryz.prog 28 #[.agg #[.int .u64 y, .int .i64 (k + 1)]] W fun e w' => e = .returned (.agg #[.int .u64 a, .int .i64 b]) ∧ Below W.heap.size W w' := fun W => by
        have := trimmed_walk y (k + 1) W hpos (by omega) (by omega) (by omega)
        rw [hab] at this
        exact this
      have K28 : Hid _ := k28
      have HAB : Hid (trimN y (k + 1) = (a, b)) := hab
      clear k28 hab hrd hfull
      go_upto_region 12 with fail
      have q0 : (wr.setCell ⟨w2.heap.size, 1, none⟩ (.int .i64 (k + 1))).cell? ⟨w2.heap.size, 1, none⟩ = some (.int .i64 (k + 1)) := by rw [Lib.cell_of_heap (setD_heap 1 _ H1.out)]; rfl
      go_wp2_with (go_at_call 28; refine (K28.out _).mono ?_; rintro e w5 ⟨rfl, hB5⟩; have D5 : Hid (DecIn w5 w.heap.size 0 0) := (H2.out.other _ _ (by simp; omega)).below hB5 (by simp; exact block_lt H2.out.c0); have B5 : Hid (Below w.heap.size w w5) := (HB.out.setCell (by simp; omega) _).trans (hB5.mono (by simp; exact HB.out.size)); have g0 := D5.out.c0; have g1 := D5.out.c1; have g2 := D5.out.f0; have g3 := D5.out.f1; clear hB5)
      have r0 := D5.out.ret0 (.int .u64 a)
      have r1 := D5.out.ret1 (.int .u64 a) (.int .i64 b)
      refine bodyPost_ret (v := .agg #[.int .u64 a, .int .i64 b]) (by simp [results, Tryz.results13, go_sem, Tryz.isAgg31, Tryz.sizeOf31, r0, r1, Result.andThen]) rfl ?_
      refine ⟨?_, (B5.out.setCell (by simp) _).setCell (by simp) _⟩
      rw [HRD.out, HAB.out]
end Go.Proofs.Qxb6606417aGreatDoor
