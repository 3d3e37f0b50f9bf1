import Derived.Test.Qxb6606417aGreatDoorWalkBu
import Derived.Test.Qxb6606417aGreatDoorWalkI
namespace Go.Proofs.Qxb6606417aGreatDoor
open Go.RowKit Go.PlainAid
set_option linter.unusedVariables false
set_option linter.unusedSimpArgs false
set_option maxRecDepth 100000

set_option maxHeartbeats 1000000 in
theorem newNum_core (s : ByteArray) (k sc : Int) (n : Nat) (w : World) (hn : s.size = n) (hn0 : 0 < n) (hn1 : n ≤ 100) (hk1 : -1000 ≤ k) (hk2 : k ≤ 1000) (hs1 : 0 ≤ sc) (hs2 : sc ≤ 1000) (hcut : -sc - k ≤ 0) (hem : s.toList.isEmpty = false)
    (k31 : ∀ W : World, Calls Tryz.prog 31 #[.string s, .string ⟨#[48]⟩] W fun e w' => e = .returned (.string s) ∧ W = w') (k32 : ∀ W : World, Calls Tryz.prog 32 #[.string s, .string ⟨#[48]⟩] W fun e w' => e = .returned (.string s) ∧ W = w') :
    Calls Tryz.prog 17 #[.bool false, .string s, .int .i64 k, .int .i64 sc] w fun e w' => e = .returned (.agg #[.bool false, .string s, .int .i64 k, .int .i64 sc]) ∧ Below w.heap.size w w' := by
  have K31 : Hid _ := k31
  have K32 : Hid _ := k32
  have hc : decide (-sc - k > 0) = false := decide_eq_false (by omega)
  have hkk : k + (n : Int) - (n : Int) = k := by omega
  clear k31 k32
  go_enter Tryz.func17, Tryz.ntmps17
  go_wp2_with (first
    | (go_at_call 31; refine (K31.out _).mono ?_; rintro e w' ⟨rfl, hw⟩; subst hw)
    | (go_at_call 32; refine (K32.out _).mono ?_; rintro e w' ⟨rfl, hw⟩; subst hw))
  go_returns
  exact ⟨rfl, (Below.refl _ _).alloc (Nat.le_refl _) _⟩
theorem ba_toList (L : List UInt8) : (ByteArray.mk L.toArray).toList = L := by simp
theorem trimL_same (L : List UInt8) (c : UInt8) (r : List UInt8) (h : L = c :: r) (hc : c ≠ 48) : Lib.trimLeftB L 48 = L := by
  unfold Lib.trimLeftB
  rw [h, List.dropWhile_cons_of_neg (by simp [hc])]
theorem trimR_same (L M : List UInt8) (c : UInt8) (h : L = M ++ [c]) (hc : c ≠ 48) : Lib.trimRightB L 48 = L := by
  unfold Lib.trimRightB
  rw [h, List.reverse_append]
  show (List.dropWhile _ (c :: M.reverse)).reverse = _
  rw [List.dropWhile_cons_of_neg (by simp [hc])]
  simp
/-- NewNumeric of a decimal's digits. -/
theorem newNum_walk (x : Nat) (k sc : Int) (w : World) (hx0 : 0 < x) (hx1 : x < 1000000000000000000) (hl : x % 10 ≠ 0) (hk1 : -1000 ≤ k) (hk2 : k ≤ 1000) (hs1 : 0 ≤ sc) (hs2 : sc ≤ 1000) (hcut : -sc - k ≤ 0) :
    Calls Tryz.prog 17 #[.bool false, .string ⟨(Lib.decDigits x).toArray⟩, .int .i64 k, .int .i64 sc] w fun e w' => e = .returned (.agg #[.bool false, .string ⟨(Lib.decDigits x).toArray⟩, .int .i64 k, .int .i64 sc]) ∧ Below w.heap.size w w' := by
  have hlen := Lib.decDigits_length x
  have hnd := nDigits_lt (d := x) (n := 18) (by omega) (by omega)
  have hnp := Lib.nDigits_pos x
  have hsz : (ByteArray.mk (Lib.decDigits x).toArray).size = Lib.nDigits x := by rw [← hlen]; simp [ByteArray.size]
  obtain ⟨c, r, hcr, hc1, hc2⟩ := dec_first x x (Nat.le_refl _) hx0
  obtain ⟨M, d, hM, hd⟩ := dec_last hl
  refine newNum_core _ k sc (Lib.nDigits x) w hsz (by omega) (by omega) hk1 hk2 hs1 hs2 hcut ?_ (fun W => ?_) (fun W => ?_)
  · rw [ba_toList, hcr]; rfl
  · have := Tryz.strings_TrimLeft_one ⟨(Lib.decDigits x).toArray⟩ 48 (by decide) W
    rw [show (ByteArray.mk (Lib.decDigits x).toArray).data.toList = Lib.decDigits x from by simp, trimL_same _ c r hcr (by intro e; rw [e] at hc1; simp at hc1)] at this
    exact this.mono fun e w' h => ⟨h.1, h.2.symm⟩
  · have := Tryz.strings_TrimRight_one ⟨(Lib.decDigits x).toArray⟩ 48 (by decide) W (by omega)
    rw [show (ByteArray.mk (Lib.decDigits x).toArray).data.toList = Lib.decDigits x from by simp, trimR_same _ M d hM (by intro e; rw [e] at hd; simp at hd; omega)] at this
    exact this.mono fun e w' h => ⟨h.1, h.2.symm⟩
/-- What Numeric.String writes. -/
def plainTxt (L : List UInt8) (k sc : Int) : List UInt8 :=
  (if k + L.length ≤ 0 then [48] else []) ++ L.take (min (max (k + L.length) 0) L.length).toNat ++ List.replicate (max k 0).toNat 48 ++
    (if 0 < sc then [46] ++ List.replicate (max (-(k + L.length)) 0).toNat 48 ++ L.drop (min (max (k + L.length) 0) L.length).toNat ++ List.replicate (sc - max (-k) 0).toNat 48 else [])
theorem BuAt.later {B b : Nat} {p : Value} {bs : List Value} {W W' : World} (h : Lib.BuilderAt 60 5 B b p bs W) (hb : Below W.heap.size W W') : Lib.BuilderAt 60 5 B b p bs W' := by
  obtain ⟨h1, v, h2, h3, h4⟩ := h
  have lt : ∀ {g : Nat} {o : Obj}, W.heap[g]? = some o → g < W.heap.size := fun {g o} hg => by
    rcases Nat.lt_or_ge g W.heap.size with h5 | h5
    · exact h5
    · rw [Array.getElem?_eq_none h5] at hg; cases hg
  refine ⟨h1, v, by rw [hb.block b (lt h2)]; exact h2, ⟨h3.1, ?_⟩, h4⟩
  rcases h3.2 with h5 | ⟨g, cap, cur, e1, e2, e3, e4⟩
  · exact .inl h5
  · exact .inr ⟨g, cap, cur, e1, e2, by rw [hb.block g (lt e3)]; exact e3, e4⟩
/-- The builder in the block behind the box, with these bytes. -/
structure BSt (w : World) (o : Obj) (bs : List UInt8) (W : World) : Prop where
  is : Lib.IsBuilder 60 5 (w.heap.size + 1) (w.heap.size + 1) (bytesV bs) W
  bel : Below (w.heap.size + 1) (w.alloc o) W
  siz : w.heap.size + 1 ≤ W.heap.size
theorem BSt.below {w W W' : World} {o : Obj} {bs : List UInt8} (h : BSt w o bs W) (hb : Below W.heap.size W W') : BSt w o bs W' :=
  ⟨by rcases h.is with a | a; · exact .inl (BuAt.later a hb)
      · exact .inr (BuAt.later a hb), h.bel.trans (hb.mono h.siz), Nat.le_trans h.siz hb.size⟩
theorem BSt.byte {w W : World} {o : Obj} {bs : List UInt8} (h : BSt w o bs W) (c : UInt8) (x : Int) (hx : byteV c = .int .u8 x) (hl : bs.length ≤ 50000) : Calls Tryz.prog 33 #[.pointer (some ⟨w.heap.size + 1, 0, none⟩), .int .u8 x] W fun e w' => e = .returned .nilIface ∧ BSt w o (bs ++ [c]) w' := by
  refine (writeByte_walk (w.heap.size + 1) (w.heap.size + 1) (bytesV bs) x W h.is (by rw [bytesV_len]; omega) h.siz).mono ?_
  rintro e w' ⟨rfl, hb, hB⟩
  refine ⟨rfl, .inr ?_, h.bel.trans hB, Nat.le_trans h.siz hB.size⟩
  rw [bytesV_app]
  have : bytesV [c] = [.int .u8 x] := by rw [← hx]; rfl
  rw [this]
  exact hb
theorem strCells_mk (l : List UInt8) : Lib.strCells ⟨l.toArray⟩ = bytesV l := by simp [Lib.strCells, bytesV, byteV]
theorem BSt.str {w W : World} {o : Obj} {bs : List UInt8} (h : BSt w o bs W) (l : List UInt8) (hl : bs.length + l.length ≤ 50000) : Calls Tryz.prog 34 #[.pointer (some ⟨w.heap.size + 1, 0, none⟩), .string ⟨l.toArray⟩] W fun e w' => (∃ r, e = .returned (.tuple #[.int .i64 r, .nilIface])) ∧ BSt w o (bs ++ l) w' := by
  refine (writeString_walk (w.heap.size + 1) (w.heap.size + 1) (bytesV bs) ⟨l.toArray⟩ W h.is (by rw [bytesV_len]; show bs.length + l.toArray.size ≤ _; simp; omega) h.siz).mono ?_
  rintro e w' ⟨rfl, hb, hB⟩
  refine ⟨⟨_, rfl⟩, .inr ?_, h.bel.trans hB, Nat.le_trans h.siz hB.size⟩
  rw [bytesV_app, ← strCells_mk l]
  exact hb
theorem repeat_zero : ∀ c, Lib.repeatL [48] c = List.replicate c (48 : UInt8)
  | 0 => rfl
  | c + 1 => by
    have := repeat_zero c
    simp [Lib.repeatL] at this ⊢
    simp [List.replicate_succ, this]
theorem BSt.rep {w W : World} {o : Obj} {bs : List UInt8} (h : BSt w o bs W) (c : Nat) (hc : c ≤ 10000) : Calls Tryz.prog 35 #[.string ⟨#[48]⟩, .int .i64 c] W fun e w' => e = .returned (.string ⟨(List.replicate c (48 : UInt8)).toArray⟩) ∧ BSt w o bs w' := by
  have := Tryz.strings_Repeat ⟨#[48]⟩ c W (by omega) (by show 1 * c ≤ _; omega)
  rw [show (ByteArray.mk #[48]).data.toList = [48] from rfl, repeat_zero] at this
  refine this.mono ?_
  rintro e w' ⟨rfl, hB⟩
  exact ⟨rfl, h.below hB⟩
theorem BSt.out {w W : World} {o : Obj} {bs : List UInt8} (h : BSt w o bs W) : Calls Tryz.prog 36 #[.pointer (some ⟨w.heap.size + 1, 0, none⟩)] W fun e w' => e = .returned (.string ⟨bs.toArray⟩) ∧ Below w.heap.size w w' := by
  refine (Tryz.Builder_String_any (w.heap.size + 1) (w.heap.size + 1) bs W h.is h.siz).mono ?_
  rintro e w' ⟨rfl, hB⟩
  exact ⟨rfl, ((Below.refl _ _).alloc (Nat.le_refl _) _).trans ((h.bel.trans hB).mono (by omega))⟩
set_option maxHeartbeats 2000000 in
theorem numStr_walk (L : List UInt8) (k sc : Int) (w : World) (hn : 1 ≤ L.length) (hn2 : L.length ≤ 100) (hk1 : -1000 ≤ k) (hk2 : k ≤ 1000) (hsc : sc = max (-k) 0) :
    Calls Tryz.prog 18 #[.agg #[.bool false, .string ⟨L.toArray⟩, .int .i64 k, .int .i64 sc]] w fun e w' => e = .returned (.string ⟨(plainTxt L k sc).toArray⟩) ∧ Below w.heap.size w w' := by
  obtain ⟨s, hs⟩ : ∃ s : ByteArray, s = ⟨L.toArray⟩ := ⟨_, rfl⟩
  have hsz : s.size = L.length := by rw [hs]; simp [ByteArray.size]
  rw [← hs]
  obtain ⟨n, hnn⟩ : ∃ n, L.length = n := ⟨_, rfl⟩
  rw [hnn] at hn hn2 hsz
  obtain ⟨sp, hsp⟩ : ∃ sp : Nat, min (max (k + (n : Int)) 0) (n : Int) = sp := ⟨(min (max (k + (n : Int)) 0) (n : Int)).toNat, by omega⟩
  have hspn : sp ≤ n := by omega
  have h0 : BSt w (.cells #[.bool false, .string s, .int .i64 k, .int .i64 sc] 42) [] ((w.alloc (.cells #[.bool false, .string s, .int .i64 k, .int .i64 sc] 42)).alloc (.cells #[.pointer none, .slice none 0 0] 60)) := by
    refine ⟨?_, (Below.refl _ _).alloc (by simp) _, by simp⟩
    have := Lib.fresh_isBuilder 60 5 (w.alloc (.cells #[.bool false, .string s, .int .i64 k, .int .i64 sc] 42))
    show Lib.IsBuilder 60 5 _ _ [] _
    simpa using this
  have H0 : Hid (BSt w (.cells #[.bool false, .string s, .int .i64 k, .int .i64 sc] 42) [] ((w.alloc (.cells #[.bool false, .string s, .int .i64 k, .int .i64 sc] 42)).alloc (.cells #[.pointer none, .slice none 0 0] 60))) := h0
  clear h0
  have HC : Hid (∀ (bs : List UInt8) (W : World), BSt w (.cells #[.bool false, .string s, .int .i64 k, .int .i64 sc] 42) bs W → W.cell? ⟨w.heap.size, 1, none⟩ = some (.string s) ∧ W.cell? ⟨w.heap.size, 2, none⟩ = some (.int .i64 k) ∧ W.cell? ⟨w.heap.size, 3, none⟩ = some (.int .i64 sc)) := fun bs W h => by
    have hb : W.heap[w.heap.size]? = some (.cells #[.bool false, .string s, .int .i64 k, .int .i64 sc] 42) := by rw [h.bel.block w.heap.size (by omega)]; exact heap_new' w _
    exact ⟨by rw [Lib.cell_of_heap hb]; rfl, by rw [Lib.cell_of_heap hb]; rfl, by rw [Lib.cell_of_heap hb]; rfl⟩
  have hx1 : s.extract 0 sp = ⟨(L.take sp).toArray⟩ := by
    rw [hs]; apply ByteArray.ext; simp [ByteArray.extract, ByteArray.copySlice]
  have hx2 : s.extract sp n = ⟨(L.drop sp).toArray⟩ := by
    rw [hs]; apply ByteArray.ext; simp [ByteArray.extract, ByteArray.copySlice, hnn]
    rw [List.take_of_length_le (by simp; omega)]
  have hlt : (L.take sp).length ≤ 100 := by simp; omega
  have hld : (L.drop sp).length ≤ 100 := by simp; omega
  obtain ⟨r1, hr1⟩ : ∃ r : Nat, max k 0 = r := ⟨(max k 0).toNat, by omega⟩
  obtain ⟨r2, hr2⟩ : ∃ r : Nat, max (-(k + (n : Int))) 0 = r := ⟨(max (-(k + (n : Int))) 0).toNat, by omega⟩
  have hr1' := hr1
  have hr2' := hr2
  have hm3 : max (-k) 0 = sc := hsc.symm
  have hr3 : sc - max (-k) 0 = 0 := by omega
  have hr1l : r1 ≤ 1000 := by omega
  have hr2l : r2 ≤ 1000 := by omega
  have hz : sc - sc = 0 := by omega
  clear hs
  by_cases hk : 0 ≤ k
  · have hifa : ¬ (k + (n : Int) ≤ 0) := by omega
    have hifb : ¬ (0 < sc) := by omega
    have g1 : decide (k + (n : Int) ≤ 0) = false := decide_eq_false hifa
    have g2 : decide (sc > 0) = false := decide_eq_false hifb
    have HT : Hid (plainTxt L k sc = [] ++ (L.take sp) ++ (List.replicate r1 48)) := by
      refine Lib.hid ?_
      unfold plainTxt
      rw [hnn, hsp, hr1', hr2', hr3]
      simp only [Int.toNat_natCast, Int.toNat_zero, if_neg hifa, if_neg hifb]
      simp
    clear hnn hr1' hr2' hsc hr3
    go_enter Tryz.func18, Tryz.ntmps18
    go_upto_region 9 with (go_at_call 34; refine (H0.out.str (L.take sp) (by simp only [List.length_append, List.length_cons, List.length_nil, List.length_replicate]; omega)).mono ?_; rintro e w1 ⟨⟨rr1, rfl⟩, hS⟩; have H1 : Hid (BSt w (.cells #[.bool false, .string s, .int .i64 k, .int .i64 sc] 42) ([] ++ (L.take sp)) w1) := hS; clear hS; have ca1 := (HC.out _ _ H1.out).1; have cb1 := (HC.out _ _ H1.out).2.1; have cc1 := (HC.out _ _ H1.out).2.2)
    go_upto_region 10 with (first | (go_at_call 35; refine (H1.out.rep r1 (by omega)).mono ?_; rintro e w2 ⟨rfl, hS⟩; have H2 : Hid (BSt w (.cells #[.bool false, .string s, .int .i64 k, .int .i64 sc] 42) ([] ++ (L.take sp)) w2) := hS; clear hS; have ca2 := (HC.out _ _ H2.out).1; have cb2 := (HC.out _ _ H2.out).2.1; have cc2 := (HC.out _ _ H2.out).2.2) | (go_at_call 34; refine (H2.out.str (List.replicate r1 48) (by simp only [List.length_append, List.length_cons, List.length_nil, List.length_replicate]; omega)).mono ?_; rintro e w3 ⟨⟨rr3, rfl⟩, hS⟩; have H3 : Hid (BSt w (.cells #[.bool false, .string s, .int .i64 k, .int .i64 sc] 42) ([] ++ (L.take sp) ++ (List.replicate r1 48)) w3) := hS; clear hS; have ca3 := (HC.out _ _ H3.out).1; have cb3 := (HC.out _ _ H3.out).2.1; have cc3 := (HC.out _ _ H3.out).2.2))
    go_wp2_with (go_at_call 36; refine H3.out.out.mono ?_; rintro e wz ⟨rfl, hB⟩; have BZ : Hid (Below w.heap.size w wz) := hB; clear hB)
    go_ret
    refine ⟨?_, BZ.out⟩
    rw [HT.out]
    first | rfl | simp
  · have hifb : 0 < sc := by omega
    have g2 : decide (sc > 0) = true := decide_eq_true hifb
    by_cases hl : k + (n : Int) ≤ 0
    · have hifa : k + (n : Int) ≤ 0 := hl
      have g1 : decide (k + (n : Int) ≤ 0) = true := decide_eq_true hl
      have HT : Hid (plainTxt L k sc = [] ++ [48] ++ (L.take sp) ++ (List.replicate r1 48) ++ [46] ++ (List.replicate r2 48) ++ (L.drop sp) ++ (List.replicate 0 48)) := by
        refine Lib.hid ?_
        unfold plainTxt
        rw [hnn, hsp, hr1', hr2', hr3]
        simp only [Int.toNat_natCast, Int.toNat_zero, if_pos hifa, if_pos hifb]
        simp
      clear hnn hr1' hr2' hsc hr3
      go_enter Tryz.func18, Tryz.ntmps18
      go_upto_region 8 with (go_at_call 33; refine (H0.out.byte 48 48 rfl (by simp only [List.length_append, List.length_cons, List.length_nil, List.length_replicate]; omega)).mono ?_; rintro e w1 ⟨rfl, hS⟩; have H1 : Hid (BSt w (.cells #[.bool false, .string s, .int .i64 k, .int .i64 sc] 42) ([] ++ [48]) w1) := hS; clear hS; have ca1 := (HC.out _ _ H1.out).1; have cb1 := (HC.out _ _ H1.out).2.1; have cc1 := (HC.out _ _ H1.out).2.2)
      go_upto_region 9 with (go_at_call 34; refine (H1.out.str (L.take sp) (by simp only [List.length_append, List.length_cons, List.length_nil, List.length_replicate]; omega)).mono ?_; rintro e w2 ⟨⟨rr2, rfl⟩, hS⟩; have H2 : Hid (BSt w (.cells #[.bool false, .string s, .int .i64 k, .int .i64 sc] 42) ([] ++ [48] ++ (L.take sp)) w2) := hS; clear hS; have ca2 := (HC.out _ _ H2.out).1; have cb2 := (HC.out _ _ H2.out).2.1; have cc2 := (HC.out _ _ H2.out).2.2)
      go_upto_region 10 with (first | (go_at_call 35; refine (H2.out.rep r1 (by omega)).mono ?_; rintro e w3 ⟨rfl, hS⟩; have H3 : Hid (BSt w (.cells #[.bool false, .string s, .int .i64 k, .int .i64 sc] 42) ([] ++ [48] ++ (L.take sp)) w3) := hS; clear hS; have ca3 := (HC.out _ _ H3.out).1; have cb3 := (HC.out _ _ H3.out).2.1; have cc3 := (HC.out _ _ H3.out).2.2) | (go_at_call 34; refine (H3.out.str (List.replicate r1 48) (by simp only [List.length_append, List.length_cons, List.length_nil, List.length_replicate]; omega)).mono ?_; rintro e w4 ⟨⟨rr4, rfl⟩, hS⟩; have H4 : Hid (BSt w (.cells #[.bool false, .string s, .int .i64 k, .int .i64 sc] 42) ([] ++ [48] ++ (L.take sp) ++ (List.replicate r1 48)) w4) := hS; clear hS; have ca4 := (HC.out _ _ H4.out).1; have cb4 := (HC.out _ _ H4.out).2.1; have cc4 := (HC.out _ _ H4.out).2.2))
      go_upto_region 12 with (go_at_call 33; refine (H4.out.byte 46 46 rfl (by simp only [List.length_append, List.length_cons, List.length_nil, List.length_replicate]; omega)).mono ?_; rintro e w5 ⟨rfl, hS⟩; have H5 : Hid (BSt w (.cells #[.bool false, .string s, .int .i64 k, .int .i64 sc] 42) ([] ++ [48] ++ (L.take sp) ++ (List.replicate r1 48) ++ [46]) w5) := hS; clear hS; have ca5 := (HC.out _ _ H5.out).1; have cb5 := (HC.out _ _ H5.out).2.1; have cc5 := (HC.out _ _ H5.out).2.2)
      go_upto_region 13 with (first | (go_at_call 35; refine (H5.out.rep r2 (by omega)).mono ?_; rintro e w6 ⟨rfl, hS⟩; have H6 : Hid (BSt w (.cells #[.bool false, .string s, .int .i64 k, .int .i64 sc] 42) ([] ++ [48] ++ (L.take sp) ++ (List.replicate r1 48) ++ [46]) w6) := hS; clear hS; have ca6 := (HC.out _ _ H6.out).1; have cb6 := (HC.out _ _ H6.out).2.1; have cc6 := (HC.out _ _ H6.out).2.2) | (go_at_call 34; refine (H6.out.str (List.replicate r2 48) (by simp only [List.length_append, List.length_cons, List.length_nil, List.length_replicate]; omega)).mono ?_; rintro e w7 ⟨⟨rr7, rfl⟩, hS⟩; have H7 : Hid (BSt w (.cells #[.bool false, .string s, .int .i64 k, .int .i64 sc] 42) ([] ++ [48] ++ (L.take sp) ++ (List.replicate r1 48) ++ [46] ++ (List.replicate r2 48)) w7) := hS; clear hS; have ca7 := (HC.out _ _ H7.out).1; have cb7 := (HC.out _ _ H7.out).2.1; have cc7 := (HC.out _ _ H7.out).2.2))
      go_upto_region 14 with (go_at_call 34; refine (H7.out.str (L.drop sp) (by simp only [List.length_append, List.length_cons, List.length_nil, List.length_replicate]; omega)).mono ?_; rintro e w8 ⟨⟨rr8, rfl⟩, hS⟩; have H8 : Hid (BSt w (.cells #[.bool false, .string s, .int .i64 k, .int .i64 sc] 42) ([] ++ [48] ++ (L.take sp) ++ (List.replicate r1 48) ++ [46] ++ (List.replicate r2 48) ++ (L.drop sp)) w8) := hS; clear hS; have ca8 := (HC.out _ _ H8.out).1; have cb8 := (HC.out _ _ H8.out).2.1; have cc8 := (HC.out _ _ H8.out).2.2)
      go_upto_region 15 with (first | (go_at_call 35; refine (H8.out.rep 0 (by omega)).mono ?_; rintro e w9 ⟨rfl, hS⟩; have H9 : Hid (BSt w (.cells #[.bool false, .string s, .int .i64 k, .int .i64 sc] 42) ([] ++ [48] ++ (L.take sp) ++ (List.replicate r1 48) ++ [46] ++ (List.replicate r2 48) ++ (L.drop sp)) w9) := hS; clear hS; have ca9 := (HC.out _ _ H9.out).1; have cb9 := (HC.out _ _ H9.out).2.1; have cc9 := (HC.out _ _ H9.out).2.2) | (go_at_call 34; refine (H9.out.str (List.replicate 0 48) (by simp only [List.length_append, List.length_cons, List.length_nil, List.length_replicate]; omega)).mono ?_; rintro e w10 ⟨⟨rr10, rfl⟩, hS⟩; have H10 : Hid (BSt w (.cells #[.bool false, .string s, .int .i64 k, .int .i64 sc] 42) ([] ++ [48] ++ (L.take sp) ++ (List.replicate r1 48) ++ [46] ++ (List.replicate r2 48) ++ (L.drop sp) ++ (List.replicate 0 48)) w10) := hS; clear hS; have ca10 := (HC.out _ _ H10.out).1; have cb10 := (HC.out _ _ H10.out).2.1; have cc10 := (HC.out _ _ H10.out).2.2))
      go_wp2_with (go_at_call 36; refine H10.out.out.mono ?_; rintro e wz ⟨rfl, hB⟩; have BZ : Hid (Below w.heap.size w wz) := hB; clear hB)
      go_ret
      refine ⟨?_, BZ.out⟩
      rw [HT.out]
      first | rfl | simp
    · have hifa : ¬ (k + (n : Int) ≤ 0) := hl
      have g1 : decide (k + (n : Int) ≤ 0) = false := decide_eq_false hl
      have HT : Hid (plainTxt L k sc = [] ++ (L.take sp) ++ (List.replicate r1 48) ++ [46] ++ (List.replicate r2 48) ++ (L.drop sp) ++ (List.replicate 0 48)) := by
        refine Lib.hid ?_
        unfold plainTxt
        rw [hnn, hsp, hr1', hr2', hr3]
        simp only [Int.toNat_natCast, Int.toNat_zero, if_neg hifa, if_pos hifb]
        simp
      clear hnn hr1' hr2' hsc hr3
      go_enter Tryz.func18, Tryz.ntmps18
      go_upto_region 9 with (go_at_call 34; refine (H0.out.str (L.take sp) (by simp only [List.length_append, List.length_cons, List.length_nil, List.length_replicate]; omega)).mono ?_; rintro e w1 ⟨⟨rr1, rfl⟩, hS⟩; have H1 : Hid (BSt w (.cells #[.bool false, .string s, .int .i64 k, .int .i64 sc] 42) ([] ++ (L.take sp)) w1) := hS; clear hS; have ca1 := (HC.out _ _ H1.out).1; have cb1 := (HC.out _ _ H1.out).2.1; have cc1 := (HC.out _ _ H1.out).2.2)
      go_upto_region 10 with (first | (go_at_call 35; refine (H1.out.rep r1 (by omega)).mono ?_; rintro e w2 ⟨rfl, hS⟩; have H2 : Hid (BSt w (.cells #[.bool false, .string s, .int .i64 k, .int .i64 sc] 42) ([] ++ (L.take sp)) w2) := hS; clear hS; have ca2 := (HC.out _ _ H2.out).1; have cb2 := (HC.out _ _ H2.out).2.1; have cc2 := (HC.out _ _ H2.out).2.2) | (go_at_call 34; refine (H2.out.str (List.replicate r1 48) (by simp only [List.length_append, List.length_cons, List.length_nil, List.length_replicate]; omega)).mono ?_; rintro e w3 ⟨⟨rr3, rfl⟩, hS⟩; have H3 : Hid (BSt w (.cells #[.bool false, .string s, .int .i64 k, .int .i64 sc] 42) ([] ++ (L.take sp) ++ (List.replicate r1 48)) w3) := hS; clear hS; have ca3 := (HC.out _ _ H3.out).1; have cb3 := (HC.out _ _ H3.out).2.1; have cc3 := (HC.out _ _ H3.out).2.2))
      go_upto_region 12 with (go_at_call 33; refine (H3.out.byte 46 46 rfl (by simp only [List.length_append, List.length_cons, List.length_nil, List.length_replicate]; omega)).mono ?_; rintro e w4 ⟨rfl, hS⟩; have H4 : Hid (BSt w (.cells #[.bool false, .string s, .int .i64 k, .int .i64 sc] 42) ([] ++ (L.take sp) ++ (List.replicate r1 48) ++ [46]) w4) := hS; clear hS; have ca4 := (HC.out _ _ H4.out).1; have cb4 := (HC.out _ _ H4.out).2.1; have cc4 := (HC.out _ _ H4.out).2.2)
      go_upto_region 13 with (first | (go_at_call 35; refine (H4.out.rep r2 (by omega)).mono ?_; rintro e w5 ⟨rfl, hS⟩; have H5 : Hid (BSt w (.cells #[.bool false, .string s, .int .i64 k, .int .i64 sc] 42) ([] ++ (L.take sp) ++ (List.replicate r1 48) ++ [46]) w5) := hS; clear hS; have ca5 := (HC.out _ _ H5.out).1; have cb5 := (HC.out _ _ H5.out).2.1; have cc5 := (HC.out _ _ H5.out).2.2) | (go_at_call 34; refine (H5.out.str (List.replicate r2 48) (by simp only [List.length_append, List.length_cons, List.length_nil, List.length_replicate]; omega)).mono ?_; rintro e w6 ⟨⟨rr6, rfl⟩, hS⟩; have H6 : Hid (BSt w (.cells #[.bool false, .string s, .int .i64 k, .int .i64 sc] 42) ([] ++ (L.take sp) ++ (List.replicate r1 48) ++ [46] ++ (List.replicate r2 48)) w6) := hS; clear hS; have ca6 := (HC.out _ _ H6.out).1; have cb6 := (HC.out _ _ H6.out).2.1; have cc6 := (HC.out _ _ H6.out).2.2))
      go_upto_region 14 with (go_at_call 34; refine (H6.out.str (L.drop sp) (by simp only [List.length_append, List.length_cons, List.length_nil, List.length_replicate]; omega)).mono ?_; rintro e w7 ⟨⟨rr7, rfl⟩, hS⟩; have H7 : Hid (BSt w (.cells #[.bool false, .string s, .int .i64 k, .int .i64 sc] 42) ([] ++ (L.take sp) ++ (List.replicate r1 48) ++ [46] ++ (List.replicate r2 48) ++ (L.drop sp)) w7) := hS; clear hS; have ca7 := (HC.out _ _ H7.out).1; have cb7 := (HC.out _ _ H7.out).2.1; have cc7 := (HC.out _ _ H7.out).2.2)
      go_upto_region 15 with (first | (go_at_call 35; refine (H7.out.rep 0 (by omega)).mono ?_; rintro e w8 ⟨rfl, hS⟩; have H8 : Hid (BSt w (.cells #[.bool false, .string s, .int .i64 k, .int .i64 sc] 42) ([] ++ (L.take sp) ++ (List.replicate r1 48) ++ [46] ++ (List.replicate r2 48) ++ (L.drop sp)) w8) := hS; clear hS; have ca8 := (HC.out _ _ H8.out).1; have cb8 := (HC.out _ _ H8.out).2.1; have cc8 := (HC.out _ _ H8.out).2.2) | (go_at_call 34; refine (H8.out.str (List.replicate 0 48) (by simp only [List.length_append, List.length_cons, List.length_nil, List.length_replicate]; omega)).mono ?_; rintro e w9 ⟨⟨rr9, rfl⟩, hS⟩; have H9 : Hid (BSt w (.cells #[.bool false, .string s, .int .i64 k, .int .i64 sc] 42) ([] ++ (L.take sp) ++ (List.replicate r1 48) ++ [46] ++ (List.replicate r2 48) ++ (L.drop sp) ++ (List.replicate 0 48)) w9) := hS; clear hS; have ca9 := (HC.out _ _ H9.out).1; have cb9 := (HC.out _ _ H9.out).2.1; have cc9 := (HC.out _ _ H9.out).2.2))
      go_wp2_with (go_at_call 36; refine H9.out.out.mono ?_; rintro e wz ⟨rfl, hB⟩; have BZ : Hid (Below w.heap.size w wz) := hB; clear hB)
      go_ret
      refine ⟨?_, BZ.out⟩
      rw [HT.out]
      first | rfl | simp
end Go.Proofs.Qxb6606417aGreatDoor
