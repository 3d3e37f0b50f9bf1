import Derived.Test.Qxb6609503aFmtWalkA
import Derived.Maps.Own
import Derived.Maps.OwnOps
import Derived.Maps.OwnSet
import Derived.Maps.Views
namespace Go.Proofs.Qxb6609503aFmt
open Go.RowKit Go.PlainAid Go.Maps
set_option linter.unusedVariables false

theorem law40 : Keyed Tryf.prog 40 := int_keyed Tryf.underlying40
theorem zero4 (w : World) : (zeroValue 4).run Tryf.prog w = .ok (.bool false) w := by kernel_rfl
theorem wf_u64 {n : Nat} (h : n < 18446744073709551616) : (Lit.int .u64 (n : Int)).wf = true := by
  exact WalkArith.wf_u64 ⟨by omega, by omega⟩
theorem elem_bool {P : Program} {e : TypeId} (he : P.underlying e = some .bool) {v : Value} {z : DataW Unit × List MemPlace} {x : Bool} (h : plainElem P e v = some z) (hz : z.1 = .lit (.bool x)) : v = .bool x := by
  unfold plainElem at h
  rw [he] at h
  cases v <;> simp at h
  subst h
  simp at hz
  rw [hz]
theorem Elems.below {w w' : World} {oa : Option Addr} {n : Nat} {f : Nat → Value} (h : Elems w oa n f) (hb : Below w.heap.size w w') : Elems w' oa n f := fun j hj => by
  obtain ⟨a, ha, hc⟩ := h j hj
  exact ⟨a, ha, cell_later hb hc⟩
theorem key_u64 {n : Nat} (h : n < 18446744073709551616) : keyOf Tryf.prog 40 (.int .u64 (n : Int)) = some (.int .u64 (n : Int)) := keyOf_int_mk Tryf.underlying40 (wf_u64 h)
theorem key_ne {m n : Nat} (h : m ≠ n) : (Lit.int .u64 (m : Int)) ≠ .int .u64 (n : Int) := by
  intro e
  injection e with _ e
  exact h (by omega)

/-- The operations, as the three slices tell them. -/
def opAt (ks ns : Nat → Nat) (ss : Nat → ByteArray) (j : Nat) : Pl.Op3 := ⟨ks j, ns j, (ss j).data.toList⟩
def opsL (n : Nat) (ks ns : Nat → Nat) (ss : Nat → ByteArray) : List Pl.Op3 := (List.range n).map (opAt ks ns ss)
theorem opsL_len (n : Nat) (ks ns : Nat → Nat) (ss : Nat → ByteArray) : (opsL n ks ns ss).length = n := by simp [opsL]
theorem opsL_at {n : Nat} {ks ns : Nat → Nat} {ss : Nat → ByteArray} {i : Nat} (h : i < n) : (opsL n ks ns ss)[i]? = some (opAt ks ns ss i) := by
  simp [opsL, h]
theorem opsL_take_succ {n : Nat} {ks ns : Nat → Nat} {ss : Nat → ByteArray} {i : Nat} (h : i < n) : (opsL n ks ns ss).take (i + 1) = (opsL n ks ns ss).take i ++ [opAt ks ns ss i] := Pl.take_snoc (opsL_at h)

def sumTo (ss : Nat → ByteArray) : Nat → Nat
  | 0 => 0
  | n + 1 => sumTo ss n + (ss n).size

/-- The map of the ended transactions. -/
def EndedMap (D : DataW Unit) (l : List Nat) : Prop := IsMap D ∧ ∀ n : Nat, D.atKey (.int .u64 (n : Int)) (.lit (.bool false)) = .lit (.bool (decide (n ∈ l)))
theorem EndedMap.init : EndedMap (.map []) [] := ⟨isMap_empty, fun n => rfl⟩
theorem EndedMap.put {D : DataW Unit} {l : List Nat} (h : EndedMap D l) (m : Nat) : EndedMap (D.put (.int .u64 (m : Int)) (.lit (.bool true))) (l ++ [m]) := by
  refine ⟨h.1.put _ _, fun n => ?_⟩
  by_cases e : n = m
  · subst e
    rw [atKey_put_same h.1 (show WideAt.IsKeyLit (.int .u64 (n : Int)) from trivial)]; simp
  · rw [atKey_put_other (key_ne e), h.2 n]; simp [e]

theorem EndedMap.look {wr : World} {D : DataW Unit} {l : List Nat} {B k nn : Nat} (hown : wr.ownsMap Tryf.prog 40 (plainElem Tryf.prog 4) B k D) (hD : EndedMap D l) (hn : nn < 18446744073709551616) :
    (Instr.lookup 46 (.map (some B)) (.int .u64 (nn : Int)) false).run Tryf.prog wr = .ok (.bool (decide (nn ∈ l))) wr := by
  obtain ⟨v, ps, hrun, hv⟩ := hown.lookup law40 Tryf.underlying46 (zero4 _) (plainElem_bool Tryf.underlying4 false) (key_u64 hn)
  rw [hrun, elem_bool Tryf.underlying4 hv (hD.2 nn)]
def AllI (s : ByteArray) (p : Nat) : Prop := ∀ b ∈ s.data.toList.take p, Pl.itemB b = true
theorem AllI.step {s : ByteArray} {p : Nat} (h : AllI s p) (hp : p < s.size) (hb : Pl.itemB s[p] = true) : AllI s (p + 1) := by
  intro b hm
  have e : s.data.toList.take (p + 1) = s.data.toList.take p ++ [s[p]] := by
    rw [List.take_succ_eq_append_getElem (by simpa using hp)]; rfl
  rw [e] at hm
  rcases List.mem_append.1 hm with hm | hm
  · exact h b hm
  · rw [List.mem_singleton.1 hm]; exact hb

/-- What writtenOpsWithin answers. -/
structure Within (n1 n2 n3 : Nat) (ks ns : Nat → Nat) (ss : Nat → ByteArray) : Prop where
  e2 : n2 = n1
  e3 : n3 = n1
  n16 : n1 ≤ 65536
  tot : 25 * n1 + sumTo ss n1 ≤ 1048576
  good : Pl.Good (opsL n1 ks ns ss) n1
def WithinPost (n1 n2 n3 : Nat) (ks ns : Nat → Nat) (ss : Nat → ByteArray) (w : World) (e : Ending) (w' : World) : Prop :=
  ∃ r, e = .returned (.bool r) ∧ Below w.heap.size w w' ∧ (r = true → Within n1 n2 n3 ks ns ss)
theorem within_no {n1 n2 n3 : Nat} {ks ns : Nat → Nat} {ss : Nat → ByteArray} {w w' : World} (h : Below w.heap.size w w') : WithinPost n1 n2 n3 ks ns ss w (.returned (.bool false)) w' := ⟨false, rfl, h, fun h => by cases h⟩

theorem ended_snoc (l : List Pl.Op3) (o : Pl.Op3) : Pl.endedOf (l ++ [o]) = Pl.endedOf l ++ (if 3 ≤ o.k then [o.n] else []) := by
  unfold Pl.endedOf
  rw [List.filter_append, List.map_append]
  by_cases h : 3 ≤ o.k <;> simp [h]

set_option maxHeartbeats 2000000 in
set_option maxRecDepth 100000 in
theorem within_any (oa ob oc : Option Addr) (n1 n2 n3 c1 c2 c3 : Nat) (ks ns : Nat → Nat) (ss : Nat → ByteArray) (w : World) (h1 : n1 ≤ maxLen) (h2 : n2 ≤ maxLen) (h3 : n3 ≤ maxLen)
    (hk : ∀ j, ks j < 256) (hn : ∀ j, ns j < 18446744073709551616) (hs : ∀ j, (ss j).size ≤ maxLen)
    (ha : Elems w oa n1 (fun j => .int .u8 (ks j))) (hb : Elems w ob n2 (fun j => .int .u64 (ns j))) (hc : Elems w oc n3 (fun j => .string (ss j))) :
    Calls Tryf.prog 5 #[.slice oa n1 c1, .slice ob n2 c2, .slice oc n3 c3] w fun e w' => WithinPost n1 n2 n3 ks ns ss w e w' := by
  unfold maxLen at h1 h2 h3 hs
  have HA : Hid (Elems w oa n1 (fun j => .int .u8 (ks j))) := ha
  have HB : Hid (Elems w ob n2 (fun j => .int .u64 (ns j))) := hb
  have HC : Hid (Elems w oc n3 (fun j => .string (ss j))) := hc
  clear ha hb hc
  by_cases g1 : n1 ≤ 65536
  case neg =>
    go_enter Tryf.func5, Tryf.ntmps5
    go_wp2
    all_goals go_ret
    all_goals exact within_no (Below.refl _ _)
  by_cases g2 : n2 ≤ 65536
  case neg =>
    go_enter Tryf.func5, Tryf.ntmps5
    go_wp2
    all_goals go_ret
    all_goals exact within_no (Below.refl _ _)
  by_cases g3 : n3 ≤ 65536
  case neg =>
    go_enter Tryf.func5, Tryf.ntmps5
    go_wp2
    all_goals go_ret
    all_goals exact within_no (Below.refl _ _)
  go_enter Tryf.func5, Tryf.ntmps5
  go_wp2
  go_loop [7, 8] (fun z i => ∃ m k : Nat, k ≤ n3 ∧ m ≤ 1638400 ∧ m = n1 + 8 * n2 + 16 * n3 + sumTo ss k ∧ z = .int .i64 m ∧ i = .int .i64 k) (fun _ i => n3 - (intOf i).toNat)
  case atStart => exact ⟨n1 + 8 * n2 + 16 * n3, 0, Nat.zero_le _, by omega, rfl, by go_num, rfl⟩
  case round =>
    obtain ⟨m, k, hk3, hm, hmm, rfl, rfl⟩ := hrel
    by_cases hlt : k < n3
    · obtain ⟨ac, rfl, hcell⟩ := HC.out k hlt
      have hsz := hs k
      replace hcell : w.cell? (ac.add k) = some (.string (ss k)) := hcell
      have hst : sumTo ss (k + 1) = sumTo ss k + (ss k).size := rfl
      generalize ss k = s at hcell hsz hst
      by_cases hs1 : s.size ≤ 1048576
      · by_cases hs2 : m + s.size ≤ 1048576
        · go_wp2
          go_round
          case rel => exact ⟨m + s.size, k + 1, by omega, by omega, by omega, by go_num, by go_num⟩
          case measure => simp [intOf]; omega
        · go_wp2
          go_ret
          exact within_no (Below.refl _ _)
      · go_wp2
        go_ret
        exact within_no (Below.refl _ _)
    · obtain rfl : k = n3 := by omega
      by_cases t1 : m ≤ 1048576
      case neg =>
        go_wp2
        go_ret
        exact within_no (Below.refl _ _)
      by_cases t2 : n2 = n1
      case neg =>
        have t2' : ((n2 : Int) == n1) = false := beq_eq_false_iff_ne.2 (by omega)
        go_wp2
        go_ret
        exact within_no (Below.refl _ _)
      subst t2
      by_cases t3 : k = n2
      case neg =>
        have t3' : ((k : Int) == n2) = false := beq_eq_false_iff_ne.2 (by omega)
        have t2' : ((n2 : Int) == n2) = true := beq_self_eq_true _
        have t4' : ((k : Int) != n2) = true := bne_iff_ne.2 (by omega)
        go_wp2
        go_ret
        exact within_no (Below.refl _ _)
      subst t3
      have t2' : ((k : Int) == k) = true := beq_self_eq_true _
      have hmm2 := @run_makeMap Tryf.prog
      have HT : Hid (25 * k + sumTo ss k ≤ 1048576) := by show _ ≤ _; omega
      clear hmm hk3 hlt
      go_wp2
      go_loopw [10] (fun i wr => ∃ (j : Nat) (D : DataW Unit), j ≤ k ∧ i = .int .i64 j ∧ Below w.heap.size w wr ∧ wr.ownsMap Tryf.prog 40 (plainElem Tryf.prog 4) w.heap.size j D ∧ EndedMap D (Pl.endedOf ((opsL k ks ns ss).take j)) ∧ Pl.Good (opsL k ks ns ss) j) (fun i _ => k - (intOf i).toNat)
      case atStart => exact ⟨0, .map [], Nat.zero_le _, rfl, (Below.refl _ w).alloc (Nat.le_refl _) _, World.ownsMap_made _ _ _ _, EndedMap.init, fun i hi => absurd hi (Nat.not_lt_zero _)⟩
      case round =>
        obtain ⟨j, D, hj, rfl, hbel, hown, hD, hG⟩ := hrel
        have HBel : Hid (Below w.heap.size w wr) := hbel
        have HOwn : Hid (wr.ownsMap Tryf.prog 40 (plainElem Tryf.prog 4) w.heap.size j D) := hown
        have HD : Hid (EndedMap D (Pl.endedOf ((opsL k ks ns ss).take j))) := hD
        have HG : Hid (Pl.Good (opsL k ks ns ss) j) := hG
        by_cases hlt : j < k
        case neg =>
          clear hbel hown hD hG
          obtain rfl : j = k := by omega
          go_wp2
          go_ret
          exact ⟨true, rfl, HBel.out, fun _ => ⟨rfl, rfl, g1, HT.out, HG.out⟩⟩
        obtain ⟨aa, rfl, q1⟩ := (HA.out.below hbel) j hlt
        obtain ⟨ab, rfl, q2⟩ := (HB.out.below hbel) j hlt
        obtain ⟨ac, rfl, q3⟩ := (HC.out.below hbel) j hlt
        have hlook := EndedMap.look hown hD (hn j)
        obtain ⟨w2, hupd, hown2, hgrow2⟩ := hown.update law40 Tryf.underlying46 (by unfold maxLen; omega) (key_u64 (hn j)) (plainElem_bool Tryf.underlying4 true)
        have HOwn2 : Hid (w2.ownsMap Tryf.prog 40 (plainElem Tryf.prog 4) w.heap.size (j + 1) (D.put (.int .u64 (ns j : Int)) (.lit (.bool true)))) := hown2
        have HGr : Hid (wr.grownBy w2 (some w.heap.size)) := hgrow2
        clear hbel hown hD hG hown2 hgrow2
        have hkj := hk j
        have hsj := hs j
        replace q1 : wr.cell? (aa.add j) = some (.int .u8 (ks j)) := q1
        replace q2 : wr.cell? (ab.add j) = some (.int .u64 (ns j)) := q2
        replace q3 : wr.cell? (ac.add j) = some (.string (ss j)) := q3
        obtain ⟨kk, hkk⟩ : ∃ kk, ks j = kk := ⟨_, rfl⟩
        obtain ⟨nn, hnn⟩ : ∃ nn, ns j = nn := ⟨_, rfl⟩
        obtain ⟨s, hss⟩ : ∃ s, ss j = s := ⟨_, rfl⟩
        have hop : opAt ks ns ss j = ⟨kk, nn, s.data.toList⟩ := by unfold opAt; rw [hkk, hnn, hss]
        have HOP : Hid (opAt ks ns ss j = ⟨kk, nn, s.data.toList⟩) := hop
        rw [hnn] at hlook hupd HOwn2
        rw [hkk] at q1 hkj
        rw [hnn] at q2
        rw [hss] at q3 hsj
        clear hop hkk hss
        have hnj : nn < 18446744073709551616 := hnn ▸ hn j
        clear hnn
        by_cases k1 : kk < 1
        · go_wp2
          go_ret
          exact within_no HBel.out
        by_cases k4 : 4 < kk
        · go_wp2
          go_ret
          exact within_no HBel.out
        by_cases n0 : nn = 0
        · have e : ((nn : Int) == 0) = true := beq_iff_eq.2 (by omega)
          go_wp2
          go_ret
          exact within_no HBel.out
        have n0' : ((nn : Int) == 0) = false := beq_eq_false_iff_ne.2 (by omega)
        by_cases hend : nn ∈ Pl.endedOf ((opsL k ks ns ss).take j)
        · rw [decide_eq_true hend] at hlook
          go_wp2
          go_ret
          exact within_no HBel.out
        rw [decide_eq_false hend] at hlook
        have HEnd : Hid (nn ∉ Pl.endedOf ((opsL k ks ns ss).take j)) := hend
        clear hend
        have hstep : (kk ≤ 2 → s.data.toList ≠ [] ∧ ∀ b ∈ s.data.toList, Pl.itemB b = true) → Pl.Good (opsL k ks ns ss) (j + 1) := by
          intro hit i hi o ho
          by_cases hij : i < j
          · exact HG.out i hij o ho
          · obtain rfl : i = j := by omega
            rw [opsL_at hlt, HOP.out] at ho
            obtain rfl := Option.some.inj ho
            exact ⟨⟨by show 1 ≤ kk; omega, by show kk ≤ 4; omega, by show 0 < nn; omega, hnj, hit⟩, HEnd.out⟩
        have HStep : Hid ((kk ≤ 2 → s.data.toList ≠ [] ∧ ∀ b ∈ s.data.toList, Pl.itemB b = true) → Pl.Good (opsL k ks ns ss) (j + 1)) := hstep
        clear hstep
        have hes : Pl.endedOf ((opsL k ks ns ss).take (j + 1)) = Pl.endedOf ((opsL k ks ns ss).take j) ++ (if 3 ≤ kk then [nn] else []) := by
          rw [opsL_take_succ hlt, HOP.out, ended_snoc]
        have HES : Hid (Pl.endedOf ((opsL k ks ns ss).take (j + 1)) = Pl.endedOf ((opsL k ks ns ss).take j) ++ (if 3 ≤ kk then [nn] else [])) := hes
        clear hes
        by_cases k3 : 3 ≤ kk
        · have hkk : kk = 3 ∨ kk = 4 := by omega
          have hend : ∃ (j' : Nat) (D : DataW Unit), j' ≤ k ∧ Value.int .i64 ((j : Int) + 1) = .int .i64 j' ∧ Below w.heap.size w w2 ∧ w2.ownsMap Tryf.prog 40 (plainElem Tryf.prog 4) w.heap.size j' D ∧ EndedMap D (Pl.endedOf ((opsL k ks ns ss).take j')) ∧ Pl.Good (opsL k ks ns ss) j' := by
            refine ⟨j + 1, _, hlt, by go_num, HBel.out.grown HGr.out HBel.out.size (fun i e => by cases e; exact Nat.le_refl _), HOwn2.out, ?_, HStep.out (fun h => by omega)⟩
            rw [HES.out, if_pos k3]
            exact HD.out.put nn
          have HE : Hid (∃ (j' : Nat) (D : DataW Unit), j' ≤ k ∧ Value.int .i64 ((j : Int) + 1) = .int .i64 j' ∧ Below w.heap.size w w2 ∧ w2.ownsMap Tryf.prog 40 (plainElem Tryf.prog 4) w.heap.size j' D ∧ EndedMap D (Pl.endedOf ((opsL k ks ns ss).take j')) ∧ Pl.Good (opsL k ks ns ss) j') := hend
          clear hend
          rcases hkk with rfl | rfl
          · go_wp2
            exact ⟨HE.out, by simp [intOf]; omega⟩
          · go_wp2
            exact ⟨HE.out, by simp [intOf]; omega⟩
        have k3' : ((kk : Int) == 3) = false := beq_eq_false_iff_ne.2 (by omega)
        have k4' : ((kk : Int) == 4) = false := beq_eq_false_iff_ne.2 (by omega)
        by_cases s0 : s.size = 0
        · have e : ((s.size : Int) == 0) = true := beq_iff_eq.2 (by omega)
          go_wp2
          go_ret
          exact within_no HBel.out
        have s0' : ((s.size : Int) == 0) = false := beq_eq_false_iff_ne.2 (by omega)
        clear hupd HOwn2 HGr
        go_wp2
        clear hlook
        go_loop [11] (fun i => ∃ p : Nat, p ≤ s.size ∧ i = .int .i64 p ∧ AllI s p) (fun i => s.size - (intOf i).toNat)
        case atStart => exact ⟨0, Nat.zero_le _, rfl, fun b hb => by simp at hb⟩
        case round =>
          obtain ⟨p, hp, rfl, hI⟩ := hrel
          have HI : Hid (AllI s p) := hI
          clear hI
          by_cases hps : p < s.size
          · go_wp2_with fail
            refine (notItem_any s[p] _).mono ?_
            rintro e w' ⟨rfl, hw⟩
            subst hw
            cases hb : Pl.itemB s[p]
            · go_wp2_with fail
              go_ret
              exact within_no HBel.out
            · have HI2 : Hid (AllI s (p + 1)) := HI.out.step hps hb
              go_wp2_with fail
              go_round
              case rel => exact ⟨p + 1, hps, by go_num, HI2.out⟩
              case measure => simp [intOf]; omega
          · obtain rfl : p = s.size := by omega
            have hend : ∃ (j' : Nat) (D : DataW Unit), j' ≤ k ∧ Value.int .i64 ((j : Int) + 1) = .int .i64 j' ∧ Below w.heap.size w wr ∧ wr.ownsMap Tryf.prog 40 (plainElem Tryf.prog 4) w.heap.size j' D ∧ EndedMap D (Pl.endedOf ((opsL k ks ns ss).take j')) ∧ Pl.Good (opsL k ks ns ss) j' := by
              refine ⟨j + 1, _, hlt, by go_num, HBel.out, HOwn.out.mono (Nat.le_succ _), ?_, HStep.out (fun _ => ⟨?_, ?_⟩)⟩
              · rw [HES.out, if_neg k3, List.append_nil]; exact HD.out
              · intro e
                apply s0
                have := congrArg List.length e
                simpa using this
              · have := HI.out
                intro b hb
                exact this b (by rw [List.take_of_length_le (by simp)]; exact hb)
            have HE : Hid (∃ (j' : Nat) (D : DataW Unit), j' ≤ k ∧ Value.int .i64 ((j : Int) + 1) = .int .i64 j' ∧ Below w.heap.size w wr ∧ wr.ownsMap Tryf.prog 40 (plainElem Tryf.prog 4) w.heap.size j' D ∧ EndedMap D (Pl.endedOf ((opsL k ks ns ss).take j')) ∧ Pl.Good (opsL k ks ns ss) j') := hend
            clear hend
            go_wp2_with fail
            exact ⟨HE.out, by simp [intOf]; omega⟩
end Go.Proofs.Qxb6609503aFmt
