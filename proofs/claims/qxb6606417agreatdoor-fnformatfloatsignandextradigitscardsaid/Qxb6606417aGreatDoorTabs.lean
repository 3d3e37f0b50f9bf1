import Derived.Test.Qxb6606417aGreatDoorWalkW
import Derived.Lib.LaidU8
import Derived.PinnedBridge
import Derived.LaidMore
import Derived.SizedLaws
import Derived.ProofKit
import Derived.OpenShut
import Derived.MakeChecks
namespace Go.Proofs.Qxb6606417aGreatDoor
open Go.RowKit
set_option linter.unusedVariables false
set_option linter.unusedSimpArgs false
set_option maxRecDepth 100000

abbrev laidL : List (String × DataW Unit) := Rows.fnFormatFloatSignAndExtraDigitsRow.laid

theorem var_open {n : String} {g : Nat} {t : TypeId} {d : DataW Unit} {W : World} (hg : Tryz.prog.globalNamed n = some g) (hy : (Tryz.prog.globals[g]?).map (·.type) = some t) (h : Lib.VarReads Tryz.prog W n d) :
    ∃ (cs : Array Value) (fuel : Nat) (p : List MemPlace), W.var? Tryz.prog n = some cs ∧ DataW.trod (fun _ => ()) Tryz.prog W 0 (fun _ => true) false fuel t cs.toList = some (d, p) := by
  obtain ⟨g', t', cs, fuel, p, hg', hty, hvar, hd⟩ := h
  obtain rfl := Option.some.inj (hg.symm.trans hg')
  obtain rfl := Option.some.inj (hy.symm.trans hty)
  exact ⟨cs, fuel, p, hvar, hd⟩
theorem tabIs_of_reads {n : String} {g : Nat} {t e : TypeId} {k : IntKind} {m : Nat} {zs : List Int} {W : World} (hg : Tryz.prog.globalNamed n = some g) (hy : (Tryz.prog.globals[g]?).map (·.type) = some t)
    (ht : Tryz.prog.underlying t = some (.array m e)) (he : Tryz.prog.underlying e = some (.int k)) (hce : Tryz.prog.cellsOf e = 1) (hct : Tryz.prog.cellsOf t = m) (h : Lib.VarReads Tryz.prog W n (Lib.tabData k zs)) : Lib.TabIs Tryz.prog W n k zs := by
  obtain ⟨cs, fuel, p, hvar, hd⟩ := var_open hg hy h
  have hcs := Lib.cells_of_tab ht he hce hct hd
  unfold Lib.TabIs
  rw [hvar, ← hcs]
theorem trod_float {W : World} {fuel : Nat} {t : TypeId} {cs : List Value} {x : DataW Unit × List MemPlace} {k : FloatKind} (ht : Tryz.prog.underlying t = some (.float k)) (h : DataW.trod (fun _ => ()) Tryz.prog W 0 (fun _ => true) false fuel t cs = some x) :
    ∃ b, cs = [.float k b] ∧ x = (.lit (.float k b), []) := by
  cases fuel with
  | zero => simp [DataW.trod] at h
  | succ n =>
    unfold DataW.trod at h
    rw [ht] at h
    split at h <;> simp_all
/-- A slice of floats, opened. -/
theorem open_floats {W : World} {n : String} {g : Nat} {t e : TypeId} {k : FloatKind} {N : Nat} {f : Nat → Nat} (hg : Tryz.prog.globalNamed n = some g) (hy : (Tryz.prog.globals[g]?).map (·.type) = some t)
    (ht : Tryz.prog.underlying t = some (.slice e)) (he : Tryz.prog.underlying e = some (.float k)) (hce : Tryz.prog.cellsOf e = 1) (hN : 0 < N)
    (h : Lib.VarReads Tryz.prog W n (.slice ((List.range N).map fun t => .lit (.float k (f t))) [])) :
    ∃ b o c, W.cell? ⟨g, 0, none⟩ = some (.slice (some ⟨b, o, none⟩) N c) ∧ ∀ t, t < N → W.cell? ⟨b, o + t, none⟩ = some (.float k (f t)) := by
  obtain ⟨cs, fuel, p, hvar, hd⟩ := var_open hg hy h
  rcases DataW.trod_slice ht hd with ⟨_, h0⟩ | ⟨a, len, cap, elems, rest, m, _, hcs, hx, _, _, _, hlen, hel, _, _⟩
  · cases h0
  · have hx1 := congrArg Prod.fst hx
    simp only [DataW.slice.injEq] at hx1
    have hNl : len = N := by
      have := congrArg List.length hx1.1
      simp at this
      omega
    subst hNl
    have hcell := World.var?_cell hg hvar 0
    have hc0 : cs[0]? = some (.slice (some a) len cap) := by
      have := congrArg (·[0]?) hcs
      simpa using this
    rw [hc0] at hcell
    have each : ∀ i, i < len → W.cell? (a.add i) = some (.float k (f i)) := fun i hi => by
      have h1 := hel i hi
      rw [hce, Nat.mul_one] at h1
      obtain ⟨y, hy'⟩ : ∃ y, elems[i]? = some y := ⟨elems[i]'(by omega), List.getElem?_eq_getElem (by omega)⟩
      rw [hy'] at h1
      obtain ⟨cs', hcs', htr⟩ := Option.bind_eq_some_iff.1 h1
      obtain ⟨b, rfl, rfl⟩ := trod_float he htr
      have h2 : (elems.map (·.1))[i]? = some (DataW.lit (.float k b) : DataW Unit) := by simp [hy']
      rw [← hx1.1] at h2
      simp [hi] at h2
      subst h2
      simp only [World.cells?, Nat.zero_le, if_true, List.range_succ, List.range_zero, List.nil_append, List.mapM_cons, List.mapM_nil, Option.bind_eq_bind, Option.pure_def] at hcs'
      obtain ⟨c1, hc1, hc2⟩ := Option.bind_eq_some_iff.1 hcs'
      simp at hc2
      subst hc2
      rw [Addr.add, if_pos rfl] at hc1
      exact hc1
    obtain ⟨b, o, sp⟩ := a
    have hsp : sp = none := by
      have h0 := each 0 hN
      rw [Addr.add, if_pos rfl] at h0
      cases sp with
      | none => rfl
      | some q =>
        exfalso
        simp only [World.cell?] at h0
        split at h0 <;> simp at h0
    subst hsp
    refine ⟨b, o, cap, hcell, fun i hi => ?_⟩
    have h1 := each i hi
    rw [Addr.add_lit] at h1
    exact h1
theorem iface_of {W : World} {n : String} {g : Nat} {t : TypeId} {ms : Array (String × TypeId)} {nm : String} {d : DataW Unit} (hg : Tryz.prog.globalNamed n = some g) (hy : (Tryz.prog.globals[g]?).map (·.type) = some t)
    (ht : Tryz.prog.underlying t = some (.interface ms)) (h : Lib.VarReads Tryz.prog W n (.iface nm d)) : ∃ te pe, W.cell? ⟨g, 0, none⟩ = some (.iface te pe) := by
  obtain ⟨cs, fuel, p, hvar, hd⟩ := var_open hg hy h
  have hcell := World.var?_cell hg hvar 0
  cases fuel with
  | zero => simp [DataW.trod] at hd
  | succ m =>
    unfold DataW.trod at hd
    rw [ht] at hd
    cases hl : cs.toList with
    | nil => rw [hl] at hd; simp at hd
    | cons v r =>
      cases r with
      | cons v' r' => rw [hl] at hd; simp at hd
      | nil =>
        have h0 : cs[0]? = some v := by
          have := congrArg (·[0]?) hl
          simpa using this
        rw [hl] at hd
        rw [hcell, h0]
        cases v <;> first | exact ⟨_, _, rfl⟩ | (simp at hd)
theorem dat_db : (Rows.laid_math_bits_deBruijn64tab : DataW Unit) = Lib.tabData .u8 (Lib.deBruijn64tab.map fun n : Nat => (n : Int)) := by kernel_rfl
theorem dat_u10 : (Rows.laid_internal_strconv_uint64pow10 : DataW Unit) = Lib.tabData .u64 Lib.pow10Tab := by kernel_rfl
theorem dat_d : (Rows.laid_internal_strconv_float64pow10 : DataW Unit) = .slice ((List.range 23).map fun t => .lit (.float .f64 (tabD t))) [] := by kernel_rfl
theorem dat_s : (Rows.laid_internal_strconv_float32pow10 : DataW Unit) = .slice ((List.range 11).map fun t => .lit (.float .f32 (tabS t))) [] := by kernel_rfl
theorem rd (i : Nat) (h : i < laidL.length) {W : World} (hL : laidMet Tryz.prog laidL W) : Lib.VarReads Tryz.prog W (laidL[i]).1 (laidL[i]).2 := Lib.laidMet.reads hL (List.getElem_mem h)
theorem pow_at : ∀ n : Fin 20, Lib.pow10Tab.getD n.1 0 = ((10 ^ n.1 : Nat) : Int) := by decide
theorem rowsLen : Go.Pinned.pow10Rows.length = 696 := by kernel_rfl

theorem tab_of {W : World} (h : Lib.VarReads Tryz.prog W "internal/strconv.pow10Tab" Go.Pinned.pow10Tab) (i : Nat) (hi : i < 696) : W.cell? ⟨7, i * 2, none⟩ = some (.int .u64 ((rowAt i).1 : Nat)) ∧ W.cell? ⟨7, i * 2 + 1, none⟩ = some (.int .u64 ((rowAt i).2 : Nat)) := by
  have hg : Tryz.prog.globalNamed "internal/strconv.pow10Tab" = some 7 := by kernel_rfl
  obtain ⟨cs, fuel, p, hvar, hd⟩ := var_open hg (t := 166) (by kernel_rfl) h
  have hc165 : Tryz.prog.cellsOf 165 = 2 := by kernel_rfl
  obtain ⟨fuel', d, q, hdi, htr⟩ := Lib.array_elem Tryz.underlying166 hd i hi
  rw [hc165] at htr
  have hrow : Go.Pinned.pow10Rows[i]? = some (rowAt i) := by
    unfold rowAt
    rw [List.getD_eq_getElem?_getD, List.getElem?_eq_getElem (by rw [rowsLen]; exact hi)]
    rfl
  rw [List.getElem?_map, hrow] at hdi
  simp only [Option.map_some, Option.some.injEq] at hdi
  subst hdi
  have hz := Lib.ints_of_struct (zs := [((rowAt i).1 : Int), ((rowAt i).2 : Int)]) (k := .u64) Tryz.underlying165 (by
    intro j f hf
    match j with
    | 0 => simp at hf; subst hf; exact ⟨Tryz.underlying29, rfl, by kernel_rfl⟩
    | 1 => simp at hf; subst hf; exact ⟨Tryz.underlying29, rfl, by kernel_rfl⟩
    | j + 2 => simp at hf) (by kernel_rfl) htr
  have c0 := World.var?_cell hg hvar (i * 2)
  have c1 := World.var?_cell hg hvar (i * 2 + 1)
  have h0 := congrArg (·[0]?) hz
  have h1 := congrArg (·[1]?) hz
  simp [List.getElem?_take, List.getElem?_drop] at h0 h1
  rw [c0, c1, h0, h1]
  exact ⟨rfl, rfl⟩

theorem env_of {W : World} (hL0 : laidMetH Tryz.prog laidL W) (hsh : W.ShapedOpen Tryz.prog) : EnvF W := by
  have hL := hL0
  rw [MakeChecks.laidMetH_plain _ _ _ (by kernel_rfl)] at hL
  have rDb : Lib.VarReads Tryz.prog W "math/bits.deBruijn64tab" (Lib.tabData .u8 (Lib.deBruijn64tab.map fun n : Nat => (n : Int))) := by rw [← dat_db]; exact rd 1 (by decide) hL
  have r10 : Lib.VarReads Tryz.prog W "internal/strconv.uint64pow10" (Lib.tabData .u64 Lib.pow10Tab) := by rw [← dat_u10]; exact rd 8 (by decide) hL
  have rD : Lib.VarReads Tryz.prog W "internal/strconv.float64pow10" (.slice ((List.range 23).map fun t => .lit (.float .f64 (tabD t))) []) := by rw [← dat_d]; exact rd 6 (by decide) hL
  have rS : Lib.VarReads Tryz.prog W "internal/strconv.float32pow10" (.slice ((List.range 11).map fun t => .lit (.float .f32 (tabS t))) []) := by rw [← dat_s]; exact rd 7 (by decide) hL
  have rOpt : Lib.VarReads Tryz.prog W "internal/strconv.optimize" (.lit (.bool true)) := rd 4 (by decide) hL
  have rI : Lib.VarReads Tryz.prog W "internal/strconv.float64info" (.agg [.lit (.int .u64 52), .lit (.int .u64 11), .lit (.int .i64 (-1023))]) := rd 3 (by decide) hL
  have rE : ∃ nm d, Lib.VarReads Tryz.prog W "strconv.ErrRange" (.iface nm d) := ⟨_, _, rd 10 (by decide) hL⟩
  have rT : Lib.VarReads Tryz.prog W "internal/strconv.pow10Tab" Go.Pinned.pow10Tab := rd 13 (by decide) hL
  have g10 : Tryz.prog.globalNamed "internal/strconv.uint64pow10" = some 2 := by kernel_rfl
  have gDb : Tryz.prog.globalNamed "math/bits.deBruijn64tab" = some 3 := by kernel_rfl
  have t10 := tabIs_of_reads g10 (t := 115) (by kernel_rfl) Tryz.underlying115 Tryz.underlying29 (by kernel_rfl) (by kernel_rfl) r10
  have tDb := tabIs_of_reads gDb (t := 129) (by kernel_rfl) Tryz.underlying129 Tryz.underlying5 (by kernel_rfl) (by kernel_rfl) rDb
  have hopt : W.cell? ⟨1, 0, none⟩ = some (.bool true) := by
    have hg : Tryz.prog.globalNamed "internal/strconv.optimize" = some 1 := by kernel_rfl
    obtain ⟨cs, fuel, p, hvar, hd⟩ := var_open hg (t := 4) (by kernel_rfl) rOpt
    obtain ⟨b, hb, hx⟩ := DataW.trod_bool Tryz.underlying4 hd
    simp at hx
    obtain ⟨rfl, _⟩ := hx
    rw [World.var?_cell hg hvar 0]
    have := congrArg (·[0]?) hb
    simpa using this
  have hinf : W.cell? ⟨13, 0, none⟩ = some (.int .u64 52) := by
    have hg : Tryz.prog.globalNamed "internal/strconv.float64info" = some 13 := by kernel_rfl
    obtain ⟨cs, fuel, p, hvar, hd⟩ := var_open hg (t := 185) (by kernel_rfl) rI
    obtain ⟨xs, n, _, hx, hl, hxl, hall⟩ := DataW.trod_struct Tryz.underlying185 hd
    have h0 := hall 0 _ rfl
    have hx1 := congrArg Prod.fst hx
    simp only [DataW.agg.injEq] at hx1
    obtain ⟨y, hy⟩ : ∃ y, xs[0]? = some y := ⟨xs[0]'(by rw [hxl]; decide), List.getElem?_eq_getElem _⟩
    rw [hy] at h0
    obtain ⟨z, hz, rfl, _⟩ := DataW.trod_int Tryz.underlying85 h0
    have h2 : (xs.map (·.1))[0]? = some (DataW.lit (.int .u64 z) : DataW Unit) := by simp [hy]
    rw [← hx1] at h2
    simp at h2
    subst h2
    rw [World.var?_cell hg hvar 0]
    have hc : Tryz.prog.cellsOf 85 = 1 := by kernel_rfl
    have hz' : List.take (Tryz.prog.cellsOf 85) (List.drop 0 cs.toList) = [Value.int .u64 52] := hz
    rw [hc] at hz'
    have := congrArg (·[0]?) hz'
    simpa [List.getElem?_take, List.getElem?_drop] using this
  refine ⟨⟨fun i hi => tab_of rT i hi, t10, fun n hn => ?_, fun j hj => ?_, hopt, Tryz.laysM219.s1_3 W hsh, hinf, ?_⟩, ?_, ?_⟩
  · have := t10.cell g10 n (by have : Lib.pow10Tab.length = 20 := by decide
                               omega)
    rw [this, pow_at ⟨n, by omega⟩]
  · have hlen : Lib.deBruijn64tab.length = 64 := by decide
    have := tDb.cell gDb j (by simp [hlen]; exact hj)
    rw [this]
    simp [List.getD_eq_getElem?_getD, hlen, hj]
  · obtain ⟨nm, d, hE⟩ := rE
    obtain ⟨te, pe, h⟩ := iface_of (g := 6) (by kernel_rfl) (t := 53) (by kernel_rfl) Tryz.underlying53 hE
    exact ⟨_, h, .inr ⟨te, pe, rfl⟩⟩
  · obtain ⟨b, o, c, h1, h2⟩ := open_floats (g := 16) (by kernel_rfl) (t := 202) (by kernel_rfl) Tryz.underlying202 Tryz.underlying22 (by kernel_rfl) (by omega) rD
    exact ⟨b, o, c, h1, fun t ht => h2 t (by omega)⟩
  · obtain ⟨b, o, c, h1, h2⟩ := open_floats (g := 14) (by kernel_rfl) (t := 199) (by kernel_rfl) Tryz.underlying199 Tryz.underlying23 (by kernel_rfl) (by omega) rS
    exact ⟨b, o, c, h1, fun t ht => h2 t (by omega)⟩
end Go.Proofs.Qxb6606417aGreatDoor
