import Derived.Test.Qxb6609503aFmtTabs
import Derived.Test.Qxb6609503aFmtCards
import Derived.Stop.JoinedTold
import Derived.Deep.DeepWitnessRef
import Derived.SevenTiedAt
namespace Go.Proofs.Qxb6609503aFmt
open Go.ChangeShapes Go.WideShapes Go.ChangeAt Go.RowKit
open Go.Extern.Stop Go.Stop Go.Extern
set_option linter.unusedVariables false

theorem own : ownKnob Tryf.prog.godebug = none := by kernel_rfl
theorem laidOut : laidOutB Tryf.prog = true := by kernel_rfl
abbrev spec : OpenSpec := OpenSpec.ofChange Rows.fnParseReadsBackWrittenOpsSpec
abbrev args0 : Array Value := #[.slice none 0 0, .slice none 0 0, .slice none 0 0]
theorem c5 : Tryf.prog.cellsOf 5 = 1 := by kernel_rfl
theorem c40 : Tryf.prog.cellsOf 40 = 1 := by kernel_rfl
theorem c9 : Tryf.prog.cellsOf 9 = 1 := by kernel_rfl

set_option maxRecDepth 1000000 in
theorem fitsAll (os : Os) : (World.holding Tryf.prog os ⟨#[], #[], []⟩).layFits Tryf.prog laidL [] = true := by kernel_rfl
set_option maxRecDepth 1000000 in
theorem ifacesAll (os : Os) : (World.holding Tryf.prog os ⟨#[], #[], []⟩).layIfaces Tryf.prog laidL (World.laidAll Tryf.prog os laidL) = true := by kernel_rfl
theorem laid_met (os : Os) (args : Array Value) : laidMetH Tryf.prog laidL ((World.laidAll Tryf.prog os laidL).forCall (fun _ _ => 0) ⟨#[], args, []⟩).memory := by
  rw [MakeChecks.laidMetH_plain _ _ _ (by kernel_rfl)]
  exact laidMet_laidAll args (fitsAll os) (ifacesAll os)
set_option maxRecDepth 1000000 in
theorem witness_row (os : Os) {H : Type} (enc : TypeId × Value → H) :
    spec.preRow enc Tryf.prog Tryf.f3 Rows.fnParseReadsBackWrittenOpsRow.domain false laidL ((World.laidAll Tryf.prog os laidL).forCall (fun _ _ => 0) ⟨#[], args0, []⟩).memory args0 := by
  have hw : (DataW.whole enc Tryf.prog ((World.laidAll Tryf.prog os laidL).forCall (fun _ _ => 0) ⟨#[], args0, []⟩).memory Tryf.f3.params.toList spec.vars false args0.toList 8).map (fun x => (x.1, x.2.1)) =
      some ([.nil, .nil, .nil], []) := by kernel_rfl
  obtain ⟨⟨x1, x2, x3⟩, hx, hx1⟩ := Option.map_eq_some_iff.1 hw
  simp only [Prod.mk.injEq] at hx1
  obtain ⟨rfl, rfl⟩ := hx1
  exact OpenSpec.preRow_of_cond 8 hx (by kernel_rfl) (fun k hk => by cases hk) (by kernel_rfl) (laid_met os _)

set_option maxRecDepth 1000000 in
theorem lifted (os : Os) (started : os.Started) (H : Type) (enc : TypeId × Value → H) :
    ReturnsInTold none {} Tryf.checked os 3 .any Input.okWide (spec.preRow enc Tryf.prog Tryf.f3 Rows.fnParseReadsBackWrittenOpsRow.domain false laidL) (fun F => (spec.at F).post enc Tryf.prog Tryf.f3 false true false false) (aloneAtReturn Tryf.prog) nothingAlways := by
  refine returnsInTold_of_row (C := Tryf.checked) (s := spec) (by kernel_rfl) own started (by kernel_rfl) Tryf.func3
    (OpenSpec.witness_stopped_atRef (enc := enc) (C := Tryf.checked) false (World.laidAll Tryf.prog os laidL) args0 (World.laidAll_os _ _ _) (by kernel_rfl) (by kernel_rfl) (by kernel_rfl) (witness_row os enc)) ?_
  intro F W base args ds gs before _ hF hval0 hW _ _ _ hL _
  have hval : ∀ (j : Nat) t v, Tryf.f3.params[j]? = some t → args[j]? = some v → Value.okWide Tryf.prog W .any base t v := hval0
  have hW' := hW
  obtain ⟨p, q, hA0, hV, rfl, _, _⟩ := hW
  have hA : DataW.TrodAll enc Tryf.prog W 0 (fun _ => true) true Tryf.f3.params.toList args.toList ds p := hA0
  rw [Tryf.params3] at hA hval
  obtain ⟨v0, v1, v2, d0, d1, d2, p0, p1, p2, rfl, rfl, rfl, h0, h1, h2⟩ := trodAll_three hA
  obtain ⟨rfl, rfl⟩ := trodVars_none hV
  obtain ⟨a0, n0, k0, rfl⟩ := okWide_slice Tryf.underlying22 (hval 0 22 v0 rfl rfl)
  obtain ⟨a1, n1, k1, rfl⟩ := okWide_slice Tryf.underlying23 (hval 1 23 v1 rfl rfl)
  obtain ⟨a2, n2, k2, rfl⟩ := okWide_slice Tryf.underlying24 (hval 2 24 v2 rfl rfl)
  clear hA0 hval0
  simp only [List.append_nil] at hW'
  have hlt : ∀ x ∈ p0 ++ p1 ++ p2, x.block < W.heap.size := fun x hx => by simpa using hW'.lt x hx
  have g0 : ∀ (W' : World), Below W.heap.size W W' → DataW.Trod enc Tryf.prog W' 0 (fun b => decide (b < W.heap.size)) true 22 (.slice a0 n0 k0) d0 p0 :=
    fun W' hn => Below.trod laidOut (by kernel_rfl) (of_decide_eq_true (by kernel_rfl)) h0 hn (fun x hx => hlt x (by simp [hx]))
  have g1 : ∀ (W' : World), Below W.heap.size W W' → DataW.Trod enc Tryf.prog W' 0 (fun b => decide (b < W.heap.size)) true 23 (.slice a1 n1 k1) d1 p1 :=
    fun W' hn => Below.trod laidOut (by kernel_rfl) (of_decide_eq_true (by kernel_rfl)) h1 hn (fun x hx => hlt x (by simp [hx]))
  have g2 : ∀ (W' : World), Below W.heap.size W W' → DataW.Trod enc Tryf.prog W' 0 (fun b => decide (b < W.heap.size)) true 24 (.slice a2 n2 k2) d2 p2 :=
    fun W' hn => Below.trod laidOut (by kernel_rfl) (of_decide_eq_true (by kernel_rfl)) h2 hn (fun x hx => hlt x (by simp [hx]))
  obtain ⟨f0, e0⟩ := h0
  obtain ⟨f1, e1⟩ := h1
  obtain ⟨f2, e2⟩ := h2
  obtain ⟨m0, ks, hk, hE0⟩ := open_k (b := 256) wf8 (by omega) Tryf.underlying22 Tryf.underlying5 c5 (fun _ => rfl) e0
  obtain ⟨m1, ns, hn, hE1⟩ := open_k (b := 18446744073709551616) wf64 (by omega) Tryf.underlying23 Tryf.underlying40 c40 (fun _ => rfl) e1
  obtain ⟨m2, ss, hs, hE2⟩ := open_s c9 (fun _ => rfl) e2
  obtain ⟨pE, hE⟩ := eof_of hL
  refine (law_any a0 a1 a2 n0 n1 n2 k0 k1 k2 ks ns ss W m0 m1 m2 hk hn hs hE0 hE1 hE2 pE hE).mono fun e W' ⟨he, hg⟩ => ?_
  subst he
  exact ⟨_, rfl, _, _, _, [], p0 ++ (p1 ++ p2), [], hW', trodAll_mk1 (shut_bool Tryf.underlying4 _), trodAll_mk3 (g0 _ hg) (g1 _ hg) (g2 _ hg), rfl, hg.frame _, fun h => by cases h⟩

theorem stops : Tryf.pinned.checked.prog.stops = ["fmt.Sprintf"] := by kernel_rfl
theorem stopKnobs : Tryf.pinned.checked.prog.stopKnobs = [] := by kernel_rfl
theorem quiet (os : Os) : Stop.quiet Tryf.pinned.checked.prog os := by
  intro k hk
  rw [stopKnobs] at hk
  cases hk

set_option maxRecDepth 1000000 in
/-- ████ THE TOLD AND TIED CARD ████ -/
theorem card_holds : Rows.FnParseReadsBackWrittenOpsToldSaid :=
  Claim7.holds_of_told_tied_any_at .later 3 Tryf.f3 "fmt.Sprintf" [] [] _ _ _ _ _ (by kernel_rfl) rfl rfl rfl laidOut (by kernel_rfl) rfl ⟨rfl, rfl, rfl, rfl, rfl, rfl, rfl⟩ rfl rfl (by kernel_rfl) (by kernel_rfl) Tryf.func3 (by kernel_rfl)
    (of_decide_eq_true (by kernel_rfl)) (of_decide_eq_true (by kernel_rfl)) stops.symm rfl stopKnobs.symm (by kernel_rfl)
    (by kernel_rfl) (by kernel_rfl) (by kernel_rfl) (by kernel_rfl) (by kernel_rfl) (by kernel_rfl) (by kernel_rfl) (by kernel_rfl) (by kernel_rfl) rfl (by kernel_rfl) rfl rfl
    rfl rfl
    rfl (by kernel_rfl) (by kernel_rfl) (by kernel_rfl) (by decide) (by kernel_rfl) fnParseReadsBackWrittenOps_row_tie
    (OpenClaim.moreEntering_of (by kernel_rfl) (by kernel_rfl) (by kernel_rfl) (by kernel_rfl) (by kernel_rfl) (by kernel_rfl) (by kernel_rfl) (by kernel_rfl) (by kernel_rfl) (by kernel_rfl))
    ⟨_, WideRow.started_initial, quiet _⟩
    (fun os started _ H enc _ => lifted os started H enc)

end Go.Proofs.Qxb6609503aFmt
