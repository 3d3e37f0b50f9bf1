import Derived.Test.Qxb6609503aFmtWalkB
namespace Go.Proofs.Qxb6609503aFmt
open Go.RowKit Go.PlainAid Go.Maps
set_option linter.unusedVariables false

/-- The map numbers what stands on the list by its place. -/
structure Numb {α : Type} [BEq α] [LawfulBEq α] (lit : α → Lit) (D : DataW Unit) (l : List α) : Prop where
  tidy : Tidy D
  size : Maps.size D = l.length
  has : ∀ x, Maps.has D (lit x) = decide (x ∈ l)
  at' : ∀ x, D.atKey (lit x) (.lit (.int .i32 0)) = .lit (.int .i32 (if x ∈ l then (l.idxOf x : Int) else 0))
theorem Numb.init {α : Type} [BEq α] [LawfulBEq α] (lit : α → Lit) : Numb lit (.map []) [] := ⟨⟨[], rfl, List.Pairwise.nil⟩, rfl, fun x => rfl, fun x => rfl⟩
theorem Numb.put {α : Type} [BEq α] [LawfulBEq α] {lit : α → Lit} (hinj : ∀ x y, x ≠ y → lit x ≠ lit y) (hk : ∀ x, WideAt.IsKeyLit (lit x)) {D : DataW Unit} {l : List α} (h : Numb lit D l) {x : α} (hx : x ∉ l) : Numb lit (D.put (lit x) (.lit (.int .i32 (l.length : Int)))) (l ++ [x]) := by
  refine ⟨h.tidy.put (hk x) _, ?_, fun y => ?_, fun y => ?_⟩
  · rw [size_put h.tidy, h.has x, decide_eq_false hx, h.size]; simp
  · by_cases e : y = x
    · subst e
      rw [has_put_same h.tidy.isMap (hk y)]; simp
    · rw [has_put_other (hinj _ _ e), h.has y]; simp [e]
  · by_cases e : y = x
    · subst e
      rw [atKey_put_same h.tidy.isMap (hk y), List.idxOf_append, if_neg hx]; simp
    · rw [atKey_put_other (hinj _ _ e), h.at' y, List.idxOf_append]
      by_cases hy : y ∈ l
      · simp [hy]
      · simp [hy, e]

def nlit (n : Nat) : Lit := .int .u64 (n : Int)
def slit (l : List UInt8) : Lit := .string l
theorem nlit_ne (x y : Nat) (h : x ≠ y) : nlit x ≠ nlit y := key_ne h
theorem slit_ne (x y : List UInt8) (h : x ≠ y) : slit x ≠ slit y := by
  intro e
  injection e with e
  exact h e
theorem nlit_key (x : Nat) : WideAt.IsKeyLit (nlit x) := trivial
theorem slit_key (x : List UInt8) : WideAt.IsKeyLit (slit x) := trivial
theorem law9 : Keyed Tryf.prog 9 := string_keyed Tryf.underlying9
theorem zero21 (w : World) : (zeroValue 21).run Tryf.prog w = .ok (.int .i32 0) w := by kernel_rfl
theorem zero41 (w : World) : (zeroValue 41).run Tryf.prog w = .ok (.int .u8 0) w := by kernel_rfl
theorem wf_i32 {n : Nat} (h : n < 2147483648) : (Lit.int .i32 (n : Int)).wf = true := WalkArith.wf_i32 ⟨by omega, by omega⟩
theorem wf_u8 {n : Nat} (h : n < 256) : (Lit.int .u8 (n : Int)).wf = true := WalkArith.wf_u8 ⟨by omega, by omega⟩
theorem key_str (s : ByteArray) (h : s.size ≤ 10000000) : keyOf Tryf.prog 9 (.string s) = some (slit s.data.toList) := WideMaps.keyOf_string_mk Tryf.underlying9 (by unfold maxLen; omega)
theorem elem_int {e : TypeId} {q : IntKind} (he : Tryf.prog.underlying e = some (.int q)) {v : Value} {d : DataW Unit} {ps : List MemPlace} {x : Int} (h : plainElem Tryf.prog e v = some (d, ps)) (hd : d = .lit (.int q x)) : v = .int q x := by
  obtain ⟨a, rfl, hz, _⟩ := plainElem_int_inv he h
  have h1 : d = .lit (.int q a) := congrArg Prod.fst hz
  have h2 := DataW.lit.inj (hd.symm.trans h1)
  have h3 := (Lit.int.inj h2).2
  rw [h3]

abbrev OwnN (w : World) (B n : Nat) (D : DataW Unit) : Prop := w.ownsMap Tryf.prog 40 (plainElem Tryf.prog 21) B n D
abbrev OwnS (w : World) (B n : Nat) (D : DataW Unit) : Prop := w.ownsMap Tryf.prog 9 (plainElem Tryf.prog 21) B n D
abbrev OwnE (w : World) (B n : Nat) (D : DataW Unit) : Prop := w.ownsMap Tryf.prog 40 (plainElem Tryf.prog 41) B n D

theorem look36 {w : World} {D : DataW Unit} {l : List Nat} {B m n : Nat} (ho : OwnN w B m D) (hD : Numb nlit D l) (hn : n < 18446744073709551616) :
    (Instr.lookup 36 (.map (some B)) (.int .u64 (n : Int)) true).run Tryf.prog w = .ok (.tuple #[.int .i32 (if n ∈ l then (l.idxOf n : Int) else 0), .bool (decide (n ∈ l))]) w := by
  obtain ⟨v, ps, hr, hv⟩ := ho.look_ok law40 Tryf.underlying36 (zero21 _) (plainElem_int Tryf.underlying21 (by decide)) (key_u64 hn)
  rw [elem_int Tryf.underlying21 hv (hD.at' n)] at hr
  rw [hr]; exact congrArg (fun b => Result.ok (Value.tuple #[_, .bool b]) w) (hD.has n)
theorem look37 {w : World} {D : DataW Unit} {l : List (List UInt8)} {B m : Nat} {s : ByteArray} (ho : OwnS w B m D) (hD : Numb slit D l) (hn : s.size ≤ 10000000) :
    (Instr.lookup 37 (.map (some B)) (.string s) true).run Tryf.prog w = .ok (.tuple #[.int .i32 (if s.data.toList ∈ l then (l.idxOf s.data.toList : Int) else 0), .bool (decide (s.data.toList ∈ l))]) w := by
  obtain ⟨v, ps, hr, hv⟩ := ho.look_ok law9 Tryf.underlying37 (zero21 _) (plainElem_int Tryf.underlying21 (by decide)) (key_str s hn)
  rw [elem_int Tryf.underlying21 hv (hD.at' _)] at hr
  rw [hr, hD.has]
theorem put36 {w : World} {D : DataW Unit} {l : List Nat} {B m n : Nat} (ho : OwnN w B m D) (hD : Numb nlit D l) (hn : n < 18446744073709551616) (hx : n ∉ l) (hm : m ≤ 10000000) (hl : l.length ≤ 10000000) :
    ∃ w', (Instr.mapUpdate 36 (.map (some B)) (.int .u64 (n : Int)) (.int .i32 (l.length : Int))).run Tryf.prog w = .ok () w' ∧ (∃ D', OwnN w' B (m + 1) D' ∧ Numb nlit D' (l ++ [n])) ∧ w.grownBy w' (some B) := by
  obtain ⟨w', hr, h2, h3⟩ := ho.update law40 Tryf.underlying36 (by unfold maxLen; omega) (key_u64 hn) (plainElem_int Tryf.underlying21 (wf_i32 (n := l.length) (by omega)))
  exact ⟨w', hr, ⟨_, h2, hD.put nlit_ne nlit_key hx⟩, h3⟩
theorem put37 {w : World} {D : DataW Unit} {l : List (List UInt8)} {B m : Nat} {s : ByteArray} (ho : OwnS w B m D) (hD : Numb slit D l) (hn : s.size ≤ 10000000) (hx : s.data.toList ∉ l) (hm : m ≤ 10000000) (hl : l.length ≤ 10000000) :
    ∃ w', (Instr.mapUpdate 37 (.map (some B)) (.string s) (.int .i32 (l.length : Int))).run Tryf.prog w = .ok () w' ∧ (∃ D', OwnS w' B (m + 1) D' ∧ Numb slit D' (l ++ [s.data.toList])) ∧ w.grownBy w' (some B) := by
  obtain ⟨w', hr, h2, h3⟩ := ho.update law9 Tryf.underlying37 (by unfold maxLen; omega) (key_str s hn) (plainElem_int Tryf.underlying21 (wf_i32 (n := l.length) (by omega)))
  exact ⟨w', hr, ⟨_, h2, hD.put slit_ne slit_key hx⟩, h3⟩
theorem len36 {w : World} {D : DataW Unit} {l : List Nat} {B m : Nat} (ho : OwnN w B m D) (hD : Numb nlit D l) (ty : TypeId) : (Builtin.len_ #[36] ty #[.map (some B)]).run Tryf.prog w = .ok (.int .i64 (l.length : Int)) w := by
  rw [ho.len Tryf.underlying36 ty, hD.size]
theorem len37 {w : World} {D : DataW Unit} {l : List (List UInt8)} {B m : Nat} (ho : OwnS w B m D) (hD : Numb slit D l) (ty : TypeId) : (Builtin.len_ #[37] ty #[.map (some B)]).run Tryf.prog w = .ok (.int .i64 (l.length : Int)) w := by
  rw [ho.len Tryf.underlying37 ty, hD.size]

/-- The map of the ends. -/
def Ends (D : DataW Unit) (f : Nat → Nat) : Prop := IsMap D ∧ ∀ n : Nat, D.atKey (nlit n) (.lit (.int .u8 0)) = .lit (.int .u8 (f n))
theorem Ends.init : Ends (.map []) (fun _ => 0) := ⟨isMap_empty, fun n => rfl⟩
theorem put38 {w : World} {D : DataW Unit} {f : Nat → Nat} {B m n k : Nat} (ho : OwnE w B m D) (hD : Ends D f) (hn : n < 18446744073709551616) (hk : k < 256) (hm : m ≤ 10000000) :
    ∃ w', (Instr.mapUpdate 38 (.map (some B)) (.int .u64 (n : Int)) (.int .u8 (k : Int))).run Tryf.prog w = .ok () w' ∧ (∃ D', OwnE w' B (m + 1) D' ∧ Ends D' (fun i => if n = i then k else f i)) ∧ w.grownBy w' (some B) := by
  obtain ⟨w', hr, h2, h3⟩ := ho.update law40 Tryf.underlying38 (by unfold maxLen; omega) (key_u64 hn) (plainElem_int Tryf.underlying41 (wf_u8 hk))
  refine ⟨w', hr, ⟨_, h2, hD.1.put _ _, fun i => ?_⟩, h3⟩
  by_cases e : n = i
  · subst e
    exact (atKey_put_same hD.1 (nlit_key n) _ _).trans (by simp)
  · show _ = DataW.lit (.int .u8 ((if n = i then k else f i : Nat) : Int))
    rw [if_neg e]
    exact (atKey_put_other (nlit_ne _ _ (Ne.symm e)) _ _).trans (hD.2 i)
theorem look38 {w : World} {D : DataW Unit} {f : Nat → Nat} {B m n : Nat} (ho : OwnE w B m D) (hD : Ends D f) (hn : n < 18446744073709551616) :
    (Instr.lookup 38 (.map (some B)) (.int .u64 (n : Int)) false).run Tryf.prog w = .ok (.int .u8 (f n)) w := by
  obtain ⟨v, ps, hr, hv⟩ := ho.lookup law40 Tryf.underlying38 (zero41 _) (plainElem_int Tryf.underlying41 (by decide)) (key_u64 hn)
  rw [hr, elem_int Tryf.underlying41 hv (hD.2 n)]
end Go.Proofs.Qxb6609503aFmt
