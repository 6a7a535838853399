/-
  Lemmas on the way to the statement of YtkcdakohmfodjaaGreatHeader, joined out of these texts: Texts, Hfr, BrkWalk. No condition.
-/
import Derived.Deep.Cut
import Derived.Test.YtkcdakohmfodjaaGreatNConv
import Derived.Test.YtkcdakohmfodjaaGreatNForm
import Derived.Test.YtkcdakohmfodjaaGreatNHpW
import Derived.Test.YtkcdakohmfodjaaGreatNRfix
import Derived.Test.YtkcdakohmfodjaaGreatNRstr
namespace Go.Proofs.YtkcdakohmfodjaaGreat
open Go.RowKit
set_option linter.unusedVariables false
set_option linter.unusedSimpArgs false
def ops39 : Array Oper := #[
  { dst := some 3, op := Op.makeMap 104 none, type := 104, pos := "impl.go:228", after := #[], guard := none },
  { dst := some 4, op := Op.move (Operand.tmp 0), type := 106, pos := "impl.go:228", after := #[], guard := none },
  { dst := some 5, op := Op.nilCheck (Operand.tmp 4), type := 0, pos := "impl.go:228", after := #[{ on := 1, ground := Ground.data }], guard := none },
  { dst := some 6, op := Op.fieldAddr 101 (Operand.tmp 5) 0, type := 0, pos := "impl.go:228", after := #[{ on := 2, ground := Ground.data }], guard := none },
  { dst := none, op := Op.insert 104 (Operand.tmp 3) (Operand.const (Value.int IntKind.i64 0)) (Operand.tmp 6), type := 0, pos := "impl.go:228", after := #[{ on := 0, ground := Ground.data }, { on := 3, ground := Ground.data }], guard := none },
  { dst := some 7, op := Op.move (Operand.tmp 0), type := 106, pos := "impl.go:228", after := #[], guard := none },
  { dst := some 8, op := Op.nilCheck (Operand.tmp 7), type := 0, pos := "impl.go:228", after := #[{ on := 5, ground := Ground.data }], guard := none },
  { dst := some 9, op := Op.fieldAddr 101 (Operand.tmp 8) 1, type := 0, pos := "impl.go:228", after := #[{ on := 6, ground := Ground.data }], guard := none },
  { dst := none, op := Op.insert 104 (Operand.tmp 3) (Operand.const (Value.int IntKind.i64 1)) (Operand.tmp 9), type := 0, pos := "impl.go:228", after := #[{ on := 0, ground := Ground.data }, { on := 7, ground := Ground.data }], guard := none },
  { dst := some 10, op := Op.move (Operand.tmp 0), type := 106, pos := "impl.go:228", after := #[], guard := none },
  { dst := some 11, op := Op.nilCheck (Operand.tmp 10), type := 0, pos := "impl.go:228", after := #[{ on := 9, ground := Ground.data }], guard := none },
  { dst := some 12, op := Op.fieldAddr 101 (Operand.tmp 11) 5, type := 0, pos := "impl.go:228", after := #[{ on := 10, ground := Ground.data }], guard := none },
  { dst := none, op := Op.insert 104 (Operand.tmp 3) (Operand.const (Value.int IntKind.i64 5)) (Operand.tmp 12), type := 0, pos := "impl.go:228", after := #[{ on := 0, ground := Ground.data }, { on := 11, ground := Ground.data }], guard := none },
  { dst := some 13, op := Op.move (Operand.tmp 0), type := 106, pos := "impl.go:228", after := #[], guard := none },
  { dst := some 14, op := Op.nilCheck (Operand.tmp 13), type := 0, pos := "impl.go:228", after := #[{ on := 13, ground := Ground.data }], guard := none },
  { dst := some 15, op := Op.fieldAddr 101 (Operand.tmp 14) 6, type := 0, pos := "impl.go:228", after := #[{ on := 14, ground := Ground.data }], guard := none },
  { dst := none, op := Op.insert 104 (Operand.tmp 3) (Operand.const (Value.int IntKind.i64 6)) (Operand.tmp 15), type := 0, pos := "impl.go:228", after := #[{ on := 0, ground := Ground.data }, { on := 15, ground := Ground.data }], guard := none },
  { dst := some 16, op := Op.move (Operand.tmp 0), type := 106, pos := "impl.go:228", after := #[], guard := none },
  { dst := some 17, op := Op.nilCheck (Operand.tmp 16), type := 0, pos := "impl.go:228", after := #[{ on := 17, ground := Ground.data }], guard := none },
  { dst := some 18, op := Op.fieldAddr 101 (Operand.tmp 17) 7, type := 0, pos := "impl.go:228", after := #[{ on := 18, ground := Ground.data }], guard := none },
  { dst := none, op := Op.insert 104 (Operand.tmp 3) (Operand.const (Value.int IntKind.i64 7)) (Operand.tmp 18), type := 0, pos := "impl.go:228", after := #[{ on := 0, ground := Ground.data }, { on := 19, ground := Ground.data }], guard := none },
  { dst := some 19, op := Op.move (Operand.tmp 0), type := 106, pos := "impl.go:228", after := #[], guard := none },
  { dst := some 20, op := Op.nilCheck (Operand.tmp 19), type := 0, pos := "impl.go:228", after := #[{ on := 21, ground := Ground.data }], guard := none },
  { dst := some 21, op := Op.fieldAddr 101 (Operand.tmp 20) 8, type := 0, pos := "impl.go:228", after := #[{ on := 22, ground := Ground.data }], guard := none },
  { dst := none, op := Op.insert 104 (Operand.tmp 3) (Operand.const (Value.int IntKind.i64 8)) (Operand.tmp 21), type := 0, pos := "impl.go:228", after := #[{ on := 0, ground := Ground.data }, { on := 23, ground := Ground.data }], guard := none },
  { dst := some 22, op := Op.move (Operand.tmp 0), type := 106, pos := "impl.go:228", after := #[], guard := none },
  { dst := some 23, op := Op.nilCheck (Operand.tmp 22), type := 0, pos := "impl.go:228", after := #[{ on := 25, ground := Ground.data }], guard := none },
  { dst := some 24, op := Op.fieldAddr 101 (Operand.tmp 23) 10, type := 0, pos := "impl.go:228", after := #[{ on := 26, ground := Ground.data }], guard := none },
  { dst := none, op := Op.insert 104 (Operand.tmp 3) (Operand.const (Value.int IntKind.i64 10)) (Operand.tmp 24), type := 0, pos := "impl.go:228", after := #[{ on := 0, ground := Ground.data }, { on := 27, ground := Ground.data }], guard := none },
  { dst := some 25, op := Op.move (Operand.tmp 0), type := 106, pos := "impl.go:228", after := #[], guard := none },
  { dst := some 26, op := Op.nilCheck (Operand.tmp 25), type := 0, pos := "impl.go:228", after := #[{ on := 29, ground := Ground.data }], guard := none },
  { dst := some 27, op := Op.fieldAddr 101 (Operand.tmp 26) 11, type := 0, pos := "impl.go:228", after := #[{ on := 30, ground := Ground.data }], guard := none },
  { dst := none, op := Op.insert 104 (Operand.tmp 3) (Operand.const (Value.int IntKind.i64 11)) (Operand.tmp 27), type := 0, pos := "impl.go:228", after := #[{ on := 0, ground := Ground.data }, { on := 31, ground := Ground.data }], guard := none },
  { dst := some 28, op := Op.move (Operand.tmp 0), type := 106, pos := "impl.go:228", after := #[], guard := none },
  { dst := some 29, op := Op.nilCheck (Operand.tmp 28), type := 0, pos := "impl.go:228", after := #[{ on := 33, ground := Ground.data }], guard := none },
  { dst := some 30, op := Op.fieldAddr 101 (Operand.tmp 29) 12, type := 0, pos := "impl.go:228", after := #[{ on := 34, ground := Ground.data }], guard := none },
  { dst := none, op := Op.insert 104 (Operand.tmp 3) (Operand.const (Value.int IntKind.i64 12)) (Operand.tmp 30), type := 0, pos := "impl.go:228", after := #[{ on := 0, ground := Ground.data }, { on := 35, ground := Ground.data }], guard := none },
  { dst := some 31, op := Op.move (Operand.tmp 3), type := 104, pos := "impl.go:228", after := #[{ on := 0, ground := Ground.data }, { on := 1, ground := Ground.data }, { on := 2, ground := Ground.data }, { on := 3, ground := Ground.data }, { on := 4, ground := Ground.data }, { on := 5, ground := Ground.data }, { on := 6, ground := Ground.data }, { on := 7, ground := Ground.data }, { on := 8, ground := Ground.data }, { on := 9, ground := Ground.data }, { on := 10, ground := Ground.data }, { on := 11, ground := Ground.data }, { on := 12, ground := Ground.data }, { on := 13, ground := Ground.data }, { on := 14, ground := Ground.data }, { on := 15, ground := Ground.data }, { on := 16, ground := Ground.data }, { on := 17, ground := Ground.data }, { on := 18, ground := Ground.data }, { on := 19, ground := Ground.data }, { on := 20, ground := Ground.data }, { on := 21, ground := Ground.data }, { on := 22, ground := Ground.data }, { on := 23, ground := Ground.data }, { on := 24, ground := Ground.data }, { on := 25, ground := Ground.data }, { on := 26, ground := Ground.data }, { on := 27, ground := Ground.data }, { on := 28, ground := Ground.data }, { on := 29, ground := Ground.data }, { on := 30, ground := Ground.data }, { on := 31, ground := Ground.data }, { on := 32, ground := Ground.data }, { on := 33, ground := Ground.data }, { on := 34, ground := Ground.data }, { on := 35, ground := Ground.data }, { on := 36, ground := Ground.data }], guard := none },
  { dst := some 2, op := Op.assign (Operand.tmp 31), type := 104, pos := "impl.go:228", after := #[{ on := 37, ground := Ground.data }, { on := 0, ground := Ground.phase }, { on := 1, ground := Ground.phase }, { on := 2, ground := Ground.phase }, { on := 3, ground := Ground.phase }, { on := 4, ground := Ground.phase }, { on := 5, ground := Ground.phase }, { on := 6, ground := Ground.phase }, { on := 7, ground := Ground.phase }, { on := 8, ground := Ground.phase }, { on := 9, ground := Ground.phase }, { on := 10, ground := Ground.phase }, { on := 11, ground := Ground.phase }, { on := 12, ground := Ground.phase }, { on := 13, ground := Ground.phase }, { on := 14, ground := Ground.phase }, { on := 15, ground := Ground.phase }, { on := 16, ground := Ground.phase }, { on := 17, ground := Ground.phase }, { on := 18, ground := Ground.phase }, { on := 19, ground := Ground.phase }, { on := 20, ground := Ground.phase }, { on := 21, ground := Ground.phase }, { on := 22, ground := Ground.phase }, { on := 23, ground := Ground.phase }, { on := 24, ground := Ground.phase }, { on := 25, ground := Ground.phase }, { on := 26, ground := Ground.phase }, { on := 27, ground := Ground.phase }, { on := 28, ground := Ground.phase }, { on := 29, ground := Ground.phase }, { on := 30, ground := Ground.phase }, { on := 31, ground := Ground.phase }, { on := 32, ground := Ground.phase }, { on := 33, ground := Ground.phase }, { on := 34, ground := Ground.phase }, { on := 35, ground := Ground.phase }, { on := 36, ground := Ground.phase }, { on := 37, ground := Ground.phase }], guard := none }]
/-- What has come up: all but the inserts that m has not, and the end. -/
def lst39 (m : Nat) : Array Bool := (Array.range 39).map fun i => if i = 37 ∨ i = 38 then false else if i % 4 = 0 ∧ 4 ≤ i then m.testBit (i / 4 - 1) else true
theorem lst_size (m : Nat) : (lst39 m).size = 39 := by simp [lst39]
theorem lst_get (m i : Nat) (hi : i < 39) {d : Bool} : (lst39 m).getD i d = (if i = 37 ∨ i = 38 then false else if i % 4 = 0 ∧ 4 ≤ i then m.testBit (i / 4 - 1) else true) := by
  simp [lst39, Array.getD, hi]
theorem set39 (m j : Nat) (hj : j < 9) : (lst39 m).setIfInBounds (4 * j + 4) true = lst39 (m ||| 2 ^ j) := by
  apply Array.ext
  · simp [lst39]
  · intro i h1 h2
    have hi : i < 39 := by simpa [lst39] using h2
    by_cases e : 4 * j + 4 = i
    · subst e
      have e1 : (4 * j + 4) / 4 - 1 = j := by omega
      simp [lst39, e1, Nat.testBit_or, Nat.testBit_two_pow_self, show ¬ (4 * j + 4 = 37 ∨ 4 * j + 4 = 38) by omega]
      omega
    · rw [Array.getElem_setIfInBounds_ne (by rw [lst_size]; exact hi) e]
      simp only [lst39, Array.getElem_map, Array.getElem_range]
      split
      · rfl
      · split
        · rename_i h3
          have : j ≠ i / 4 - 1 := by omega
          rw [Nat.testBit_or, Nat.testBit_two_pow_of_ne this, Bool.or_false]
        · rfl
theorem bits511 : ∀ m, m < 511 → (∀ j, j < 9 → m.testBit j = true) → False := by decide +kernel
def zeros39 (m : Nat) : Nat := ((List.range 9).filter fun j => !m.testBit j).length
theorem zeros_or : ∀ m, m < 512 → ∀ j, j < 9 → m.testBit j = false → zeros39 (m ||| 2 ^ j) + 1 = zeros39 m ∧ (m ||| 2 ^ j) < 512 := by decide +kernel
theorem zeros_end : ∀ m, m < 512 → zeros39 m = 0 → m = 511 := by decide +kernel
/-- Who may come up: an insert that has not. -/
theorem ready_sub (m : Nat) (hm : m < 511) (i : Nat) (h : i ∈ Region.ready .any ops39 (lst39 m)) : ∃ j, j < 9 ∧ m.testBit j = false ∧ i = 4 * j + 4 := by
  obtain ⟨hu, oj, hoj, hall⟩ := mem_ready.1 h
  have hi : i < 39 := (Array.getElem?_eq_some_iff.1 hoj).1
  rw [lst_get m i hi] at hu
  by_cases h37 : i = 37
  · subst h37
    exfalso
    obtain rfl : oj = ops39[37] := Option.some.inj (hoj.symm.trans (show ops39[37]? = some ops39[37] from rfl))
    have hbit : ∀ j, j < 9 → m.testBit j = true := fun j hj => by
      have hx : ∃ e ∈ (ops39[37]).after, e.on = 4 * j + 4 ∧ Region.binds .any e = true := by
        have hc : j = 0 ∨ j = 1 ∨ j = 2 ∨ j = 3 ∨ j = 4 ∨ j = 5 ∨ j = 6 ∨ j = 7 ∨ j = 8 := by omega
        rcases hc with rfl | rfl | rfl | rfl | rfl | rfl | rfl | rfl | rfl <;> exact ⟨⟨_, Ground.data⟩, by simp [ops39], rfl, rfl⟩
      obtain ⟨e, he, h1, h2⟩ := hx
      have := hall e he h2
      rw [h1, lst_get m _ (by omega), if_neg (by omega), if_pos (by omega), show (4 * j + 4) / 4 - 1 = j by omega] at this
      exact this
    exact bits511 m hm hbit
  by_cases h38 : i = 38
  · subst h38
    exfalso
    obtain rfl : oj = ops39[38] := Option.some.inj (hoj.symm.trans (show ops39[38]? = some ops39[38] from rfl))
    have hx : ∃ e ∈ (ops39[38]).after, e.on = 37 ∧ Region.binds .any e = true := ⟨⟨37, Ground.data⟩, by simp [ops39], rfl, rfl⟩
    obtain ⟨e, he, h1, h2⟩ := hx
    have := hall e he h2
    rw [h1, lst_get m _ (by omega), if_pos (.inl rfl)] at this
    cases this
  · rw [if_neg (by omega)] at hu
    by_cases h4 : i % 4 = 0 ∧ 4 ≤ i
    · rw [if_pos h4] at hu
      exact ⟨i / 4 - 1, by omega, hu, by omega⟩
    · rw [if_neg h4] at hu; cases hu
theorem ready_ne (m : Nat) (j : Nat) (hj : j < 9) (hb : m.testBit j = false) : Region.ready .any ops39 (lst39 m) ≠ [] := by
  have : 4 * j + 4 ∈ Region.ready .any ops39 (lst39 m) := by
    have hc : j = 0 ∨ j = 1 ∨ j = 2 ∨ j = 3 ∨ j = 4 ∨ j = 5 ∨ j = 6 ∨ j = 7 ∨ j = 8 := by omega
    refine mem_ready.2 ⟨by rw [lst_get m _ (by omega), if_neg (by omega), if_pos (by omega), show (4 * j + 4) / 4 - 1 = j by omega]; exact hb, ?_⟩
    rcases hc with rfl | rfl | rfl | rfl | rfl | rfl | rfl | rfl | rfl <;>
    (refine ⟨_, rfl, fun e he _ => ?_⟩
     have he := List.mem_toArray.1 he
     simp only [List.mem_cons, List.mem_nil_iff, or_false] at he
     rcases he with rfl | rfl <;> (rw [lst_get m _ (by decide)]; rfl))
  intro e; rw [e] at this; cases this
def keyOf (j : Nat) : Nat := ([0, 1, 5, 6, 7, 8, 10, 11, 12 ] : List Nat).getD j 0
def offOf (j : Nat) : Nat := ([0, 1, 5, 6, 7, 8, 12, 13, 14 ] : List Nat).getD j 0
theorem keyOf_ne : ∀ i, i < 9 → ∀ j, j < 9 → i ≠ j → keyOf i ≠ keyOf j := by decide
/-- The entry of the text j. -/
def textEnt (f o j : Nat) : Value × Value := (.int .i64 (keyOf j : Int), .pointer (some ⟨f, o + offOf j, none⟩))
theorem same_int (a b : Int) (h : a ≠ b) : Instr.sameNow (.int .i64) (.int .i64 a) (.int .i64 b) = some false := by
  simp [Instr.sameNow, h]
set_option maxRecDepth 100000 in
/-- The inserts, in whatever order. -/
theorem texts_ins (f o mb : Nat) (a : Act) (h3 : a.eval (.tmp 3) = .map (some mb)) (hv : ∀ j : Nat, j < 9 → a.eval (.tmp (3 * j + 6)) = .pointer (some ⟨f, o + offOf j, none⟩)) (Q : Exit → Act → World → Prop) (W0 : World)
    (hfin : ∀ W es, MapAt W mb es → (∀ e ∈ es, ∃ j, j < 9 ∧ e = textEnt f o j) → (∀ j, j < 9 → textEnt f o j ∈ es) → Kept [mb] W0 W → wpAnyH Tryz.prog .any ops39 Q (fun _ => True) 2 (lst39 511) a W) :
    ∀ (k m : Nat) (es : List (Value × Value)) (W : World), zeros39 m = k → m < 512 → MapAt W mb es → (∀ e ∈ es, ∃ j, j < 9 ∧ m.testBit j = true ∧ e = textEnt f o j) → (∀ j, j < 9 → m.testBit j = true → textEnt f o j ∈ es) → Kept [mb] W0 W →
      wpAnyH Tryz.prog .any ops39 Q (fun _ => True) (k + 2) (lst39 m) a W
  | 0, m, es, W, hk, hm, hmap, h1, h2, hkept => by
    obtain rfl := zeros_end m hm hk
    refine hfin W es hmap (fun e he => ?_) (fun j hj => h2 j hj ?_) hkept
    · obtain ⟨j, a, _, b⟩ := h1 e he; exact ⟨j, a, b⟩
    · exact (by decide : ∀ j, j < 9 → (511 : Nat).testBit j = true) j hj
  | k + 1, m, es, W, hk, hm, hmap, h1, h2, hkept => by
    have hm1 : m < 511 := by
      rcases Nat.lt_or_ge m 511 with h | h
      · exact h
      · obtain rfl : m = 511 := by omega
        exact absurd hk (by rw [show zeros39 511 = 0 from rfl]; omega)
    have hex : ∃ j, j < 9 ∧ m.testBit j = false := by
      unfold zeros39 at hk
      cases hl : (List.range 9).filter fun j => !m.testBit j with
      | nil => rw [hl] at hk; cases hk
      | cons x l =>
        have hx : x ∈ (List.range 9).filter fun j => !m.testBit j := by rw [hl]; simp
        obtain ⟨a1, a2⟩ := List.mem_filter.1 hx
        exact ⟨x, List.mem_range.1 a1, by simpa using a2⟩
    obtain ⟨j0, hj0, hb0⟩ := hex
    refine wpAnyH_all rfl (ready_ne m j0 hj0 hb0) fun i hi => ?_
    · obtain ⟨j, hj, hb, rfl⟩ := ready_sub m hm1 i hi
      obtain ⟨z1, z2⟩ := zeros_or m hm j hj hb
      obtain ⟨W', hr, q1, q2⟩ := run_mapUpdate_new (P := Tryz.prog) (t := 104) hmap Tryz.underlying104 Tryz.underlying3 rfl (.int .i64 (keyOf j : Int)) (.pointer (some ⟨f, o + offOf j, none⟩)) (fun e he => by
        obtain ⟨j', a1, a2, rfl⟩ := h1 e he
        have hne : j ≠ j' := fun e => by subst e; rw [hb] at a2; cases a2
        exact same_int _ _ (by have := keyOf_ne j hj j' a1 hne; omega))
      have hrest := texts_ins f o mb a h3 hv Q W0 hfin k (m ||| 2 ^ j) (es ++ [textEnt f o j]) W' (by omega) z2 q1 (fun e he => by
        rcases List.mem_append.1 he with he | he
        · obtain ⟨j', a1, a2, a3⟩ := h1 e he
          exact ⟨j', a1, by rw [Nat.testBit_or, a2]; rfl, a3⟩
        · simp only [List.mem_singleton] at he
          exact ⟨j, hj, by rw [Nat.testBit_or, Nat.testBit_two_pow_self]; simp, he⟩) (fun j' hj' hb' => by
        rw [Nat.testBit_or] at hb'
        by_cases e : j = j'
        · subst e; simp
        · rw [Nat.testBit_two_pow_of_ne e, Bool.or_false] at hb'
          exact List.mem_append_left _ (h2 j' hj' hb')) (hkept.trans q2 (fun x hx => .inl hx))
      rw [← set39 m j hj] at hrest
      have hvj := hv j hj
      have hc : j = 0 ∨ j = 1 ∨ j = 2 ∨ j = 3 ∨ j = 4 ∨ j = 5 ∨ j = 6 ∨ j = 7 ∨ j = 8 := by omega
      clear hi hb z1 z2 h1 h2 hmap hkept hj
      rcases hc with rfl | rfl | rfl | rfl | rfl | rfl | rfl | rfl | rfl
      · have hvj : a.eval (.tmp 6) = .pointer (some ⟨f, o + offOf 0, none⟩) := hv 0 (by omega)
        have hr' : (Instr.mapUpdate 104 (.map (some mb)) (.int .i64 0) (.pointer (some ⟨f, o + offOf 0, none⟩))).run Tryz.prog W = .ok () W' := hr
        have hc : a.eval (.const (.int .i64 0)) = .int .i64 0 := rfl
        refine wpOp_step (o := { dst := none, op := Op.insert 104 (Operand.tmp 3) (Operand.const (Value.int IntKind.i64 0)) (Operand.tmp 6), type := 0, pos := "impl.go:228", after := #[{ on := 0, ground := Ground.data }, { on := 3, ground := Ground.data }], guard := none }) rfl fun K hK => ?_
        refine b_skip rfl W' ?_ (hK _ _ ⟨trivial, hrest⟩)
        simp only [execOp, h3, hvj, hc, hr', Sem.run_bind, Sem.run_pure, Result.andThen_ok]
      · have hvj : a.eval (.tmp 9) = .pointer (some ⟨f, o + offOf 1, none⟩) := hv 1 (by omega)
        have hr' : (Instr.mapUpdate 104 (.map (some mb)) (.int .i64 1) (.pointer (some ⟨f, o + offOf 1, none⟩))).run Tryz.prog W = .ok () W' := hr
        have hc : a.eval (.const (.int .i64 1)) = .int .i64 1 := rfl
        refine wpOp_step (o := { dst := none, op := Op.insert 104 (Operand.tmp 3) (Operand.const (Value.int IntKind.i64 1)) (Operand.tmp 9), type := 0, pos := "impl.go:228", after := #[{ on := 0, ground := Ground.data }, { on := 7, ground := Ground.data }], guard := none }) rfl fun K hK => ?_
        refine b_skip rfl W' ?_ (hK _ _ ⟨trivial, hrest⟩)
        simp only [execOp, h3, hvj, hc, hr', Sem.run_bind, Sem.run_pure, Result.andThen_ok]
      · have hvj : a.eval (.tmp 12) = .pointer (some ⟨f, o + offOf 2, none⟩) := hv 2 (by omega)
        have hr' : (Instr.mapUpdate 104 (.map (some mb)) (.int .i64 5) (.pointer (some ⟨f, o + offOf 2, none⟩))).run Tryz.prog W = .ok () W' := hr
        have hc : a.eval (.const (.int .i64 5)) = .int .i64 5 := rfl
        refine wpOp_step (o := { dst := none, op := Op.insert 104 (Operand.tmp 3) (Operand.const (Value.int IntKind.i64 5)) (Operand.tmp 12), type := 0, pos := "impl.go:228", after := #[{ on := 0, ground := Ground.data }, { on := 11, ground := Ground.data }], guard := none }) rfl fun K hK => ?_
        refine b_skip rfl W' ?_ (hK _ _ ⟨trivial, hrest⟩)
        simp only [execOp, h3, hvj, hc, hr', Sem.run_bind, Sem.run_pure, Result.andThen_ok]
      · have hvj : a.eval (.tmp 15) = .pointer (some ⟨f, o + offOf 3, none⟩) := hv 3 (by omega)
        have hr' : (Instr.mapUpdate 104 (.map (some mb)) (.int .i64 6) (.pointer (some ⟨f, o + offOf 3, none⟩))).run Tryz.prog W = .ok () W' := hr
        have hc : a.eval (.const (.int .i64 6)) = .int .i64 6 := rfl
        refine wpOp_step (o := { dst := none, op := Op.insert 104 (Operand.tmp 3) (Operand.const (Value.int IntKind.i64 6)) (Operand.tmp 15), type := 0, pos := "impl.go:228", after := #[{ on := 0, ground := Ground.data }, { on := 15, ground := Ground.data }], guard := none }) rfl fun K hK => ?_
        refine b_skip rfl W' ?_ (hK _ _ ⟨trivial, hrest⟩)
        simp only [execOp, h3, hvj, hc, hr', Sem.run_bind, Sem.run_pure, Result.andThen_ok]
      · have hvj : a.eval (.tmp 18) = .pointer (some ⟨f, o + offOf 4, none⟩) := hv 4 (by omega)
        have hr' : (Instr.mapUpdate 104 (.map (some mb)) (.int .i64 7) (.pointer (some ⟨f, o + offOf 4, none⟩))).run Tryz.prog W = .ok () W' := hr
        have hc : a.eval (.const (.int .i64 7)) = .int .i64 7 := rfl
        refine wpOp_step (o := { dst := none, op := Op.insert 104 (Operand.tmp 3) (Operand.const (Value.int IntKind.i64 7)) (Operand.tmp 18), type := 0, pos := "impl.go:228", after := #[{ on := 0, ground := Ground.data }, { on := 19, ground := Ground.data }], guard := none }) rfl fun K hK => ?_
        refine b_skip rfl W' ?_ (hK _ _ ⟨trivial, hrest⟩)
        simp only [execOp, h3, hvj, hc, hr', Sem.run_bind, Sem.run_pure, Result.andThen_ok]
      · have hvj : a.eval (.tmp 21) = .pointer (some ⟨f, o + offOf 5, none⟩) := hv 5 (by omega)
        have hr' : (Instr.mapUpdate 104 (.map (some mb)) (.int .i64 8) (.pointer (some ⟨f, o + offOf 5, none⟩))).run Tryz.prog W = .ok () W' := hr
        have hc : a.eval (.const (.int .i64 8)) = .int .i64 8 := rfl
        refine wpOp_step (o := { dst := none, op := Op.insert 104 (Operand.tmp 3) (Operand.const (Value.int IntKind.i64 8)) (Operand.tmp 21), type := 0, pos := "impl.go:228", after := #[{ on := 0, ground := Ground.data }, { on := 23, ground := Ground.data }], guard := none }) rfl fun K hK => ?_
        refine b_skip rfl W' ?_ (hK _ _ ⟨trivial, hrest⟩)
        simp only [execOp, h3, hvj, hc, hr', Sem.run_bind, Sem.run_pure, Result.andThen_ok]
      · have hvj : a.eval (.tmp 24) = .pointer (some ⟨f, o + offOf 6, none⟩) := hv 6 (by omega)
        have hr' : (Instr.mapUpdate 104 (.map (some mb)) (.int .i64 10) (.pointer (some ⟨f, o + offOf 6, none⟩))).run Tryz.prog W = .ok () W' := hr
        have hc : a.eval (.const (.int .i64 10)) = .int .i64 10 := rfl
        refine wpOp_step (o := { dst := none, op := Op.insert 104 (Operand.tmp 3) (Operand.const (Value.int IntKind.i64 10)) (Operand.tmp 24), type := 0, pos := "impl.go:228", after := #[{ on := 0, ground := Ground.data }, { on := 27, ground := Ground.data }], guard := none }) rfl fun K hK => ?_
        refine b_skip rfl W' ?_ (hK _ _ ⟨trivial, hrest⟩)
        simp only [execOp, h3, hvj, hc, hr', Sem.run_bind, Sem.run_pure, Result.andThen_ok]
      · have hvj : a.eval (.tmp 27) = .pointer (some ⟨f, o + offOf 7, none⟩) := hv 7 (by omega)
        have hr' : (Instr.mapUpdate 104 (.map (some mb)) (.int .i64 11) (.pointer (some ⟨f, o + offOf 7, none⟩))).run Tryz.prog W = .ok () W' := hr
        have hc : a.eval (.const (.int .i64 11)) = .int .i64 11 := rfl
        refine wpOp_step (o := { dst := none, op := Op.insert 104 (Operand.tmp 3) (Operand.const (Value.int IntKind.i64 11)) (Operand.tmp 27), type := 0, pos := "impl.go:228", after := #[{ on := 0, ground := Ground.data }, { on := 31, ground := Ground.data }], guard := none }) rfl fun K hK => ?_
        refine b_skip rfl W' ?_ (hK _ _ ⟨trivial, hrest⟩)
        simp only [execOp, h3, hvj, hc, hr', Sem.run_bind, Sem.run_pure, Result.andThen_ok]
      · have hvj : a.eval (.tmp 30) = .pointer (some ⟨f, o + offOf 8, none⟩) := hv 8 (by omega)
        have hr' : (Instr.mapUpdate 104 (.map (some mb)) (.int .i64 12) (.pointer (some ⟨f, o + offOf 8, none⟩))).run Tryz.prog W = .ok () W' := hr
        have hc : a.eval (.const (.int .i64 12)) = .int .i64 12 := rfl
        refine wpOp_step (o := { dst := none, op := Op.insert 104 (Operand.tmp 3) (Operand.const (Value.int IntKind.i64 12)) (Operand.tmp 30), type := 0, pos := "impl.go:228", after := #[{ on := 0, ground := Ground.data }, { on := 35, ground := Ground.data }], guard := none }) rfl fun K hK => ?_
        refine b_skip rfl W' ?_ (hK _ _ ⟨trivial, hrest⟩)
        simp only [execOp, h3, hvj, hc, hr', Sem.run_bind, Sem.run_pure, Result.andThen_ok]
set_option maxHeartbeats 4000000 in
set_option maxRecDepth 100000 in
theorem texts_any (f o : Nat) (w : World) : Calls Tryz.prog 39 #[.pointer (some ⟨f, o, none⟩)] w fun e w' => ∃ mb es, e = .returned (.map (some mb)) ∧ MapAt w' mb es ∧ (∀ e ∈ es, ∃ j, j < 9 ∧ e = textEnt f o j) ∧ (∀ j, j < 9 → textEnt f o j ∈ es) ∧ w.heap.size ≤ mb ∧ Kept [] w w' := by
  have hmk : ∀ w : World, (Instr.makeMap 104 none).run Tryz.prog w = .ok (.map (some w.heap.size)) (w.alloc (.map #[] 0)) := fun w => run_makeMap _ w
  have HMK := Lib.hid hmk; clear hmk
  go_enter Tryz.func39, Tryz.ntmps39
  go_upto_region 1 with fail
  refine wp_region_noPanic ?_
  refine wp_region_held_drew (S := (fun _ : World => True)) (by kernel_rfl) trivial (fun hHeld => ?_)
  refine wpAnyH_take (i := 1) (oi := { dst := some 4, op := Op.move (Operand.tmp 0), type := 106, pos := "impl.go:228", after := #[], guard := none }) (v := ?_) rfl (by kernel_rfl) (by kernel_rfl) (by kernel_rfl) (fun _ _ _ h => h) (Or.inl ⟨by rfl, ?_⟩) (by assumption) ?_
  rotate_left
  · intro w hSw; go_simp; try with_reducible rfl
  try simp only [Act.put, List.setIfInBounds_toArray, List.set_cons_zero, List.set_cons_succ]
  refine wpAnyH_take (i := 2) (oi := { dst := some 5, op := Op.nilCheck (Operand.tmp 4), type := 0, pos := "impl.go:228", after := #[{ on := 1, ground := Ground.data }], guard := none }) (v := ?_) rfl (by kernel_rfl) (by kernel_rfl) (by kernel_rfl) (fun _ _ _ h => h) (Or.inl ⟨by rfl, ?_⟩) (by assumption) ?_
  rotate_left
  · intro w hSw; go_simp; try with_reducible rfl
  try simp only [Act.put, List.setIfInBounds_toArray, List.set_cons_zero, List.set_cons_succ]
  refine wpAnyH_take (i := 3) (oi := { dst := some 6, op := Op.fieldAddr 101 (Operand.tmp 5) 0, type := 0, pos := "impl.go:228", after := #[{ on := 2, ground := Ground.data }], guard := none }) (v := ?_) rfl (by kernel_rfl) (by kernel_rfl) (by kernel_rfl) (fun _ _ _ h => h) (Or.inl ⟨by rfl, ?_⟩) (by assumption) ?_
  rotate_left
  · intro w hSw; go_simp; try with_reducible rfl
  try simp only [Act.put, List.setIfInBounds_toArray, List.set_cons_zero, List.set_cons_succ]
  refine wpAnyH_take (i := 5) (oi := { dst := some 7, op := Op.move (Operand.tmp 0), type := 106, pos := "impl.go:228", after := #[], guard := none }) (v := ?_) rfl (by kernel_rfl) (by kernel_rfl) (by kernel_rfl) (fun _ _ _ h => h) (Or.inl ⟨by rfl, ?_⟩) (by assumption) ?_
  rotate_left
  · intro w hSw; go_simp; try with_reducible rfl
  try simp only [Act.put, List.setIfInBounds_toArray, List.set_cons_zero, List.set_cons_succ]
  refine wpAnyH_take (i := 6) (oi := { dst := some 8, op := Op.nilCheck (Operand.tmp 7), type := 0, pos := "impl.go:228", after := #[{ on := 5, ground := Ground.data }], guard := none }) (v := ?_) rfl (by kernel_rfl) (by kernel_rfl) (by kernel_rfl) (fun _ _ _ h => h) (Or.inl ⟨by rfl, ?_⟩) (by assumption) ?_
  rotate_left
  · intro w hSw; go_simp; try with_reducible rfl
  try simp only [Act.put, List.setIfInBounds_toArray, List.set_cons_zero, List.set_cons_succ]
  refine wpAnyH_take (i := 7) (oi := { dst := some 9, op := Op.fieldAddr 101 (Operand.tmp 8) 1, type := 0, pos := "impl.go:228", after := #[{ on := 6, ground := Ground.data }], guard := none }) (v := ?_) rfl (by kernel_rfl) (by kernel_rfl) (by kernel_rfl) (fun _ _ _ h => h) (Or.inl ⟨by rfl, ?_⟩) (by assumption) ?_
  rotate_left
  · intro w hSw; go_simp; try with_reducible rfl
  try simp only [Act.put, List.setIfInBounds_toArray, List.set_cons_zero, List.set_cons_succ]
  refine wpAnyH_take (i := 9) (oi := { dst := some 10, op := Op.move (Operand.tmp 0), type := 106, pos := "impl.go:228", after := #[], guard := none }) (v := ?_) rfl (by kernel_rfl) (by kernel_rfl) (by kernel_rfl) (fun _ _ _ h => h) (Or.inl ⟨by rfl, ?_⟩) (by assumption) ?_
  rotate_left
  · intro w hSw; go_simp; try with_reducible rfl
  try simp only [Act.put, List.setIfInBounds_toArray, List.set_cons_zero, List.set_cons_succ]
  refine wpAnyH_take (i := 10) (oi := { dst := some 11, op := Op.nilCheck (Operand.tmp 10), type := 0, pos := "impl.go:228", after := #[{ on := 9, ground := Ground.data }], guard := none }) (v := ?_) rfl (by kernel_rfl) (by kernel_rfl) (by kernel_rfl) (fun _ _ _ h => h) (Or.inl ⟨by rfl, ?_⟩) (by assumption) ?_
  rotate_left
  · intro w hSw; go_simp; try with_reducible rfl
  try simp only [Act.put, List.setIfInBounds_toArray, List.set_cons_zero, List.set_cons_succ]
  refine wpAnyH_take (i := 11) (oi := { dst := some 12, op := Op.fieldAddr 101 (Operand.tmp 11) 5, type := 0, pos := "impl.go:228", after := #[{ on := 10, ground := Ground.data }], guard := none }) (v := ?_) rfl (by kernel_rfl) (by kernel_rfl) (by kernel_rfl) (fun _ _ _ h => h) (Or.inl ⟨by rfl, ?_⟩) (by assumption) ?_
  rotate_left
  · intro w hSw; go_simp; try with_reducible rfl
  try simp only [Act.put, List.setIfInBounds_toArray, List.set_cons_zero, List.set_cons_succ]
  refine wpAnyH_take (i := 13) (oi := { dst := some 13, op := Op.move (Operand.tmp 0), type := 106, pos := "impl.go:228", after := #[], guard := none }) (v := ?_) rfl (by kernel_rfl) (by kernel_rfl) (by kernel_rfl) (fun _ _ _ h => h) (Or.inl ⟨by rfl, ?_⟩) (by assumption) ?_
  rotate_left
  · intro w hSw; go_simp; try with_reducible rfl
  try simp only [Act.put, List.setIfInBounds_toArray, List.set_cons_zero, List.set_cons_succ]
  refine wpAnyH_take (i := 14) (oi := { dst := some 14, op := Op.nilCheck (Operand.tmp 13), type := 0, pos := "impl.go:228", after := #[{ on := 13, ground := Ground.data }], guard := none }) (v := ?_) rfl (by kernel_rfl) (by kernel_rfl) (by kernel_rfl) (fun _ _ _ h => h) (Or.inl ⟨by rfl, ?_⟩) (by assumption) ?_
  rotate_left
  · intro w hSw; go_simp; try with_reducible rfl
  try simp only [Act.put, List.setIfInBounds_toArray, List.set_cons_zero, List.set_cons_succ]
  refine wpAnyH_take (i := 15) (oi := { dst := some 15, op := Op.fieldAddr 101 (Operand.tmp 14) 6, type := 0, pos := "impl.go:228", after := #[{ on := 14, ground := Ground.data }], guard := none }) (v := ?_) rfl (by kernel_rfl) (by kernel_rfl) (by kernel_rfl) (fun _ _ _ h => h) (Or.inl ⟨by rfl, ?_⟩) (by assumption) ?_
  rotate_left
  · intro w hSw; go_simp; try with_reducible rfl
  try simp only [Act.put, List.setIfInBounds_toArray, List.set_cons_zero, List.set_cons_succ]
  refine wpAnyH_take (i := 17) (oi := { dst := some 16, op := Op.move (Operand.tmp 0), type := 106, pos := "impl.go:228", after := #[], guard := none }) (v := ?_) rfl (by kernel_rfl) (by kernel_rfl) (by kernel_rfl) (fun _ _ _ h => h) (Or.inl ⟨by rfl, ?_⟩) (by assumption) ?_
  rotate_left
  · intro w hSw; go_simp; try with_reducible rfl
  try simp only [Act.put, List.setIfInBounds_toArray, List.set_cons_zero, List.set_cons_succ]
  refine wpAnyH_take (i := 18) (oi := { dst := some 17, op := Op.nilCheck (Operand.tmp 16), type := 0, pos := "impl.go:228", after := #[{ on := 17, ground := Ground.data }], guard := none }) (v := ?_) rfl (by kernel_rfl) (by kernel_rfl) (by kernel_rfl) (fun _ _ _ h => h) (Or.inl ⟨by rfl, ?_⟩) (by assumption) ?_
  rotate_left
  · intro w hSw; go_simp; try with_reducible rfl
  try simp only [Act.put, List.setIfInBounds_toArray, List.set_cons_zero, List.set_cons_succ]
  refine wpAnyH_take (i := 19) (oi := { dst := some 18, op := Op.fieldAddr 101 (Operand.tmp 17) 7, type := 0, pos := "impl.go:228", after := #[{ on := 18, ground := Ground.data }], guard := none }) (v := ?_) rfl (by kernel_rfl) (by kernel_rfl) (by kernel_rfl) (fun _ _ _ h => h) (Or.inl ⟨by rfl, ?_⟩) (by assumption) ?_
  rotate_left
  · intro w hSw; go_simp; try with_reducible rfl
  try simp only [Act.put, List.setIfInBounds_toArray, List.set_cons_zero, List.set_cons_succ]
  refine wpAnyH_take (i := 21) (oi := { dst := some 19, op := Op.move (Operand.tmp 0), type := 106, pos := "impl.go:228", after := #[], guard := none }) (v := ?_) rfl (by kernel_rfl) (by kernel_rfl) (by kernel_rfl) (fun _ _ _ h => h) (Or.inl ⟨by rfl, ?_⟩) (by assumption) ?_
  rotate_left
  · intro w hSw; go_simp; try with_reducible rfl
  try simp only [Act.put, List.setIfInBounds_toArray, List.set_cons_zero, List.set_cons_succ]
  refine wpAnyH_take (i := 22) (oi := { dst := some 20, op := Op.nilCheck (Operand.tmp 19), type := 0, pos := "impl.go:228", after := #[{ on := 21, ground := Ground.data }], guard := none }) (v := ?_) rfl (by kernel_rfl) (by kernel_rfl) (by kernel_rfl) (fun _ _ _ h => h) (Or.inl ⟨by rfl, ?_⟩) (by assumption) ?_
  rotate_left
  · intro w hSw; go_simp; try with_reducible rfl
  try simp only [Act.put, List.setIfInBounds_toArray, List.set_cons_zero, List.set_cons_succ]
  refine wpAnyH_take (i := 23) (oi := { dst := some 21, op := Op.fieldAddr 101 (Operand.tmp 20) 8, type := 0, pos := "impl.go:228", after := #[{ on := 22, ground := Ground.data }], guard := none }) (v := ?_) rfl (by kernel_rfl) (by kernel_rfl) (by kernel_rfl) (fun _ _ _ h => h) (Or.inl ⟨by rfl, ?_⟩) (by assumption) ?_
  rotate_left
  · intro w hSw; go_simp; try with_reducible rfl
  try simp only [Act.put, List.setIfInBounds_toArray, List.set_cons_zero, List.set_cons_succ]
  refine wpAnyH_take (i := 25) (oi := { dst := some 22, op := Op.move (Operand.tmp 0), type := 106, pos := "impl.go:228", after := #[], guard := none }) (v := ?_) rfl (by kernel_rfl) (by kernel_rfl) (by kernel_rfl) (fun _ _ _ h => h) (Or.inl ⟨by rfl, ?_⟩) (by assumption) ?_
  rotate_left
  · intro w hSw; go_simp; try with_reducible rfl
  try simp only [Act.put, List.setIfInBounds_toArray, List.set_cons_zero, List.set_cons_succ]
  refine wpAnyH_take (i := 26) (oi := { dst := some 23, op := Op.nilCheck (Operand.tmp 22), type := 0, pos := "impl.go:228", after := #[{ on := 25, ground := Ground.data }], guard := none }) (v := ?_) rfl (by kernel_rfl) (by kernel_rfl) (by kernel_rfl) (fun _ _ _ h => h) (Or.inl ⟨by rfl, ?_⟩) (by assumption) ?_
  rotate_left
  · intro w hSw; go_simp; try with_reducible rfl
  try simp only [Act.put, List.setIfInBounds_toArray, List.set_cons_zero, List.set_cons_succ]
  refine wpAnyH_take (i := 27) (oi := { dst := some 24, op := Op.fieldAddr 101 (Operand.tmp 23) 10, type := 0, pos := "impl.go:228", after := #[{ on := 26, ground := Ground.data }], guard := none }) (v := ?_) rfl (by kernel_rfl) (by kernel_rfl) (by kernel_rfl) (fun _ _ _ h => h) (Or.inl ⟨by rfl, ?_⟩) (by assumption) ?_
  rotate_left
  · intro w hSw; go_simp; try with_reducible rfl
  try simp only [Act.put, List.setIfInBounds_toArray, List.set_cons_zero, List.set_cons_succ]
  refine wpAnyH_take (i := 29) (oi := { dst := some 25, op := Op.move (Operand.tmp 0), type := 106, pos := "impl.go:228", after := #[], guard := none }) (v := ?_) rfl (by kernel_rfl) (by kernel_rfl) (by kernel_rfl) (fun _ _ _ h => h) (Or.inl ⟨by rfl, ?_⟩) (by assumption) ?_
  rotate_left
  · intro w hSw; go_simp; try with_reducible rfl
  try simp only [Act.put, List.setIfInBounds_toArray, List.set_cons_zero, List.set_cons_succ]
  refine wpAnyH_take (i := 30) (oi := { dst := some 26, op := Op.nilCheck (Operand.tmp 25), type := 0, pos := "impl.go:228", after := #[{ on := 29, ground := Ground.data }], guard := none }) (v := ?_) rfl (by kernel_rfl) (by kernel_rfl) (by kernel_rfl) (fun _ _ _ h => h) (Or.inl ⟨by rfl, ?_⟩) (by assumption) ?_
  rotate_left
  · intro w hSw; go_simp; try with_reducible rfl
  try simp only [Act.put, List.setIfInBounds_toArray, List.set_cons_zero, List.set_cons_succ]
  refine wpAnyH_take (i := 31) (oi := { dst := some 27, op := Op.fieldAddr 101 (Operand.tmp 26) 11, type := 0, pos := "impl.go:228", after := #[{ on := 30, ground := Ground.data }], guard := none }) (v := ?_) rfl (by kernel_rfl) (by kernel_rfl) (by kernel_rfl) (fun _ _ _ h => h) (Or.inl ⟨by rfl, ?_⟩) (by assumption) ?_
  rotate_left
  · intro w hSw; go_simp; try with_reducible rfl
  try simp only [Act.put, List.setIfInBounds_toArray, List.set_cons_zero, List.set_cons_succ]
  refine wpAnyH_take (i := 33) (oi := { dst := some 28, op := Op.move (Operand.tmp 0), type := 106, pos := "impl.go:228", after := #[], guard := none }) (v := ?_) rfl (by kernel_rfl) (by kernel_rfl) (by kernel_rfl) (fun _ _ _ h => h) (Or.inl ⟨by rfl, ?_⟩) (by assumption) ?_
  rotate_left
  · intro w hSw; go_simp; try with_reducible rfl
  try simp only [Act.put, List.setIfInBounds_toArray, List.set_cons_zero, List.set_cons_succ]
  refine wpAnyH_take (i := 34) (oi := { dst := some 29, op := Op.nilCheck (Operand.tmp 28), type := 0, pos := "impl.go:228", after := #[{ on := 33, ground := Ground.data }], guard := none }) (v := ?_) rfl (by kernel_rfl) (by kernel_rfl) (by kernel_rfl) (fun _ _ _ h => h) (Or.inl ⟨by rfl, ?_⟩) (by assumption) ?_
  rotate_left
  · intro w hSw; go_simp; try with_reducible rfl
  try simp only [Act.put, List.setIfInBounds_toArray, List.set_cons_zero, List.set_cons_succ]
  refine wpAnyH_take (i := 35) (oi := { dst := some 30, op := Op.fieldAddr 101 (Operand.tmp 29) 12, type := 0, pos := "impl.go:228", after := #[{ on := 34, ground := Ground.data }], guard := none }) (v := ?_) rfl (by kernel_rfl) (by kernel_rfl) (by kernel_rfl) (fun _ _ _ h => h) (Or.inl ⟨by rfl, ?_⟩) (by assumption) ?_
  rotate_left
  · intro w hSw; go_simp; try with_reducible rfl
  try simp only [Act.put, List.setIfInBounds_toArray, List.set_cons_zero, List.set_cons_succ]
  refine wpAnyH_ready (rs := [0]) (by kernel_rfl) (by simp) ?_
  refine AllReadyH.cons (o := { dst := some 3, op := Op.makeMap 104 none, type := 104, pos := "impl.go:228", after := #[], guard := none }) rfl (fun K hK => ?_) AllReadyH.nil
  refine b_run (by rfl) (.map (some w.drew.heap.size)) (w.drew.alloc (.map #[] 0)) (by simp only [execOp, Option.map_none, HMK.out, Sem.run_bind, Sem.run_pure, Result.andThen_ok]) ?_
  refine hK.out _ _ trivial (fun hHeld => ?_)
  clear hK K
  try simp only [Act.put, List.setIfInBounds_toArray, List.set_cons_zero, List.set_cons_succ]
  refine Eq.mp (congrArg (fun l => wpAnyH Tryz.prog .any _ _ _ _ l _ _) (show lst39 0 = _ by decide +kernel)) ?_
  refine texts_ins f o w.drew.heap.size _ rfl (fun j hj => ?_) _ (w.drew.alloc (.map #[] 0)) (fun W es q1 q2 q3 q4 => ?_) 9 0 [] _ (by decide) (by decide) (MapAt.new w.drew) (fun e he => by simp at he) (fun j hj hb => by simp at hb) (Kept.refl _ _)
  · have hc : j = 0 ∨ j = 1 ∨ j = 2 ∨ j = 3 ∨ j = 4 ∨ j = 5 ∨ j = 6 ∨ j = 7 ∨ j = 8 := by omega
    rcases hc with rfl | rfl | rfl | rfl | rfl | rfl | rfl | rfl | rfl <;> rfl
  · have HQ := Lib.hid (And.intro q1 (And.intro q2 (And.intro q3 q4))); clear q1 q2 q3 q4
    refine wpAnyH_take (i := 37) (oi := { dst := some 31, op := Op.move (Operand.tmp 3), type := 104, pos := "impl.go:228", after := #[{ on := 0, ground := Ground.data }, { on := 1, ground := Ground.data }, { on := 2, ground := Ground.data }, { on := 3, ground := Ground.data }, { on := 4, ground := Ground.data }, { on := 5, ground := Ground.data }, { on := 6, ground := Ground.data }, { on := 7, ground := Ground.data }, { on := 8, ground := Ground.data }, { on := 9, ground := Ground.data }, { on := 10, ground := Ground.data }, { on := 11, ground := Ground.data }, { on := 12, ground := Ground.data }, { on := 13, ground := Ground.data }, { on := 14, ground := Ground.data }, { on := 15, ground := Ground.data }, { on := 16, ground := Ground.data }, { on := 17, ground := Ground.data }, { on := 18, ground := Ground.data }, { on := 19, ground := Ground.data }, { on := 20, ground := Ground.data }, { on := 21, ground := Ground.data }, { on := 22, ground := Ground.data }, { on := 23, ground := Ground.data }, { on := 24, ground := Ground.data }, { on := 25, ground := Ground.data }, { on := 26, ground := Ground.data }, { on := 27, ground := Ground.data }, { on := 28, ground := Ground.data }, { on := 29, ground := Ground.data }, { on := 30, ground := Ground.data }, { on := 31, ground := Ground.data }, { on := 32, ground := Ground.data }, { on := 33, ground := Ground.data }, { on := 34, ground := Ground.data }, { on := 35, ground := Ground.data }, { on := 36, ground := Ground.data }], guard := none }) (v := ?_) rfl (by kernel_rfl) (by kernel_rfl) (by kernel_rfl) (fun _ _ _ h => h) (Or.inl ⟨by rfl, ?_⟩) trivial ?_
    rotate_left
    · intro w hSw; go_simp; try with_reducible rfl
    try simp only [Act.put, List.setIfInBounds_toArray, List.set_cons_zero, List.set_cons_succ]
    refine wpAnyH_take (i := 38) (oi := { dst := some 2, op := Op.assign (Operand.tmp 31), type := 104, pos := "impl.go:228", after := #[{ on := 37, ground := Ground.data }, { on := 0, ground := Ground.phase }, { on := 1, ground := Ground.phase }, { on := 2, ground := Ground.phase }, { on := 3, ground := Ground.phase }, { on := 4, ground := Ground.phase }, { on := 5, ground := Ground.phase }, { on := 6, ground := Ground.phase }, { on := 7, ground := Ground.phase }, { on := 8, ground := Ground.phase }, { on := 9, ground := Ground.phase }, { on := 10, ground := Ground.phase }, { on := 11, ground := Ground.phase }, { on := 12, ground := Ground.phase }, { on := 13, ground := Ground.phase }, { on := 14, ground := Ground.phase }, { on := 15, ground := Ground.phase }, { on := 16, ground := Ground.phase }, { on := 17, ground := Ground.phase }, { on := 18, ground := Ground.phase }, { on := 19, ground := Ground.phase }, { on := 20, ground := Ground.phase }, { on := 21, ground := Ground.phase }, { on := 22, ground := Ground.phase }, { on := 23, ground := Ground.phase }, { on := 24, ground := Ground.phase }, { on := 25, ground := Ground.phase }, { on := 26, ground := Ground.phase }, { on := 27, ground := Ground.phase }, { on := 28, ground := Ground.phase }, { on := 29, ground := Ground.phase }, { on := 30, ground := Ground.phase }, { on := 31, ground := Ground.phase }, { on := 32, ground := Ground.phase }, { on := 33, ground := Ground.phase }, { on := 34, ground := Ground.phase }, { on := 35, ground := Ground.phase }, { on := 36, ground := Ground.phase }, { on := 37, ground := Ground.phase }], guard := none }) (v := ?_) rfl (by kernel_rfl) (by kernel_rfl) (by kernel_rfl) (fun _ _ _ h => h) (Or.inl ⟨by rfl, ?_⟩) trivial ?_
    rotate_left
    · intro w hSw; go_simp; try with_reducible rfl
    try simp only [Act.put, List.setIfInBounds_toArray, List.set_cons_zero, List.set_cons_succ]
    refine wpAnyH_done (by kernel_rfl) ?_ _
    refine NoPanic.normal ?_
    go_wp2_with fail
    go_ret
    exact ⟨_, es, rfl, HQ.out.1, HQ.out.2.1, HQ.out.2.2.1, Nat.le_refl _, ((((Kept.refl [] w).drew).alloc (.map #[] 0)).trans HQ.out.2.2.2 (fun x hx => .inr (by simp at hx; omega)))⟩
/-- The cells of a header frame: T are its texts by place, hd, md, pr the headers, the mode and the priority, t0, t1, t2 its moment. -/
def hfRow (c cl sz : Int) (T : Nat → List UInt8) (hd : Value) (md pr : Int) (t0 t1 t2 : Value) : Array Value :=
  #[.int .u16 c, .int .u16 cl, .int .u16 0, .int .u64 sz, .string (bstr (T 0)), .string (bstr (T 1)), hd, .int .u8 md, .int .u8 pr, .string (bstr (T 5)), .string (bstr (T 6)), .string (bstr (T 7)), .string (bstr (T 8)), t0, t1, t2, .string (bstr (T 10)), .string (bstr (T 11)), .string (bstr (T 12)), .string (bstr (T 13))]
/-- T with the text t at place i. -/
def putT (T : Nat → List UInt8) (i : Nat) (t : List UInt8) : Nat → List UInt8 := fun k => if k = i then t else T k
theorem hfRow_put (c cl sz : Int) (T : Nat → List UInt8) (hd : Value) (md pr : Int) (t0 t1 t2 : Value) (j : Nat) (hj : j < 9) (t : List UInt8) :
    (hfRow c cl sz T hd md pr t0 t1 t2).setIfInBounds (4 + offOf j) (.string (bstr t)) = hfRow c cl sz (putT T (keyOf j) t) hd md pr t0 t1 t2 := by
  have h9 : j = 0 ∨ j = 1 ∨ j = 2 ∨ j = 3 ∨ j = 4 ∨ j = 5 ∨ j = 6 ∨ j = 7 ∨ j = 8 := by omega
  rcases h9 with rfl | rfl | rfl | rfl | rfl | rfl | rfl | rfl | rfl <;> rfl
theorem hfRow_cell (c cl sz : Int) (T : Nat → List UInt8) (hd : Value) (md pr : Int) (t0 t1 t2 : Value) (j : Nat) (hj : j < 9) :
    (hfRow c cl sz T hd md pr t0 t1 t2)[4 + offOf j]? = some (.string (bstr (T (keyOf j)))) := by
  have h9 : j = 0 ∨ j = 1 ∨ j = 2 ∨ j = 3 ∨ j = 4 ∨ j = 5 ∨ j = 6 ∨ j = 7 ∨ j = 8 := by omega
  rcases h9 with rfl | rfl | rfl | rfl | rfl | rfl | rfl | rfl | rfl <;> rfl
theorem hfRow_congr (c cl sz : Int) (T T' : Nat → List UInt8) (hd : Value) (md pr : Int) (t0 t1 t2 : Value) (h : ∀ j, j < 9 → T (keyOf j) = T' (keyOf j)) (h13 : T 13 = T' 13) :
    hfRow c cl sz T hd md pr t0 t1 t2 = hfRow c cl sz T' hd md pr t0 t1 t2 := by
  have e0 : T 0 = T' 0 := h 0 (by omega)
  have e1 : T 1 = T' 1 := h 1 (by omega)
  have e2 : T 5 = T' 5 := h 2 (by omega)
  have e3 : T 6 = T' 6 := h 3 (by omega)
  have e4 : T 7 = T' 7 := h 4 (by omega)
  have e5 : T 8 = T' 8 := h 5 (by omega)
  have e6 : T 10 = T' 10 := h 6 (by omega)
  have e7 : T 11 = T' 11 := h 7 (by omega)
  have e8 : T 12 = T' 12 := h 8 (by omega)
  unfold hfRow
  rw [e0, e1, e2, e3, e4, e5, e6, e7, e8, h13]
/-- The texts that the loop over texts' map leaves: those of p that it has. -/
def HP.heldT (p : HP) : Nat → List UInt8 := fun k => if k ≠ 13 ∧ p.has k = true then p.txt k else []
/-- What the loop has done once the entries at 'is' have come. -/
structure Put (p : HP) (f o : Nat) (es : List (Value × Value)) (is : List Nat) (T : Nat → List UInt8) : Prop where
  seen : ∀ j, j < 9 → (∃ i, i ∈ is ∧ es[i]? = some (textEnt f o j)) → T (keyOf j) = p.heldT (keyOf j)
  rest : ∀ j, j < 9 → (¬ ∃ i, i ∈ is ∧ es[i]? = some (textEnt f o j)) → T (keyOf j) = []
  last : T 13 = []
theorem Put.start (p : HP) (f o : Nat) (es : List (Value × Value)) : Put p f o es [] (fun _ => []) :=
  ⟨fun j _ h => by obtain ⟨i, hi, _⟩ := h; simp at hi, fun _ _ _ => rfl, rfl⟩
theorem Put.done {p : HP} {f o : Nat} {es : List (Value × Value)} {is : List Nat} {T : Nat → List UInt8} (h : Put p f o es is T) (hall : ∀ j, j < 9 → textEnt f o j ∈ es) (his : ∀ i, i < es.length → i ∈ is) (c cl sz : Int) (hd : Value) (md pr : Int) (t0 t1 t2 : Value) :
    hfRow c cl sz T hd md pr t0 t1 t2 = hfRow c cl sz p.heldT hd md pr t0 t1 t2 := by
  refine hfRow_congr c cl sz T _ hd md pr t0 t1 t2 (fun j hj => h.seen j hj ?_) (by rw [h.last]; rfl)
  obtain ⟨i, hi⟩ := List.mem_iff_getElem?.1 (hall j hj)
  exact ⟨i, his i (List.getElem?_eq_some_iff.1 hi).1, hi⟩
theorem keyOf_13 : ∀ j, j < 9 → keyOf j ≠ 13 := by decide
theorem textEnt_key {f o i j : Nat} (h : textEnt f o i = textEnt f o j) : keyOf i = keyOf j := by
  unfold textEnt at h
  simp only [Prod.mk.injEq, Value.int.injEq, true_and] at h
  omega
theorem Put.step_has {p : HP} {f o : Nat} {es : List (Value × Value)} {is : List Nat} {T : Nat → List UInt8} (h : Put p f o es is T) {i j : Nat} (hj : j < 9) (hi : es[i]? = some (textEnt f o j)) (hp : p.has (keyOf j) = true) :
    Put p f o es (is ++ [i]) (putT T (keyOf j) (p.txt (keyOf j))) := by
  refine ⟨fun k hk hx => ?_, fun k hk hx => ?_, ?_⟩
  · by_cases e : keyOf k = keyOf j
    · simp [putT, HP.heldT, e, hp, keyOf_13 j hj]
    · unfold putT
      rw [if_neg e]
      obtain ⟨i', h1, h2⟩ := hx
      refine h.seen k hk ⟨i', ?_, h2⟩
      rcases List.mem_append.1 h1 with h1 | h1
      · exact h1
      · simp at h1; subst h1
        rw [hi] at h2
        exact absurd (textEnt_key (Option.some.inj h2)).symm e
  · have e : keyOf k ≠ keyOf j := fun e => by
      refine hx ⟨i, by simp, ?_⟩
      by_cases hkj : k = j
      · rw [hkj]; exact hi
      · exact absurd e (keyOf_ne k hk j hj hkj)
    unfold putT
    rw [if_neg e]
    exact h.rest k hk fun ⟨i', h1, h2⟩ => hx ⟨i', by simp [h1], h2⟩
  · unfold putT
    rw [if_neg (fun e => keyOf_13 j hj e.symm)]
    exact h.last
theorem Put.step_no {p : HP} {f o : Nat} {es : List (Value × Value)} {is : List Nat} {T : Nat → List UInt8} (h : Put p f o es is T) {i j : Nat} (hj : j < 9) (hi : es[i]? = some (textEnt f o j)) (hp : p.has (keyOf j) = false) :
    Put p f o es (is ++ [i]) T := by
  refine ⟨fun k hk hx => ?_, fun k hk hx => ?_, h.last⟩
  · by_cases hs : ∃ i', i' ∈ is ∧ es[i']? = some (textEnt f o k)
    · exact h.seen k hk hs
    · rw [h.rest k hk hs]
      obtain ⟨i', h1, h2⟩ := hx
      rcases List.mem_append.1 h1 with h1 | h1
      · exact absurd ⟨i', h1, h2⟩ hs
      · simp at h1; subst h1
        rw [hi] at h2
        rw [← textEnt_key (Option.some.inj h2)]
        simp [HP.heldT, hp]
  · exact h.rest k hk fun ⟨i', h1, h2⟩ => hx ⟨i', by simp [h1], h2⟩
theorem Row.bytes {w : World} {s : Value} {g : Nat} {l : List UInt8} (h : Row w s g l) (n : Nat) (hn : n ≤ l.length) (c : Nat) (hc : n ≤ c) (hcm : c ≤ 9223372036854775807) : BytesAt w (.slice (some ⟨g, 0, none⟩) n c) g (l.take n) := by
  obtain ⟨c0, rfl, h1, h2⟩ := h
  rcases h2 with ⟨h, _⟩ | ⟨g', cap, cur, h, _, hg, _, _, hs, ht⟩
  · cases h
  · cases h
    refine ⟨0, c, by rw [List.length_take, Nat.min_eq_left hn], by rw [List.length_take]; omega, hcm, fun j v hj => ?_⟩
    have hb : Blk w g cur 5 := hg
    rw [Nat.zero_add, hb.cell j]
    have hj2 : (u8s l)[j]? = some v := by
      rw [u8s_get] at hj ⊢
      rw [List.getElem?_take] at hj
      split at hj
      · exact hj
      · simp at hj
    rw [← ht, Nat.mul_one, List.getElem?_take] at hj2
    split at hj2
    · simpa using hj2
    · simp at hj2
theorem Row.cap {w : World} {g n c : Nat} {l : List UInt8} (h : Row w (.slice (some ⟨g, 0, none⟩) n c) g l) (hn : l.length = n) : n ≤ c ∧ c ≤ 9223372036854775807 := by
  obtain ⟨c0, h0, h1, h2⟩ := h
  rcases h2 with ⟨h, _⟩ | ⟨g', cap, cur, h, _, hg, hc, hm, _⟩
  · cases h
  · cases h; unfold maxLen at hm; exact ⟨by omega, by omega⟩
theorem Kept.stored {a w2 w3 : World} {o : Obj} (h : Kept [] a w2) (g2 : Kept [w2.heap.size] (w2.alloc o) w3) : Kept [] a w3 :=
  Kept.trans (S := []) (S' := [w2.heap.size]) (h.alloc o) g2 (fun x hx => .inr (by have := h.size; simp at hx; omega))
theorem Row.cells {w : World} {s : Value} {g : Nat} {l : List UInt8} (h : Row w s g l) (j : Nat) (v : Value) (hj : (u8s l)[j]? = some v) : w.cell? ⟨g, j, none⟩ = some v := by
  obtain ⟨c0, rfl, h1, h2⟩ := h
  rcases h2 with ⟨h, _⟩ | ⟨g', cap, cur, h, _, hg, _, _, hs, ht⟩
  · cases h
  · cases h
    have hb : Blk w g cur 5 := hg
    rw [hb.cell j]
    rw [← ht, Nat.mul_one, List.getElem?_take] at hj
    split at hj
    · simpa using hj
    · simp at hj
theorem Row.src {w : World} {s : Value} {g : Nat} {l : List UInt8} (h : Row w s g l) (n : Nat) (hn : n ≤ l.length) (c : Nat) : Src w (.slice (some ⟨g, 0, none⟩) n c) g (l.take n) := by
  refine .inr ⟨⟨g, 0, none⟩, c, rfl, by rw [List.length_take, Nat.min_eq_left hn], fun j v hj => ?_⟩
  rw [addr_add, Nat.zero_add]
  refine h.cells j v ?_
  rw [u8s_get] at hj ⊢
  rw [List.getElem?_take] at hj
  split at hj
  · exact hj
  · simp at hj
theorem Row.all {w : World} {s : Value} {g : Nat} {l : List UInt8} (h : Row w s g l) : BytesAt w s g l := by
  obtain ⟨c, rfl, h1⟩ := id h
  have hc := h.cap rfl
  exact ⟨0, c, rfl, hc.1, hc.2, fun j v hj => by rw [Nat.zero_add]; exact h.cells j v hj⟩
theorem Row.own {w : World} {g n c : Nat} {l : List UInt8} (h : Row w (.slice (some ⟨g, 0, none⟩) n c) g l) (hn : l.length = n) : w.ownsRow 0 5 1 (.slice (some ⟨g, 0, none⟩) n c) n (u8s l) := by
  subst hn; obtain ⟨c0, h0, h1⟩ := h; exact h1
theorem Row.blk {w : World} {s : Value} {g : Nat} {l : List UInt8} (h : Row w s g l) : ∃ cur, Blk w g cur 5 := by
  obtain ⟨c0, rfl, h1, h2⟩ := h
  rcases h2 with ⟨h, _⟩ | ⟨g', cap, cur, h, _, hg, _⟩
  · cases h
  · cases h; exact ⟨cur, hg⟩
theorem Row.free {w : World} {s : Value} {g : Nat} {l : List UInt8} (h : Row w s g l) : w.frozen? ⟨g, 0, none⟩ = false := by
  obtain ⟨cur, h⟩ := h.blk; exact h.free 0
end Go.Proofs.YtkcdakohmfodjaaGreat
