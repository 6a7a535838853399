/-
  Lemmas on the way to the statement of YtkcdakohmfodjaaGreatMethodRead, joined out of these texts: Own, Conv. No condition.
-/
import Derived.Deep.RegionHeld3
import Derived.StillTailTactics
import Derived.Test.YtkcdakohmfodjaaGreatMAA
import Derived.Test.YtkcdakohmfodjaaGreatMAD
import Derived.Test.YtkcdakohmfodjaaGreatProg
import Derived.WalkSpells
namespace Go.Proofs.YtkcdakohmfodjaaGreat
open Go.RowKit
set_option linter.unusedVariables false
set_option linter.unusedSimpArgs false
/-- The cells are those of the elements, one after the other, n each. -/
def ECells {α : Type} (n : Nat) (R : List Value → α → Prop) (cells : List Value) : List α → Prop
  | [] => cells = []
  | x :: l => ∃ cs rest, cells = cs ++ rest ∧ cs.length = n ∧ R cs x ∧ ECells n R rest l
section
variable {α : Type} {n : Nat} {R R' : List Value → α → Prop}
theorem ECells.imp {cells : List Value} {l : List α} (h : ECells n R cells l) (hi : ∀ cs x, R cs x → R' cs x) : ECells n R' cells l := by
  induction l generalizing cells with
  | nil => exact h
  | cons x l ih =>
    obtain ⟨cs, rest, h1, h2, h3, h4⟩ := h
    exact ⟨cs, rest, h1, h2, hi _ _ h3, ih h4⟩
theorem ECells.length {cells : List Value} {l : List α} (h : ECells n R cells l) : cells.length = l.length * n := by
  induction l generalizing cells with
  | nil => have h : cells = [] := h; subst h; simp
  | cons x l ih =>
    obtain ⟨cs, rest, rfl, h2, h3, h4⟩ := h
    rw [List.length_append, h2, ih h4, List.length_cons, Nat.add_mul]; omega
theorem ECells.snoc {cells cs : List Value} {l : List α} {x : α} (h : ECells n R cells l) (hl : cs.length = n) (hx : R cs x) : ECells n R (cells ++ cs) (l ++ [x]) := by
  induction l generalizing cells with
  | nil => have h : cells = [] := h; subst h; exact ⟨cs, [], by simp, hl, hx, rfl⟩
  | cons y l ih =>
    obtain ⟨cs', rest, rfl, h2, h3, h4⟩ := h
    exact ⟨cs', rest ++ cs, by simp, h2, h3, ih h4⟩
theorem ECells.get {cells : List Value} {l : List α} (h : ECells n R cells l) (i : Nat) (x : α) (hi : l[i]? = some x) : ∃ cs, cs.length = n ∧ R cs x ∧ ∀ j u, cs[j]? = some u → cells[i * n + j]? = some u := by
  induction l generalizing cells i with
  | nil => simp at hi
  | cons y l ih =>
    obtain ⟨cs', rest, rfl, h2, h3, h4⟩ := h
    cases i with
    | zero =>
      simp only [List.getElem?_cons_zero, Option.some.injEq] at hi
      subst hi
      refine ⟨cs', h2, h3, fun j u hj => ?_⟩
      have : j < cs'.length := by
        rcases Nat.lt_or_ge j cs'.length with h | h
        · exact h
        · rw [List.getElem?_eq_none h] at hj; cases hj
      rw [Nat.zero_mul, Nat.zero_add, List.getElem?_append_left this]; exact hj
    | succ i =>
      obtain ⟨cs, a, b, c⟩ := ih h4 i (by simpa using hi)
      refine ⟨cs, a, b, fun j u hj => ?_⟩
      rw [List.getElem?_append_right (by rw [h2, Nat.add_mul]; omega), show (i + 1) * n + j - cs'.length = i * n + j by rw [h2, Nat.add_mul]; omega]
      exact c j u hj
end
/-- A field's cells: its name and its value's. -/
def FHeld (B : Nat → Prop) (w : World) (cs : List Value) (x : Fld) : Prop := ∃ cs', cs = .string (bstr x.name) :: cs' ∧ VHeld B w cs' x.val
/-- What a predicate on cells bears: blocks elsewhere may be written. -/
structure Bears {α : Type} (n : Nat) (R : (Nat → Prop) → World → List Value → α → Prop) : Prop where
  kept : ∀ {B : Nat → Prop} {S : List Nat} {w w' : World} {cs : List Value} {x : α}, R B w cs x → Kept S w w' → (∀ b, B b → b ∉ S) → R B w' cs x
  mono : ∀ {B B' : Nat → Prop} {w : World} {cs : List Value} {x : α}, R B w cs x → (∀ b, B b → b < w.heap.size → B' b) → R B' w cs x
  len : ∀ {B : Nat → Prop} {w : World} {cs : List Value} {x : α}, R B w cs x → cs.length = n
  one : ∀ {B : Nat → Prop} {w : World} {cs : List Value} {x : α}, R B w cs x → ∀ u ∈ cs, u.oneCell' = true
theorem VHeld.one {B : Nat → Prop} {w : World} {cs : List Value} {v : Val} (h : VHeld B w cs v) : ∀ u ∈ cs, u.oneCell' = true := by
  cases v with
  | mk k n f sc text kids flds => unfold VHeld at h; obtain ⟨ka, kc, fa, fc, rfl, _⟩ := h; simp [Value.oneCell']
theorem bears_val : Bears 7 VHeld := ⟨fun h hk hB => VHeld.kept hk hB _ h, fun h hB => VHeld.mono hB _ h, fun h => h.ne, fun h => h.one⟩
theorem bears_fld : Bears 8 FHeld := ⟨fun ⟨cs, h1, h2⟩ hk hB => ⟨cs, h1, VHeld.kept hk hB _ h2⟩, fun ⟨cs, h1, h2⟩ hB => ⟨cs, h1, VHeld.mono hB _ h2⟩, fun ⟨cs, h1, h2⟩ => by rw [h1, List.length_cons, h2.ne],
  fun ⟨cs, h1, h2⟩ u hu => by rw [h1] at hu; rcases List.mem_cons.1 hu with rfl | hu; rfl; exact h2.one u hu⟩
/-- A slice that the program itself has made: its elements, whose own data lie in other blocks, from base on. -/
def OwnE {α : Type} (T : TypeId) (n : Nat) (R : (Nat → Prop) → World → List Value → α → Prop) (base : Nat) (w : World) (out : Value) (xs : List α) : Prop :=
  ∃ cells, w.ownsRow 0 T n out xs.length cells ∧ ECells n (R (fun b => base ≤ b ∧ out.ownBlock ≠ some b) w) cells xs ∧ (∀ g, out.ownBlock = some g → base ≤ g)
section
variable {α : Type} {T : TypeId} {n : Nat} {R : (Nat → Prop) → World → List Value → α → Prop} {base : Nat} {w w' : World} {out : Value} {xs : List α}
theorem OwnE.nil (T : TypeId) (n : Nat) (R : (Nat → Prop) → World → List Value → α → Prop) (base : Nat) (w : World) : OwnE T n R base w (.slice none 0 0) [] :=
  ⟨[], World.ownsRow_nil _ _ _ _, rfl, fun g hg => by simp [Value.ownBlock] at hg⟩
theorem ownsRow_kept' {S : List Nat} {e : TypeId} {size : Nat} {v : Value} {k : Nat} {xs : List Value} (h : w.ownsRow 0 e size v k xs) (hk : Kept S w w') (hn : ∀ b, v.ownBlock = some b → b ∉ S) : w'.ownsRow 0 e size v k xs := by
  refine ⟨h.1, ?_⟩
  rcases h.2 with h2 | ⟨g, cap, cur, rfl, h3, h4, h5⟩
  · exact .inl h2
  · exact .inr ⟨g, cap, cur, rfl, h3, hk.heap h4 (hn g rfl), h5⟩
theorem OwnE.kept {S : List Nat} (h : OwnE T n R base w out xs) (hR : Bears n R) (hk : Kept S w w') (hS : ∀ b, base ≤ b → b ∉ S) : OwnE T n R base w' out xs := by
  obtain ⟨cells, h1, h2, h3⟩ := h
  exact ⟨cells, ownsRow_kept' h1 hk (fun b hb => hS b (h3 b hb)), h2.imp fun cs x hx => hR.kept hx hk (fun b hb => hS b hb.1), h3⟩
/-- The elements' data stay, but the row itself is being written. -/
theorem OwnE.push {wa : World} {v' : Value} {cells cs : List Value} {x : α} (hR : Bears n R) (h2 : ECells n (R (fun b => base ≤ b ∧ out.ownBlock ≠ some b) wa) cells xs) (h3 : ∀ g, out.ownBlock = some g → base ≤ g) (hb : base ≤ wa.heap.size)
    (hx : R (fun b => base ≤ b ∧ out.ownBlock ≠ some b) wa cs x) (g1 : w'.ownsRow 0 T n v' (xs.length + 1) (cells ++ cs)) (g2 : wa.grownBy w' out.ownBlock) (g3 : v'.ownBlock = out.ownBlock ∨ v'.ownBlock = some wa.heap.size) :
    OwnE T n R base w' v' (xs ++ [x]) ∧ Kept out.ownBlock.toList wa w' := by
  have hk : Kept out.ownBlock.toList wa w' := (Kept.refl _ wa).grown g2 (fun k hk => .inl (by simp [hk]))
  have step : ∀ cs x, R (fun b => base ≤ b ∧ out.ownBlock ≠ some b) wa cs x → R (fun b => base ≤ b ∧ v'.ownBlock ≠ some b) w' cs x := fun cs x hx => by
    have a1 := hR.mono (B' := fun b => base ≤ b ∧ out.ownBlock ≠ some b ∧ b < wa.heap.size) hx (fun b hb hl => ⟨hb.1, hb.2, hl⟩)
    have a2 := hR.kept a1 hk (fun b hb hm => hb.2.1 (by simpa using hm))
    refine hR.mono a2 (fun b hb _ => ⟨hb.1, ?_⟩)
    rcases g3 with g3 | g3
    · rw [g3]; exact hb.2.1
    · rw [g3]; intro e; simp at e; omega
  refine ⟨⟨cells ++ cs, by simpa using g1, (h2.imp step).snoc (hR.len hx) (step _ _ hx), fun g hg => ?_⟩, hk⟩
  rcases g3 with g3 | g3
  · exact h3 g (by rw [← g3]; exact hg)
  · rw [g3] at hg; simp at hg; omega
end
theorem own_lt {w : World} {e : TypeId} {size : Nat} {v : Value} {k : Nat} {xs : List Value} (h : w.ownsRow 0 e size v k xs) {g : Nat} (hg : v.ownBlock = some g) : g < w.heap.size := by
  rcases h.2 with ⟨rfl, _⟩ | ⟨g', cap, cur, rfl, h3, h4, _⟩
  · simp [Value.ownBlock] at hg
  · simp only [Value.ownBlock, Option.some.injEq] at hg
    subst hg
    exact lt_of_block h4
theorem own_move {α : Type} {T : TypeId} {n : Nat} {R : (Nat → Prop) → World → List Value → α → Prop} {base : Nat} {w w' : World} {out : Value} {xs : List α} {cells : List Value} {S : List Nat} (hR : Bears n R)
    (o1 : w.ownsRow 0 T n out xs.length cells) (o2 : ECells n (R (fun b => base ≤ b ∧ out.ownBlock ≠ some b) w) cells xs) (o3 : ∀ g, out.ownBlock = some g → base ≤ g) (hS : ∀ b, base ≤ b → b ∉ S) (hk : Kept S w w') :
    w'.ownsRow 0 T n out xs.length cells ∧ ECells n (R (fun b => base ≤ b ∧ out.ownBlock ≠ some b) w') cells xs :=
  ⟨ownsRow_kept' o1 hk (fun b hb => hS b (o3 b hb)), o2.imp fun cs x hx => hR.kept hx hk (fun b hb => hS b hb.1)⟩
theorem fat_of {B : Nat → Prop} {w : World} {g : Nat} (hB : B g) : ∀ (l : List Fld) (o : Nat) (cells : List Value), ECells 8 (FHeld B w) cells l → (∀ j u, cells[j]? = some u → w.cell? ⟨g, o + j, none⟩ = some u) → FAt B w ⟨g, o, none⟩ l := by
  intro l
  induction l with
  | nil => intro o cells h hc; unfold FAt; trivial
  | cons x l ih =>
    intro o cells h hc
    obtain ⟨cs, rest, rfl, h2, ⟨cs', h3, h4⟩, h5⟩ := h
    cases x with
    | mk name v =>
      unfold FAt
      refine ⟨cs', ⟨hB, fun j u hj => ?_⟩, h4, ?_⟩
      · rw [addr_add]
        have h3 : cs = .string (bstr name) :: cs' := h3
        rw [← h3] at hj
        refine hc j u ?_
        have : j < cs.length := by
          rcases Nat.lt_or_ge j cs.length with h | h
          · exact h
          · rw [List.getElem?_eq_none h] at hj; cases hj
        rw [List.getElem?_append_left this]; exact hj
      · rw [addr_add]
        refine ih (o + 8) rest h5 fun j u hj => ?_
        have := hc (8 + j) u (by rw [List.getElem?_append_right (by omega), show 8 + j - cs.length = j by omega]; exact hj)
        rw [← Nat.add_assoc] at this
        exact this
theorem kat_of {B : Nat → Prop} {w : World} {g : Nat} (hB : B g) : ∀ (l : List Val) (o : Nat) (cells : List Value), ECells 7 (VHeld B w) cells l → (∀ j u, cells[j]? = some u → w.cell? ⟨g, o + j, none⟩ = some u) → KAt B w ⟨g, o, none⟩ l := by
  intro l
  induction l with
  | nil => intro o cells h hc; unfold KAt; trivial
  | cons x l ih =>
    intro o cells h hc
    obtain ⟨cs, rest, rfl, h2, h4, h5⟩ := h
    unfold KAt
    refine ⟨cs, ⟨hB, fun j u hj => ?_⟩, h4, ?_⟩
    · rw [addr_add]
      refine hc j u ?_
      have : j < cs.length := by
        rcases Nat.lt_or_ge j cs.length with h | h
        · exact h
        · rw [List.getElem?_eq_none h] at hj; cases hj
      rw [List.getElem?_append_left this]; exact hj
    · rw [addr_add]
      refine ih (o + 7) rest h5 fun j u hj => ?_
      have := hc (7 + j) u (by rw [List.getElem?_append_right (by omega), show 7 + j - cs.length = j by omega]; exact hj)
      rw [← Nat.add_assoc] at this
      exact this
theorem own_slice {w : World} {e : TypeId} {size : Nat} {v : Value} {k : Nat} {xs : List Value} (h : w.ownsRow 0 e size v k xs) : ∃ ao c, v = .slice ao k c ∧ k ≤ c ∧ ((k = 0 ∧ ao = none ∧ c = 0 ∧ v.ownBlock = none) ∨ ∃ g, ao = some ⟨g, 0, none⟩ ∧ v.ownBlock = some g ∧ ∀ j u, xs[j]? = some u → w.cell? ⟨g, 0 + j, none⟩ = some u) := by
  have hc := fun g (hg : v.ownBlock = some g) => h.cells (g := g) hg
  rcases h.2 with ⟨rfl, hn⟩ | ⟨g, cap, cur, rfl, h3, h4, h5, h6⟩
  · subst hn; exact ⟨none, 0, rfl, Nat.le_refl _, .inl ⟨rfl, rfl, rfl, rfl⟩⟩
  · refine ⟨some ⟨g, 0, none⟩, cap, rfl, h5, .inr ⟨g, rfl, rfl, fun j u hj => ?_⟩⟩
    have := hc g rfl j u hj
    rwa [addr_add] at this
theorem OwnE.fsl {T : TypeId} {base : Nat} {w : World} {out : Value} {xs : List Fld} (h : OwnE T 8 FHeld base w out xs) : FSl (fun b => base ≤ b) w out xs := by
  obtain ⟨cells, h1, h2, h3⟩ := h
  obtain ⟨ao, c, rfl, hc, hh⟩ := own_slice h1
  refine ⟨ao, c, rfl, hc, fun hne => ?_, ?_⟩
  · rcases hh with ⟨h0, _⟩ | ⟨g, rfl, _⟩
    · exact absurd (List.eq_nil_of_length_eq_zero h0) hne
    · rfl
  · rcases hh with ⟨h0, _⟩ | ⟨g, rfl, hg, hcell⟩
    · rw [List.eq_nil_of_length_eq_zero h0]; unfold FAt; trivial
    · exact fat_of (h3 g hg) xs 0 cells (h2.imp fun cs x hx => bears_fld.mono hx fun b hb _ => hb.1) hcell
theorem OwnE.ksl {T : TypeId} {base : Nat} {w : World} {out : Value} {xs : List Val} (h : OwnE T 7 VHeld base w out xs) : KSl (fun b => base ≤ b) w out xs := by
  obtain ⟨cells, h1, h2, h3⟩ := h
  obtain ⟨ao, c, rfl, hc, hh⟩ := own_slice h1
  refine ⟨ao, c, rfl, hc, fun hne => ?_, ?_⟩
  · rcases hh with ⟨h0, _⟩ | ⟨g, rfl, _⟩
    · exact absurd (List.eq_nil_of_length_eq_zero h0) hne
    · rfl
  · rcases hh with ⟨h0, _⟩ | ⟨g, rfl, hg, hcell⟩
    · rw [List.eq_nil_of_length_eq_zero h0]; unfold KAt; trivial
    · exact kat_of (h3 g hg) xs 0 cells (h2.imp fun cs x hx => bears_val.mono hx fun b hb _ => hb.1) hcell
mutual
/-- Sizes that the machine bears. -/
def WfV : Val → Prop
  | .mk k n f sc text kids flds => text.length ≤ 140737488355328 ∧ kids.length ≤ 140737488355328 ∧ flds.length ≤ 140737488355328 ∧ WfL kids ∧ WfFs flds ∧ -9223372036854775808 ≤ n ∧ n ≤ 9223372036854775807 ∧ f < 18446744073709551616
def WfL : List Val → Prop
  | [] => True
  | v :: l => WfV v ∧ WfL l
def WfFs : List Fld → Prop
  | [] => True
  | .mk name v :: l => name.length ≤ 140737488355328 ∧ WfV v ∧ WfFs l
end
theorem WfFs.get (l : List Fld) (h : WfFs l) (k : Nat) (name : List UInt8) (v : Val) (hk : l[k]? = some (.mk name v)) : name.length ≤ 140737488355328 ∧ WfV v := by
  induction l generalizing k with
  | nil => simp at hk
  | cons x l ih =>
    cases x with
    | mk nm u =>
      unfold WfFs at h
      cases k with
      | zero => simp only [List.getElem?_cons_zero, Option.some.injEq, Fld.mk.injEq] at hk; obtain ⟨rfl, rfl⟩ := hk; exact ⟨h.1, h.2.1⟩
      | succ k => exact ih h.2.2 k (by simpa using hk)
theorem WfL.get (l : List Val) (h : WfL l) (k : Nat) (v : Val) (hk : l[k]? = some v) : WfV v := by
  induction l generalizing k with
  | nil => simp at hk
  | cons x l ih =>
    unfold WfL at h
    cases k with
    | zero => simp only [List.getElem?_cons_zero, Option.some.injEq] at hk; subst hk; exact h.1
    | succ k => exact ih h.2 k (by simpa using hk)
theorem info_own {P : Program} {t : TypeId} {n b : Nat} (h : (P.info? t).map (fun i => (i.zero.map (·.cells.size), i.size, i.bytes)) = some (some n, n, b)) : ∃ i z, P.info? t = some i ∧ i.zero = some z ∧ i.size = n ∧ i.bytes = b ∧ z.cells.size = n := by
  cases hi : P.info? t with
  | none => rw [hi] at h; cases h
  | some i =>
    rw [hi] at h
    simp only [Option.map_some, Option.some.injEq, Prod.mk.injEq] at h
    obtain ⟨h1, h2, h3⟩ := h
    cases hz : i.zero with
    | none => rw [hz] at h1; cases h1
    | some z => rw [hz] at h1; exact ⟨i, z, rfl, hz, h2, h3, by simpa using h1⟩
theorem ownFld : (Tryz.prog.info? 143).map (fun i => (i.zero.map (·.cells.size), i.size, i.bytes)) = some (some 8, 8, 112) := by kernel_rfl
theorem ownVal : (Tryz.prog.info? 141).map (fun i => (i.zero.map (·.cells.size), i.size, i.bytes)) = some (some 7, 7, 96) := by kernel_rfl
/-- The seven cells, one by one. -/
theorem VHeld.seven {B : Nat → Prop} {w : World} {cs : List Value} {v : Val} (h : VHeld B w cs v) : ∃ a0 a1 a2 a3 a4 a5 a6, cs = [a0, a1, a2, a3, a4, a5, a6] := by
  cases v with
  | mk k n f sc text kids flds => unfold VHeld at h; obtain ⟨ka, kc, fa, fc, rfl, _⟩ := h; exact ⟨_, _, _, _, _, _, _, rfl⟩
/-- What lies in a new row. -/
theorem cells_new (w : World) (cs : List Value) (t : TypeId) : ∀ j u, cs[j]? = some u → (w.alloc (.cells cs.toArray t)).cell? ((⟨w.heap.size, 0, none⟩ : Addr).add j) = some u := fun j u hj => by
  rw [addr_add, (Blk.new w cs.toArray t).cell, Nat.zero_add]
  simpa using hj
theorem size_iFld : (Tryz.prog.info? 153).map (·.size) = some 8 := by kernel_rfl
theorem size_iVal : (Tryz.prog.info? 151).map (·.size) = some 7 := by kernel_rfl
/-- laws.value of v. -/
def ValueC (v : Val) : Prop := ∀ (B : Nat → Prop) (cs : List Value) (deep : Nat) (r : Int) (rm : Nat) (w : World), VHeld B w cs v → WfV v → Blk w rm #[.int .i64 r] 3 → (∀ b, B b → b ≠ rm) → deep ≤ 10 → -140737488355328 ≤ r → r ≤ 4000 →
  Calls Tryz.prog 71 #[.agg cs.toArray, .int .i64 (deep : Int), .pointer (some ⟨rm, 0, none⟩)] w fun e w' => ∃ cs', e = .returned (.agg cs'.toArray) ∧
    VHeld (fun b => w.heap.size ≤ b) w' cs' (convV v deep r).1 ∧ Blk w' rm #[.int .i64 (convV v deep r).2] 3 ∧ Kept [rm] w w'
/-- laws.fields of l. -/
def FieldsC (l : List Fld) : Prop := ∀ (B : Nat → Prop) (s : Value) (deep : Nat) (r : Int) (rm : Nat) (w : World), FSl B w s l → WfFs l → l.length ≤ 140737488355328 → Blk w rm #[.int .i64 r] 3 → (∀ b, B b → b ≠ rm) → deep ≤ 10 → 0 ≤ r → r ≤ 4000 →
  Calls Tryz.prog 48 #[s, .int .i64 (deep : Int), .pointer (some ⟨rm, 0, none⟩)] w fun e w' => ∃ v, e = .returned v ∧
    FSl (fun b => w.heap.size ≤ b) w' v ((convFs l deep r).1.getD [Fld.zero]) ∧ Blk w' rm #[.int .i64 (convFs l deep r).2] 3 ∧ Kept [rm] w w'
/-- What is left to be done of a loop over fields. -/
def FRest (l : List Fld) (deep : Nat) (r : Int) (xs : List Fld) (suf : List Fld) (rk : Int) : Prop :=
  convFs l deep r = match convFs suf deep rk with
    | (none, q) => (none, q)
    | (some ys, q) => (some (xs ++ ys), q)
theorem FRest.start (l : List Fld) (deep : Nat) (r : Int) : FRest l deep r [] l r := by
  unfold FRest
  cases h : convFs l deep r with
  | mk a q => cases a <;> simp
theorem FRest.step {l : List Fld} {deep : Nat} {r : Int} {xs : List Fld} {name : List UInt8} {v : Val} {suf : List Fld} {rk : Int} (h : FRest l deep r xs (.mk name v :: suf) rk) (h0 : 0 ≤ (convV v deep (rk - name.length)).2) :
    FRest l deep r (xs ++ [.mk name (convV v deep (rk - name.length)).1]) suf (convV v deep (rk - name.length)).2 := by
  unfold FRest at h ⊢
  rw [h, convFs, if_neg (by omega)]
  cases convFs suf deep (convV v deep (rk - name.length)).2 with
  | mk a q => cases a <;> simp
theorem FRest.cut {l : List Fld} {deep : Nat} {r : Int} {xs : List Fld} {name : List UInt8} {v : Val} {suf : List Fld} {rk : Int} (h : FRest l deep r xs (.mk name v :: suf) rk) (h0 : (convV v deep (rk - name.length)).2 < 0) :
    convFs l deep r = (none, (convV v deep (rk - name.length)).2) := by
  unfold FRest at h
  rw [h, convFs, if_pos h0]
theorem FRest.done {l : List Fld} {deep : Nat} {r : Int} {xs : List Fld} {rk : Int} (h : FRest l deep r xs [] rk) : convFs l deep r = (some xs, rk) := by
  unfold FRest at h
  rw [h, convFs]; simp
mutual
theorem convV_le (v : Val) (deep : Nat) (r : Int) : (convV v deep r).2 ≤ r - 1 := by
  cases v with
  | mk k n f sc text kids flds =>
    unfold convV
    split
    · simp; omega
    · have h1 := convFs_le flds (deep - 1) (r - (1 + text.length))
      have h2 := convL_le kids (deep - 1) (convFs flds (deep - 1) (r - (1 + text.length))).2
      split
      · rename_i q hq; rw [hq] at h2; simp at h2 ⊢; omega
      · rename_i q a hq; rw [hq] at h2; simp at h2 ⊢; omega
theorem convL_le (l : List Val) (deep : Nat) (r : Int) : (convL l deep r).2 ≤ r := by
  cases l with
  | nil => simp [convL]
  | cons v l =>
    unfold convL
    split
    · simp
    · have h1 := convV_le v deep r
      have h2 := convL_le l deep (convV v deep r).2
      split
      · rename_i q hq; rw [hq] at h2; simp at h2 ⊢; omega
      · rename_i q a hq; rw [hq] at h2; simp at h2 ⊢; omega
theorem convFs_le (l : List Fld) (deep : Nat) (r : Int) : (convFs l deep r).2 ≤ r := by
  cases l with
  | nil => simp [convFs]
  | cons x l =>
    cases x with
    | mk name v =>
      unfold convFs
      have h1 := convV_le v deep (r - name.length)
      split
      · simp; omega
      · have h2 := convFs_le l deep (convV v deep (r - name.length)).2
        split
        · rename_i q hq; rw [hq] at h2; simp at h2 ⊢; omega
        · rename_i q a hq; rw [hq] at h2; simp at h2 ⊢; omega
end
theorem FSl.get {B : Nat → Prop} {w : World} {s : Value} {l : List Fld} (h : FSl B w s l) : ∃ fa fc, s = .slice fa l.length fc ∧ l.length ≤ fc ∧ (l ≠ [] → fa.isSome = true) ∧
    ∀ i name v, l[i]? = some (.mk name v) → ∃ ad cs, fa = some ad ∧ CellsAt B w (ad.add (i * 8)) (.string (bstr name) :: cs) ∧ VHeld B w cs v := by
  obtain ⟨fa, fc, h1, h2, h3, h4⟩ := h
  refine ⟨fa, fc, h1, h2, h3, fun i name v hi => ?_⟩
  have hne : l ≠ [] := by intro e; subst e; simp at hi
  obtain ⟨ad, rfl⟩ := Option.isSome_iff_exists.1 (h3 hne)
  have hsp : ad.spot = none := by
    cases l with
    | nil => exact absurd rfl hne
    | cons x l =>
      cases x with
      | mk nm u =>
        simp only [Option.getD_some] at h4
        unfold FAt at h4
        obtain ⟨cs, h5, _⟩ := h4
        exact h5.spot (by simp)
  obtain ⟨cs, a, b⟩ := FAt.get hsp l h4 i name v hi
  exact ⟨ad, cs, rfl, a, b⟩
theorem KSl.get {B : Nat → Prop} {w : World} {s : Value} {l : List Val} (h : KSl B w s l) : ∃ fa fc, s = .slice fa l.length fc ∧ l.length ≤ fc ∧ (l ≠ [] → fa.isSome = true) ∧
    ∀ i v, l[i]? = some v → ∃ ad cs, fa = some ad ∧ CellsAt B w (ad.add (i * 7)) cs ∧ VHeld B w cs v := by
  obtain ⟨fa, fc, h1, h2, h3, h4⟩ := h
  refine ⟨fa, fc, h1, h2, h3, fun i v hi => ?_⟩
  have hne : l ≠ [] := by intro e; subst e; simp at hi
  obtain ⟨ad, rfl⟩ := Option.isSome_iff_exists.1 (h3 hne)
  have hsp : ad.spot = none := by
    cases l with
    | nil => exact absurd rfl hne
    | cons x l =>
      simp only [Option.getD_some] at h4
      unfold KAt at h4
      obtain ⟨cs, h5, h6, _⟩ := h4
      exact h5.spot (by have := h6.ne; intro e; subst e; simp at this)
  obtain ⟨cs, a, b⟩ := KAt.get hsp l h4 i v hi
  exact ⟨ad, cs, rfl, a, b⟩
set_option maxHeartbeats 1000000 in
set_option maxRecDepth 100000 in
theorem fields_of (l : List Fld) (hv : ∀ x, x ∈ l → ValueC x.val) : FieldsC l := by
  intro B s deep r rm w hs hwf hll hrm hB hd hr0 hr1
  obtain ⟨fa, fc, rfl, hfc, hfs, hget⟩ := hs.get
  have hn : (l.length : Int) ≤ 140737488355328 := by omega
  have hd' : (deep : Int) ≤ 10 := by omega
  have H := Lib.hid (And.intro hs (And.intro hwf (And.intro hrm (And.intro hB (And.intro hget (And.intro hv hfs))))))
  clear hs hwf hrm hB hget hv hfs
  go_enter Tryz.func48, Tryz.ntmps48
  go_wp2_with fail
  go_loopw [7, 12] (fun out i W => ∃ (k : Nat) (xs : List Fld) (rk : Int), k = xs.length ∧ k ≤ l.length ∧ i = .int .i64 (k : Int) ∧ FRest l deep r xs (l.drop k) rk ∧ 0 ≤ rk ∧ (xs.length : Int) + rk ≤ 4000 ∧
    OwnE 143 8 FHeld w.heap.size W out xs ∧ Blk W rm #[.int .i64 rk] 3 ∧ Kept [rm] w W) (fun _ i _ => l.length - (intOf i).toNat)
  case atStart => exact ⟨0, [], r, rfl, Nat.zero_le _, rfl, FRest.start _ _ _, hr0, by simpa using hr1, OwnE.nil _ _ _ _ _, H.out.2.2.1, Kept.refl _ _⟩
  case round =>
    obtain ⟨k, xs, rk, hk, hkl, rfl, hrest, hrk0, hrk1, hown, hblk, hkept⟩ := hrel
    have HR := Lib.hid (And.intro hrest (And.intro hown (And.intro hblk (And.intro hkept hk)))); clear hrest hown hblk hkept hk
    by_cases hlt : k < l.length
    · obtain ⟨name, v, hx⟩ : ∃ name v, l[k]? = some (.mk name v) := by
        rw [List.getElem?_eq_getElem hlt]; cases l[k] with | mk name v => exact ⟨name, v, rfl⟩
      obtain ⟨ad, cs, rfl, hca, hvh⟩ := H.out.2.2.2.2.1 k name v hx
      have hlt' : (k : Int) < l.length := by omega
      have hca' := (hca.kept HR.out.2.2.2.1 (fun b hb => by simpa using H.out.2.2.2.1 b hb)).2
      have hvh' := VHeld.kept HR.out.2.2.2.1 (fun b hb => by simpa using H.out.2.2.2.1 b hb) v hvh
      have hlen8 : (Value.string (bstr name) :: cs).length = 8 := by rw [List.length_cons, hvh.ne]
      have HX := Lib.hid (And.intro hx (And.intro hca' (And.intro hvh' hlen8)))
      clear hx hca hca' hvh hvh' hlen8
      go_wp2_with (first
        | (refine wpList_load_cells rfl 153 (.tmp 14) rfl _ rfl _ HX.out.2.1 _ Tryz.underlying153 rfl (by rw [HX.out.2.2.2]; exact size_iFld) ?_)
        | (refine wpList_store_row (P := Tryz.prog) rfl rfl 153 (.tmp 9) (.tmp 15) rfl wr.heap.size rfl 153 _ (.string (bstr name) :: cs) (Blk.new wr _ _) rfl (by rw [HX.out.2.2.2]; rfl) (by intro u hu; rcases List.mem_cons.1 hu with rfl | hu; rfl; exact HX.out.2.2.1.one u hu) (by rw [HX.out.2.2.2]; exact size_iFld) ?_; intro w1 hb1 hk1; have HB := Lib.hid (And.intro hb1 hk1); clear hb1 hk1))
      have c0 : w1.cell? ⟨wr.heap.size, 0, none⟩ = some (.string (bstr name)) := HB.out.1.cell 0
      have hkw1 : Kept [] wr w1 := ((Kept.refl [] wr).alloc _).trans HB.out.2 (by simp)
      have hrm1 := HR.out.2.2.1.kept hkw1 (by simp)
      have c1 := hrm1.cell0
      have f1 := hrm1.free 0
      have hnl : name.length ≤ 140737488355328 ∧ WfV v := WfFs.get l H.out.2.1 k name v HX.out.1
      have hnl1 : (name.length : Int) ≤ 140737488355328 := by omega
      have hrk2 : rk ≤ 4000 := by omega
      have hwr : IntKind.i64.wrap (rk - (name.length : Int)) = rk - name.length := by rw [IntKind.wrap_i64]; omega
      have HW1 := Lib.hid (And.intro hkw1 (And.intro hrm1 hnl)); clear hkw1 hrm1 hnl
      go_still_tail 8, (by kernel_rfl)
      change wpList _ _ _ _ _ w1.drew
      go_wp2_with fail
      obtain ⟨W2, hW2⟩ : ∃ W2, W2 = (w1.setCell ⟨rm, 0, none⟩ (.int .i64 (rk - (name.length : Int)))).drew := ⟨_, rfl⟩
      rw [← hW2]
      have hrmq : rm ≠ wr.heap.size := by have := HR.out.2.2.1.lt; omega
      have hb2 : Blk W2 wr.heap.size (Value.string (bstr name) :: cs).toArray 153 := by rw [hW2]; exact (HB.out.1.setCell_other (by simpa using Ne.symm hrmq) _).drew
      have hrm2 : Blk W2 rm #[.int .i64 (rk - (name.length : Int))] 3 := by rw [hW2]; exact (HW1.out.2.1.setCell 0 _).drew
      have hk2 : Kept [rm] wr W2 := by rw [hW2]; exact ((HW1.out.1.mono (by simp)).setCell (by simp) _).drew
      have hkD : Kept [] W2 W2.drew := (Kept.refl [] W2).drew
      have hk2D : Kept [rm] wr W2.drew := hk2.drew
      have hvW := VHeld.kept hk2D (fun b hb => by simpa using H.out.2.2.2.1 b hb) v HX.out.2.2.1
      obtain ⟨a0, a1, a2, a3, a4, a5, a6, rfl⟩ := hvW.seven
      have hbD := hb2.kept hkD (by simp)
      have hc := fun w' (hk : Kept [rm] W2.drew w') => hbD.kept hk (by simpa using Ne.symm hrmq)
      have hvc := H.out.2.2.2.2.2.1 (.mk name v) (List.mem_of_getElem? HX.out.1) B _ deep (rk - (name.length : Int)) rm W2.drew hvW HW1.out.2.2.2 (hrm2.kept hkD (by simp)) H.out.2.2.2.1 hd (by omega) (by omega)
      have hle := convV_le v deep (rk - (name.length : Int))
      obtain ⟨X, hX⟩ : ∃ X, X = convV v deep (rk - (name.length : Int)) := ⟨_, rfl⟩
      have hvc : Calls Tryz.prog 71 #[.agg [a0, a1, a2, a3, a4, a5, a6].toArray, .int .i64 (deep : Int), .pointer (some ⟨rm, 0, none⟩)] W2.drew fun e w' => ∃ cs', e = .returned (.agg cs'.toArray) ∧
        VHeld (fun b => W2.drew.heap.size ≤ b) w' cs' X.1 ∧ Blk w' rm #[.int .i64 X.2] 3 ∧ Kept [rm] W2.drew w' := by rw [hX]; exact hvc
      rw [← hX] at hle
      obtain ⟨x1, r1⟩ := X
      simp only at hvc hle
      have HXX := Lib.hid hX; clear hX
      have hkr : w.heap.size ≤ wr.heap.size := HR.out.2.2.2.1.size
      have hrmw : rm < w.heap.size := H.out.2.2.1.lt
      obtain ⟨cells, o1, o2, o3⟩ := HR.out.2.1
      have hmove := fun w' (hk : Kept [rm] wr w') => own_move bears_fld o1 o2 o3 (S := [rm]) (fun b hb => by simp; omega) hk
      have hown : ∀ g, u7.ownBlock = some g → g < wr.heap.size := fun g hg => own_lt o1 hg
      have hxs : xs.length ≤ 4000 := by omega
      obtain ⟨i, z, i1, i2, i3, i4, i5⟩ := info_own ownFld
      have HI := Lib.hid (And.intro i1 (And.intro i2 (And.intro i3 (And.intro i4 i5)))); clear i1 i2 i3 i4 i5
      have HS := Lib.hid hc; have HV := Lib.hid hvc; have H2 := Lib.hid (And.intro hk2D (And.intro hb2 hrm2)); have HM := Lib.hid hmove; have HN := Lib.hid (And.intro hkr (And.intro hrmw (And.intro o3 (And.intro hown hrmq))))
      clear hb2 hrm2 hk2 hkD hk2D hvW hbD hc hvc hW2 hmove hkr hrmw hown o1 o2 o3 hrmq
      go_region_held3 (fun w' : World => w'.cell? ⟨wr.heap.size, 0, none⟩ = some (.string (bstr name)) ∧ w'.cell? ⟨wr.heap.size, 1, none⟩ = some a0 ∧ w'.cell? ⟨wr.heap.size, 2, none⟩ = some a1 ∧ w'.cell? ⟨wr.heap.size, 3, none⟩ = some a2 ∧ w'.cell? ⟨wr.heap.size, 4, none⟩ = some a3 ∧ w'.cell? ⟨wr.heap.size, 5, none⟩ = some a4 ∧ w'.cell? ⟨wr.heap.size, 6, none⟩ = some a5 ∧ w'.cell? ⟨wr.heap.size, 7, none⟩ = some a6)
        (first
          | (have hh := HS.out _ (Kept.refl [rm] _); exact ⟨hh.cell 0, hh.cell 1, hh.cell 2, hh.cell 3, hh.cell 4, hh.cell 5, hh.cell 6, hh.cell 7⟩)
          | (have hh := HS.out _ H3.out.2.2; exact ⟨hh.cell 0, hh.cell 1, hh.cell 2, hh.cell 3, hh.cell 4, hh.cell 5, hh.cell 6, hh.cell 7⟩)
          | (have hh := (HS.out _ H3.out.2.2).alloc (.cells #[.string (bstr name), b0, b1, b2, b3, b4, b5, b6] 143); exact ⟨hh.cell 0, hh.cell 1, hh.cell 2, hh.cell 3, hh.cell 4, hh.cell 5, hh.cell 6, hh.cell 7⟩)
          | (have hh := H4.out.1; exact ⟨hh.cell 0, hh.cell 1, hh.cell 2, hh.cell 3, hh.cell 4, hh.cell 5, hh.cell 6, hh.cell 7⟩))
        (first
          | (go_at_call 71; refine HV.out.mono ?_; rintro e w3 ⟨cs2, rfl, v1, v2, v3⟩; obtain ⟨b0, b1, b2, b3, b4, b5, b6, rfl⟩ := v1.seven; have H3 := Lib.hid (And.intro v1 (And.intro v2 v3)); clear v1 v2 v3)
          | (refine step_append2 _ rfl (.tmp 24) (.tmp 33) 52 rfl 143 i z 8 112 Tryz.underlying52 HI.out.1 HI.out.2.1 HI.out.2.2.1 HI.out.2.2.2.1 HI.out.2.2.2.2 (by decide) u7 xs.length cells rfl
              (HM.out _ ((H2.out.1.trans H3.out.2.2 (fun x hx => .inl hx)).alloc _)).1 ⟨w3.heap.size, 0, none⟩ 1 1 [.string (bstr name), b0, b1, b2, b3, b4, b5, b6] rfl rfl (cells_new w3 _ _)
              (by intro u hu; rcases List.mem_cons.1 hu with rfl | hu; rfl; exact H3.out.1.one u hu) (by omega) (by omega) ?_
             intro v' w4 g1 g2 g3
             have H4 := Lib.hid (And.intro (((HS.out w3 H3.out.2.2).alloc (.cells #[.string (bstr name), b0, b1, b2, b3, b4, b5, b6] 143)).kept ((Kept.refl u7.ownBlock.toList _).grown g2 (fun k hk => .inl (by simp [hk]))) (fun hm => by have := HN.out.2.2.2.1 _ (by simpa using hm); omega)) (And.intro g1 (And.intro g2 g3)))
             clear g1 g2 g3))
      have hks : Kept [rm] wr w3 := H2.out.1.trans H3.out.2.2 (fun x hx => .inl hx)
      have hka : Kept [] w3 (w3.alloc (.cells #[.string (bstr name), b0, b1, b2, b3, b4, b5, b6] 143)) := (Kept.refl [] w3).alloc _
      have hmv := HM.out _ (hks.trans hka (by simp))
      have hv3 : VHeld (fun b => w.heap.size ≤ b ∧ u7.ownBlock ≠ some b) (w3.alloc (.cells #[.string (bstr name), b0, b1, b2, b3, b4, b5, b6] 143)) [b0, b1, b2, b3, b4, b5, b6] x1 :=
        VHeld.kept hka (by simp) _ (VHeld.mono (fun b hb _ => ⟨by have := HN.out.1; have := H2.out.1.size; omega, fun e => by have := HN.out.2.2.2.1 b e; have := H2.out.1.size; omega⟩) _ H3.out.1)
      obtain ⟨p1, p2⟩ := OwnE.push (x := Fld.mk name x1) bears_fld hmv.2 HN.out.2.2.1 (by have := HN.out.1; have := hks.size; have := hka.size; omega) ⟨[b0, b1, b2, b3, b4, b5, b6], rfl, hv3⟩ H4.out.2.1 H4.out.2.2.1 H4.out.2.2.2
      have hrm4 : Blk w4 rm #[.int .i64 r1] 3 := (H3.out.2.1.kept hka (by simp)).kept p2 (fun hm => by have := HN.out.2.2.1 rm (by simpa using hm); have := HN.out.2.1; omega)
      have hk4 : Kept [rm] w w4 := ((HR.out.2.2.2.1.trans hks (fun x hx => .inl hx)).trans hka (by simp)).trans p2 (fun x hx => .inr (HN.out.2.2.1 x (by simpa using hx)))
      have c4 := hrm4.cell0
      have HE := Lib.hid (And.intro p1 (And.intro hrm4 hk4)); clear hks hka hmv hv3 p1 p2 hrm4 hk4
      have hdrop : l.drop k = .mk name v :: l.drop (k + 1) := by
        rw [List.drop_eq_getElem_cons hlt]; congr 1
        have := HX.out.1; rw [List.getElem?_eq_getElem hlt] at this; simpa using this
      have hr1' : (convV v deep (rk - (name.length : Int))).2 = r1 := by rw [← HXX.out]
      have hx1' : (convV v deep (rk - (name.length : Int))).1 = x1 := by rw [← HXX.out]
      have HD := Lib.hid (And.intro hdrop (And.intro hr1' hx1')); clear hdrop hr1' hx1'
      by_cases hneg : r1 < 0
      · go_wp2_with fail
        go_ret
        have hrest := HR.out.1
        rw [HD.out.1] at hrest
        have hcut := hrest.cut (by rw [HD.out.2.1]; exact hneg)
        rw [hcut, HD.out.2.1]
        have hkz : Kept [] w4 (w4.alloc (.cells #[.string ⟨#[]⟩, .int .u8 0, .int .i64 0, .float .f64 0, .int .i64 0, .string ⟨#[]⟩, .slice none 0 0, .slice none 0 0] 143)) := (Kept.refl [] w4).alloc _
        refine ⟨_, rfl, ?_, HE.out.2.1.kept hkz (by simp), HE.out.2.2.trans hkz (by simp)⟩
        refine ⟨some ⟨w4.heap.size, 0, none⟩, 1, rfl, Nat.le_refl _, fun _ => rfl, ?_⟩
        exact fat_of (by have := HE.out.2.2.size; omega) [Fld.zero] 0 _ ⟨_, [], (List.append_nil _).symm, rfl, ⟨_, rfl, VHeld.zero _ _⟩, rfl⟩ (fun j u hj => by have := cells_new w4 _ 143 j u hj; rwa [addr_add] at this)
      · go_wp2_with fail
        go_roundw
        case rel =>
          have hrest := HR.out.1
          rw [HD.out.1] at hrest
          have hst := hrest.step (by rw [HD.out.2.1]; omega)
          rw [HD.out.2.1, HD.out.2.2] at hst
          exact ⟨k + 1, xs ++ [.mk name x1], r1, by simp [HR.out.2.2.2.2], by omega, rfl, hst, by omega, by simp; omega, HE.out.1, HE.out.2.1, HE.out.2.2⟩
        case measure => simp [intOf]; omega
    · go_wp2_with fail
      go_ret
      have hrest := HR.out.1
      rw [List.drop_of_length_le (by omega)] at hrest
      rw [hrest.done]
      exact ⟨_, rfl, HR.out.2.1.fsl, HR.out.2.2.1, HR.out.2.2.2.1⟩
end Go.Proofs.YtkcdakohmfodjaaGreat
