/-
  Stores and loads of whole structs and arrays, over blocks that are known whole.
-/
import Derived.Test.YtkcdakohmfodjaaGreatBase
namespace Go.Proofs.YtkcdakohmfodjaaGreat
open Go.RowKit
set_option linter.unusedVariables false
set_option linter.unusedSimpArgs false

section
variable {P : Program}
theorem run_storeVar_row (w : World) (g : Nat) (t ty : TypeId) (cur new : List Value) (v : Value) (hg : Blk w g cur.toArray t) (hv : v.cells = new.toArray) (hl : new.length = cur.length) (h1 : ∀ u ∈ new, u.oneCell' = true)
    (hi : (P.info? ty).map (·.size) = some new.length) : (storeVar ty ⟨g, 0, none⟩ v).run P w = .ok () (w.setRow g new.toArray) := by
  have hst := run_storeCells_at P g 0 t new 0 cur.toArray w hg (by simp [hl]) h1
  simp only [Nat.add_zero, Nat.zero_add, List.take_zero, List.nil_append] at hst
  rw [List.drop_of_length_le (by simp [hl]), List.append_nil] at hst
  cases hq : P.info? ty with
  | none => simp [hq] at hi
  | some i =>
    have hs : i.size = new.length := by simpa [hq] using hi
    simp [storeVar, Sem.run_bind, sizeOf, typeInfo, hq, hs, hv, hst]

theorem run_storeAt_row (w : World) (g : Nat) (t ty : TypeId) (cur new : List Value) (v : Value) (hg : Blk w g cur.toArray t) (hv : v.cells = new.toArray) (hl : new.length = cur.length) (h1 : ∀ u ∈ new, u.oneCell' = true)
    (hi : (P.info? ty).map (·.size) = some new.length) : (Instr.storeAt ty (.pointer (some ⟨g, 0, none⟩)) v).run P w = .ok () (w.setRow g new.toArray) := by
  simp only [Instr.storeAt, Instr.sureAddr, Sem.run_bind, Sem.run_pure, Result.andThen_ok, run_storeVar_row w g t ty cur new v hg hv hl h1 hi]

theorem run_loadAt_row (w : World) (g : Nat) (t ty : TypeId) (cs : Array Value) (d : TypeDesc) (hg : Blk w g cs t)
    (hu : P.underlying ty = some d) (hd : (match d with | .struct _ | .array _ _ => true | _ => false) = true) (hi : (P.info? ty).map (·.size) = some cs.size) :
    (Instr.loadAt ty (.pointer (some ⟨g, 0, none⟩))).run P w = .ok (.agg cs) w := by
  simp only [Instr.loadAt, Instr.sureAddr, Sem.run_bind, Sem.run_pure, Result.andThen_ok, run_loadVar_row w g t ty cs (0, 0) d hg hu hd hi]

/-- A store of a whole value into a variable that is known whole. -/
theorem wpList_store_row {ops : Array Oper} {rest : List Oper} {o : Oper} {a : Act} {w : World} {Q : Exit → Act → World → Prop} (hgd : o.guard = none) (hdst : o.dst = none) (ty : TypeId) (x y : Operand) (ho : o.op = .store ty x y)
    (g : Nat) (hx : a.eval x = .pointer (some ⟨g, 0, none⟩)) (t : TypeId) (cur new : List Value) (hg : Blk w g cur.toArray t) (hv : (a.eval y).cells = new.toArray) (hl : new.length = cur.length) (h1 : ∀ u ∈ new, u.oneCell' = true)
    (hi : (P.info? ty).map (·.size) = some new.length)
    (h : ∀ w', Blk w' g new.toArray t → Kept [g] w w' → wpList P ops Q rest a w') : wpList P ops Q (o :: rest) a w := by
  refine wpList_plain hgd fun K hK => ?_
  have hr := run_storeAt_row (P := P) w g t ty cur new (a.eval y) hg hv hl h1 hi
  unfold Oper.wp execOp
  simp only [ho, hx, Sem.run_bind, Sem.run_pure, hr, Result.andThen_ok, Oper.upon_skip, hdst, Act.put]
  exact hK _ _ (h _ (setRow_heap w g cur.toArray _ t _ hg) ((Kept.refl [g] w).setRow (by simp) _))
end

end Go.Proofs.YtkcdakohmfodjaaGreat
