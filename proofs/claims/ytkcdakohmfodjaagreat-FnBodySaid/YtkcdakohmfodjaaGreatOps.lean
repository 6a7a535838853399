/-
  Single operations by laws: where the walk's own steps would lay a whole struct open.
-/
import Derived.Test.YtkcdakohmfodjaaGreatPfOk
namespace Go.Proofs.YtkcdakohmfodjaaGreat
open Go.RowKit
set_option linter.unusedVariables false
set_option linter.unusedSimpArgs false

section
variable {P : Program} {ops : Array Oper} {rest : List Oper} {o : Oper} {a : Act} {w : World} {Q : Exit → Act → World → Prop}

theorem wpList_run (hgd : o.guard = none) (v : Value) (w' : World) (hr : (execOp a.eval o).run P w = .ok (.value v) w') (h : wpList P ops Q rest (a.put o.dst v) w') : wpList P ops Q (o :: rest) a w := by
  refine wpList_plain hgd fun K hK => ?_
  unfold Oper.wp
  rw [hr]
  exact hK _ _ h

/-- A new variable: of the world behind it only what it holds is told. (The slot that it goes to, 'd', tells two of them apart: a world that does not fit would send the unifier into the whole run.) -/
theorem wpList_alloc (hgd : o.guard = none) (d : Nat) (hd : o.dst = some d) (ty : TypeId) (ho : o.op = .alloc ty) (cs : Array Value) (hr : (Instr.alloc ty true (.tuple #[])).run P w = .ok (.pointer (some ⟨w.heap.size, 0, none⟩)) (w.alloc (.cells cs ty)))
    (h : ∀ w', Blk w' w.heap.size cs ty → Kept [] w w' → w.heap.size < w'.heap.size → wpList P ops Q rest (a.put o.dst (.pointer (some ⟨w.heap.size, 0, none⟩))) w') : wpList P ops Q (o :: rest) a w :=
  wpList_run hgd _ _ (by simp only [execOp, ho, Sem.run_bind, hr, Result.andThen_ok, Sem.run_pure]) (h _ (Blk.new w cs ty) ((Kept.refl [] w).alloc _) (by simp))

theorem wpList_build (hgd : o.guard = none) (ty : TypeId) (parts : Array (Nat × Operand)) (ho : o.op = .build ty parts) (ps : Array (Nat × Value)) (hp : parts.map (fun (i, x) => (i, a.eval x)) = ps) (v : Value) (hr : (Instr.build ty ps).run P w = .ok v w)
    (h : wpList P ops Q rest (a.put o.dst v) w) : wpList P ops Q (o :: rest) a w :=
  wpList_run hgd v w (by subst hp; simp only [execOp, ho, Sem.run_bind, hr, Result.andThen_ok, Sem.run_pure]) h
end

end Go.Proofs.YtkcdakohmfodjaaGreat
