/-
  quietly: what it does with a closure that does not panic. (Printed by wip/gen/quiet.py.)
-/
import Derived.Test.YtkcdakohmfodjaaGreatBase
import Derived.Test.YtkcdakohmfodjaaGreatProg
import Derived.Tactics2
import Derived.Defers
import Derived.Recover
import Derived.Laws.Pointers
namespace Go.Proofs.YtkcdakohmfodjaaGreat
open Go.RowKit
set_option linter.unusedVariables false
set_option linter.unusedSimpArgs false

theorem catch_idle (p : Addr) (w : World) :
    CallsD Tryz.prog 42 #[.pointer (some p)] .returning w fun e u' w' => e = .returned (.tuple #[]) ∧ u' = .returning ∧ w = w' := by
  refine callsD_of_wpS Tryz.func42 rfl fun c₀ cs hu => ?_
  apply wpS_seq
  apply wpS_region
  simp [wpOpsS, go_sem, recoverD, hu, Tryz.ntmps42, Exit.thenS]
  refine wpS_cond (t := false) (by simp [Act.eval, Array.replicate]) ?_
  simp only [Bool.false_eq_true, if_false]
  refine wpS_of_wp (wp_skip ?_)
  cases c₀
  simp_all [bodyPostS, results, Tryz.results42]

theorem mf_any (fn : Fn) (first cap : Array Value) (w : World) : (Instr.makeFunc fn first cap).run Tryz.prog w = .ok (.func fn first cap) w := rfl

set_option maxHeartbeats 400000 in
theorem quietly_parse (a0 a1 a2 a3 : Value) (w : World) (R : World → Prop)
    (hR : ∀ w', R w' → Blk w' w.heap.size #[.bool false] 4)
    (hc : Calls Tryz.prog 23 #[a0, a1, a2, a3] (w.alloc (.cells #[.bool false] 4)) fun e w' => e = .returned (.tuple #[]) ∧ R w') :
    Calls Tryz.prog 22 #[.func (.func 23) #[] #[a0, a1, a2, a3]] w fun e w' => e = .returned (.bool true) ∧ ∃ w1, R w1 ∧ w' = w1.setCell ⟨w.heap.size, 0, none⟩ (.bool true) := by
  have hmf := mf_any
  have HC := Lib.hid hc; have HR := Lib.hid hR
  clear hc hR
  go_enter_defers Tryz.func22, Tryz.ntmps22
  go_wp2_with (go_at_call 23; refine HC.out.mono ?_; rintro e w1 ⟨rfl, h1⟩; have hb := HR.out _ h1; have q0 := hb.cell0; have q1 := hb.free 0; have H1 := Lib.hid h1; have HB := Lib.hid hb; clear h1 hb)
  refine leaves_cons (f := 42) (args := #[.pointer (some ⟨w.heap.size, 0, none⟩)]) (by simp) (by simp [go_sem]) ?_
  refine (catch_idle ⟨w.heap.size, 0, none⟩ _).mono ?_
  rintro e u' w'' ⟨rfl, rfl, rfl⟩
  have q3 : (w1.setCell ⟨w.heap.size, 0, none⟩ (.bool true)).cell? ⟨w.heap.size, 0, none⟩ = some (.bool true) := (HB.out.setCell 0 _).cell 0
  simp [Leaves, settle, results, Tryz.results22, go_sem, q3]
  exact ⟨w1, H1.out, rfl⟩

set_option maxHeartbeats 400000 in
theorem quietly_write (a0 a1 a2 a3 : Value) (w : World) (R : World → Prop)
    (hR : ∀ w', R w' → Blk w' w.heap.size #[.bool false] 4)
    (hc : Calls Tryz.prog 51 #[a0, a1, a2, a3] (w.alloc (.cells #[.bool false] 4)) fun e w' => e = .returned (.tuple #[]) ∧ R w') :
    Calls Tryz.prog 22 #[.func (.func 51) #[] #[a0, a1, a2, a3]] w fun e w' => e = .returned (.bool true) ∧ ∃ w1, R w1 ∧ w' = w1.setCell ⟨w.heap.size, 0, none⟩ (.bool true) := by
  have hmf := mf_any
  have HC := Lib.hid hc; have HR := Lib.hid hR
  clear hc hR
  go_enter_defers Tryz.func22, Tryz.ntmps22
  go_wp2_with (go_at_call 51; refine HC.out.mono ?_; rintro e w1 ⟨rfl, h1⟩; have hb := HR.out _ h1; have q0 := hb.cell0; have q1 := hb.free 0; have H1 := Lib.hid h1; have HB := Lib.hid hb; clear h1 hb)
  refine leaves_cons (f := 42) (args := #[.pointer (some ⟨w.heap.size, 0, none⟩)]) (by simp) (by simp [go_sem]) ?_
  refine (catch_idle ⟨w.heap.size, 0, none⟩ _).mono ?_
  rintro e u' w'' ⟨rfl, rfl, rfl⟩
  have q3 : (w1.setCell ⟨w.heap.size, 0, none⟩ (.bool true)).cell? ⟨w.heap.size, 0, none⟩ = some (.bool true) := (HB.out.setCell 0 _).cell 0
  simp [Leaves, settle, results, Tryz.results22, go_sem, q3]
  exact ⟨w1, H1.out, rfl⟩

end Go.Proofs.YtkcdakohmfodjaaGreat
