/-
  The limited reader's Read: over a buffer and over a limited reader. (Printed by wip/gen/rd.py.)
-/
import Derived.Test.YtkcdakohmfodjaaGreatFullLim
namespace Go.Proofs.YtkcdakohmfodjaaGreat
open Go.RowKit
set_option linter.unusedVariables false
set_option linter.unusedSimpArgs false

set_option maxHeartbeats 400000 in
theorem lim_done (q : Nat) (R : Value) (ao : Option Addr) (n m : Nat) (w : World) (hq : Blk w q #[R, .int .i64 0] 368) :
    Calls Tryz.prog 435 #[.pointer (some ⟨q, 0, none⟩), .slice ao n m] w fun e w' => e = .returned (.tuple #[.int .i64 0, EOFV]) ∧ w = w' := by
  have h1 : w.cell? ⟨q, 1, none⟩ = some (.int .i64 0) := hq.cell 1
  clear hq
  go_enter Tryz.func435, Tryz.ntmps435
  go_wp2
  go_ret2
  exact ⟨rfl, rfl⟩

set_option maxHeartbeats 400000 in
theorem lim_all_buf (q g o n m N : Nat) (a : Addr) (w : World) (hN : n ≤ N) (hn : 0 < n) (hb : N ≤ 4611686018427387904) (hmm : m ≤ 4611686018427387904)
    (hq : Blk w q #[.iface 111 (.pointer (some a)), .int .i64 (N : Int)] 368) (R : World → Prop)
    (hR : ∀ w', R w' → Blk w' q #[.iface 111 (.pointer (some a)), .int .i64 (N : Int)] 368)
    (hc : Calls Tryz.prog 237 #[.pointer (some a), .slice (some ⟨g, o, none⟩) n m] w fun e w' => e = .returned (.tuple #[.int .i64 (n : Int), .nilIface]) ∧ R w') :
    Calls Tryz.prog 435 #[.pointer (some ⟨q, 0, none⟩), .slice (some ⟨g, o, none⟩) n m] w fun e w' => e = .returned (.tuple #[.int .i64 (n : Int), .nilIface]) ∧
      ∃ w1, R w1 ∧ w' = w1.setCell ⟨q, 1, none⟩ (.int .i64 ((N : Int) - n)) := by
  have h0 : w.cell? ⟨q, 0, none⟩ = some (.iface 111 (.pointer (some a))) := hq.cell 0
  have h1 : w.cell? ⟨q, 1, none⟩ = some (.int .i64 (N : Int)) := hq.cell 1
  have hlt : (0 : Int) < N := by omega
  have hle : (n : Int) ≤ N := by omega
  have hm1 := method_buf
  have hm2 := nilAhead_buf
  clear hq
  go_enter Tryz.func435, Tryz.ntmps435
  go_wp2_with (go_at_call 237; refine hc.mono ?_; rintro e w1 ⟨rfl, hR1⟩; have g1 : w1.cell? ⟨q, 1, none⟩ = some (.int .i64 (N : Int)) := (hR _ hR1).cell 1; have f1 := (hR _ hR1).free 1)
  go_ret2
  exact ⟨rfl, _, by assumption, rfl⟩

set_option maxHeartbeats 400000 in
theorem lim_cut_buf (q g o n m N : Nat) (a : Addr) (w : World) (hN : N < n) (hn : 0 < N) (hnm : n ≤ m) (hmm : m ≤ 4611686018427387904)
    (hq : Blk w q #[.iface 111 (.pointer (some a)), .int .i64 (N : Int)] 368) (R : World → Prop)
    (hR : ∀ w', R w' → Blk w' q #[.iface 111 (.pointer (some a)), .int .i64 (N : Int)] 368)
    (hc : Calls Tryz.prog 237 #[.pointer (some a), .slice (some ⟨g, o, none⟩) N m] w fun e w' => e = .returned (.tuple #[.int .i64 (N : Int), .nilIface]) ∧ R w') :
    Calls Tryz.prog 435 #[.pointer (some ⟨q, 0, none⟩), .slice (some ⟨g, o, none⟩) n m] w fun e w' => e = .returned (.tuple #[.int .i64 (N : Int), .nilIface]) ∧
      ∃ w1, R w1 ∧ w' = w1.setCell ⟨q, 1, none⟩ (.int .i64 0) := by
  have h0 : w.cell? ⟨q, 0, none⟩ = some (.iface 111 (.pointer (some a))) := hq.cell 0
  have h1 : w.cell? ⟨q, 1, none⟩ = some (.int .i64 (N : Int)) := hq.cell 1
  have hlt : (0 : Int) < N := by omega
  have hle : (N : Int) < n := by omega
  have hle2 : (N : Int) ≤ m := by omega
  have hm1 := method_buf
  have hm2 := nilAhead_buf
  clear hq
  go_enter Tryz.func435, Tryz.ntmps435
  go_wp2_with (go_at_call 237; refine hc.mono ?_; rintro e w1 ⟨rfl, hR1⟩; have g1 : w1.cell? ⟨q, 1, none⟩ = some (.int .i64 (N : Int)) := (hR _ hR1).cell 1; have f1 := (hR _ hR1).free 1)
  go_ret2
  exact ⟨rfl, _, by assumption, rfl⟩

set_option maxHeartbeats 400000 in
theorem lim_all_lim (q g o n m N : Nat) (a : Addr) (w : World) (hN : n ≤ N) (hn : 0 < n) (hb : N ≤ 4611686018427387904) (hmm : m ≤ 4611686018427387904)
    (hq : Blk w q #[.iface 366 (.pointer (some a)), .int .i64 (N : Int)] 368) (R : World → Prop)
    (hR : ∀ w', R w' → Blk w' q #[.iface 366 (.pointer (some a)), .int .i64 (N : Int)] 368)
    (hc : Calls Tryz.prog 435 #[.pointer (some a), .slice (some ⟨g, o, none⟩) n m] w fun e w' => e = .returned (.tuple #[.int .i64 (n : Int), .nilIface]) ∧ R w') :
    Calls Tryz.prog 435 #[.pointer (some ⟨q, 0, none⟩), .slice (some ⟨g, o, none⟩) n m] w fun e w' => e = .returned (.tuple #[.int .i64 (n : Int), .nilIface]) ∧
      ∃ w1, R w1 ∧ w' = w1.setCell ⟨q, 1, none⟩ (.int .i64 ((N : Int) - n)) := by
  have h0 : w.cell? ⟨q, 0, none⟩ = some (.iface 366 (.pointer (some a))) := hq.cell 0
  have h1 : w.cell? ⟨q, 1, none⟩ = some (.int .i64 (N : Int)) := hq.cell 1
  have hlt : (0 : Int) < N := by omega
  have hle : (n : Int) ≤ N := by omega
  have hm1 := method_lim
  have hm2 := nilAhead_lim
  clear hq
  go_enter Tryz.func435, Tryz.ntmps435
  go_wp2_with (go_at_call 435; refine hc.mono ?_; rintro e w1 ⟨rfl, hR1⟩; have g1 : w1.cell? ⟨q, 1, none⟩ = some (.int .i64 (N : Int)) := (hR _ hR1).cell 1; have f1 := (hR _ hR1).free 1)
  go_ret2
  exact ⟨rfl, _, by assumption, rfl⟩

set_option maxHeartbeats 400000 in
theorem lim_cut_lim (q g o n m N : Nat) (a : Addr) (w : World) (hN : N < n) (hn : 0 < N) (hnm : n ≤ m) (hmm : m ≤ 4611686018427387904)
    (hq : Blk w q #[.iface 366 (.pointer (some a)), .int .i64 (N : Int)] 368) (R : World → Prop)
    (hR : ∀ w', R w' → Blk w' q #[.iface 366 (.pointer (some a)), .int .i64 (N : Int)] 368)
    (hc : Calls Tryz.prog 435 #[.pointer (some a), .slice (some ⟨g, o, none⟩) N m] w fun e w' => e = .returned (.tuple #[.int .i64 (N : Int), .nilIface]) ∧ R w') :
    Calls Tryz.prog 435 #[.pointer (some ⟨q, 0, none⟩), .slice (some ⟨g, o, none⟩) n m] w fun e w' => e = .returned (.tuple #[.int .i64 (N : Int), .nilIface]) ∧
      ∃ w1, R w1 ∧ w' = w1.setCell ⟨q, 1, none⟩ (.int .i64 0) := by
  have h0 : w.cell? ⟨q, 0, none⟩ = some (.iface 366 (.pointer (some a))) := hq.cell 0
  have h1 : w.cell? ⟨q, 1, none⟩ = some (.int .i64 (N : Int)) := hq.cell 1
  have hlt : (0 : Int) < N := by omega
  have hle : (N : Int) < n := by omega
  have hle2 : (N : Int) ≤ m := by omega
  have hm1 := method_lim
  have hm2 := nilAhead_lim
  clear hq
  go_enter Tryz.func435, Tryz.ntmps435
  go_wp2_with (go_at_call 435; refine hc.mono ?_; rintro e w1 ⟨rfl, hR1⟩; have g1 : w1.cell? ⟨q, 1, none⟩ = some (.int .i64 (N : Int)) := (hR _ hR1).cell 1; have f1 := (hR _ hR1).free 1)
  go_ret2
  exact ⟨rfl, _, by assumption, rfl⟩

end Go.Proofs.YtkcdakohmfodjaaGreat
