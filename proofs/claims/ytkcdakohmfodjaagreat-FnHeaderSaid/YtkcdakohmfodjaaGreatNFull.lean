/-
  Lemmas on the way to the statement of YtkcdakohmfodjaaGreatHeader, joined out of these texts: Full, FullLim. No condition.
-/
import Derived.Deep.DeepMust
import Derived.Deep.RegionWith
import Derived.Test.YtkcdakohmfodjaaGreatNOwn
namespace Go.Proofs.YtkcdakohmfodjaaGreat
open Go.RowKit
set_option linter.unusedVariables false
set_option linter.unusedSimpArgs false
theorem eql_end (w : World) : (binOp .eql 67 (.iface 194 (.string ⟨#[69, 79, 70]⟩)) (.iface 194 (.string ⟨#[69, 79, 70]⟩))).run Tryz.prog w = .ok (.bool true) w := by kernel_rfl
abbrev EOFV : Value := .iface 194 (.string ⟨#[69, 79, 70]⟩)
abbrev UEOFV : Value := .iface 194 (.string ⟨#[117, 110, 101, 120, 112, 101, 99, 116, 101, 100, 32, 69, 79, 70]⟩)
theorem method_buf (k : Nat) (a : Addr) (w : World) : (method (k + 1) 111 (.pointer (some a)) "Read").run Tryz.prog w = .ok (237, .pointer (some a)) w := by kernel_rfl
theorem nilAhead_buf (k : Nat) (a : Addr) (w : World) : (nilAhead (k + 1) 111 (.pointer (some a)) "Read").run Tryz.prog w = .ok (some false) w := by kernel_rfl
set_option maxHeartbeats 400000 in
set_option maxRecDepth 100000 in
theorem full_one_buf (b g o n m : Nat) (w : World) (hn : 0 < n) (R : World → Prop) (hm : n ≤ m) (hmm : m ≤ 4611686018427387904)
    (hc : Calls Tryz.prog 237 #[.pointer (some ⟨b, 0, none⟩), .slice (some ⟨g, o, none⟩) n m] w.drew fun e w' => e = .returned (.tuple #[.int .i64 (n : Int), .nilIface]) ∧ R w') :
    Calls Tryz.prog 56 #[.iface 111 (.pointer (some ⟨b, 0, none⟩)), .slice (some ⟨g, o, none⟩) n m] w fun e w' =>
      e = .returned (.tuple #[.int .i64 (n : Int), .nilIface]) ∧ R w' := by
  have hlt : (0 : Int) < n := by omega
  have hm1 := method_buf
  have hm2 := nilAhead_buf
  go_enter Tryz.func56, Tryz.ntmps56
  go_wp2
  refine wp_loop_rounds 2 ?_
  rw [rounds_succ]
  go_wp2
  go_region_with (go_at_call 237; refine hc.mono ?_; rintro e w' ⟨rfl, hR⟩)
  go_wp2
  rw [rounds_succ]
  go_wp2
  go_ret2
  exact ⟨rfl, hR⟩
set_option maxHeartbeats 400000 in
set_option maxRecDepth 100000 in
theorem full_end_buf (b g o n m : Nat) (w : World) (hn : 0 < n) (R : World → Prop) (hm : n ≤ m) (hmm : m ≤ 4611686018427387904)
    (hc : Calls Tryz.prog 237 #[.pointer (some ⟨b, 0, none⟩), .slice (some ⟨g, o, none⟩) n m] w.drew fun e w' => e = .returned (.tuple #[.int .i64 0, EOFV]) ∧ R w') :
    Calls Tryz.prog 56 #[.iface 111 (.pointer (some ⟨b, 0, none⟩)), .slice (some ⟨g, o, none⟩) n m] w fun e w' =>
      e = .returned (.tuple #[.int .i64 0, EOFV]) ∧ R w' := by
  have hlt : (0 : Int) < n := by omega
  have hm1 := method_buf
  have hm2 := nilAhead_buf
  go_enter Tryz.func56, Tryz.ntmps56
  go_wp2
  refine wp_loop_rounds 2 ?_
  rw [rounds_succ]
  go_wp2
  go_region_with (go_at_call 237; refine hc.mono ?_; rintro e w' ⟨rfl, hR⟩)
  go_wp2
  rw [rounds_succ]
  go_wp2
  go_ret2
  exact ⟨rfl, hR⟩
set_option maxHeartbeats 400000 in
set_option maxRecDepth 100000 in
theorem full_part_buf (b g o n m k : Nat) (w : World) (hk : 0 < k) (hkn : k < n) (R R' : World → Prop) (hm : n ≤ m) (hmm : m ≤ 4611686018427387904)
    (hc : Calls Tryz.prog 237 #[.pointer (some ⟨b, 0, none⟩), .slice (some ⟨g, o, none⟩) n m] w.drew fun e w' => e = .returned (.tuple #[.int .i64 (k : Int), .nilIface]) ∧ R' w')
    (hc' : ∀ w', R' w' → Calls Tryz.prog 237 #[.pointer (some ⟨b, 0, none⟩), .slice (some ⟨g, o + k, none⟩) (n - k) (m - k)] w'.drew fun e w' => e = .returned (.tuple #[.int .i64 0, EOFV]) ∧ R w') :
    Calls Tryz.prog 56 #[.iface 111 (.pointer (some ⟨b, 0, none⟩)), .slice (some ⟨g, o, none⟩) n m] w fun e w' =>
      e = .returned (.tuple #[.int .i64 (k : Int), UEOFV]) ∧ R w' := by
  have hlt : (0 : Int) < n := by omega
  have hk0 : (0 : Int) < k := by omega
  have hkn' : (k : Int) < n := by omega
  have hkm' : ¬ m = k := by omega
  have hkm2 : (k : Int) ≤ m := by omega
  have hm1 := method_buf
  have hm2 := nilAhead_buf
  have he := eql_end
  go_enter Tryz.func56, Tryz.ntmps56
  go_wp2
  refine wp_loop_rounds 3 ?_
  rw [rounds_succ]
  go_wp2
  go_region_with (go_at_call 237; refine hc.mono ?_; rintro e w' ⟨rfl, hR'⟩)
  go_wp2
  rw [rounds_succ]
  go_wp2
  go_region_with (go_at_call 237; refine (hc' _ hR').mono ?_; rintro e w' ⟨rfl, hR⟩)
  all_goals
    go_wp2
    rw [rounds_succ]
    go_wp2
    go_ret2
    exact ⟨rfl, hR⟩
theorem method_lim (k : Nat) (a : Addr) (w : World) : (method (k + 1) 366 (.pointer (some a)) "Read").run Tryz.prog w = .ok (435, .pointer (some a)) w := by kernel_rfl
theorem nilAhead_lim (k : Nat) (a : Addr) (w : World) : (nilAhead (k + 1) 366 (.pointer (some a)) "Read").run Tryz.prog w = .ok (some false) w := by kernel_rfl
set_option maxHeartbeats 400000 in
set_option maxRecDepth 100000 in
theorem full_one_lim (b g o n m : Nat) (w : World) (hn : 0 < n) (R : World → Prop) (hm : n ≤ m) (hmm : m ≤ 4611686018427387904)
    (hc : Calls Tryz.prog 435 #[.pointer (some ⟨b, 0, none⟩), .slice (some ⟨g, o, none⟩) n m] w.drew fun e w' => e = .returned (.tuple #[.int .i64 (n : Int), .nilIface]) ∧ R w') :
    Calls Tryz.prog 56 #[.iface 366 (.pointer (some ⟨b, 0, none⟩)), .slice (some ⟨g, o, none⟩) n m] w fun e w' =>
      e = .returned (.tuple #[.int .i64 (n : Int), .nilIface]) ∧ R w' := by
  have hlt : (0 : Int) < n := by omega
  have hm1 := method_lim
  have hm2 := nilAhead_lim
  go_enter Tryz.func56, Tryz.ntmps56
  go_wp2
  refine wp_loop_rounds 2 ?_
  rw [rounds_succ]
  go_wp2
  go_region_with (go_at_call 435; refine hc.mono ?_; rintro e w' ⟨rfl, hR⟩)
  go_wp2
  rw [rounds_succ]
  go_wp2
  go_ret2
  exact ⟨rfl, hR⟩
set_option maxHeartbeats 400000 in
set_option maxRecDepth 100000 in
theorem full_end_lim (b g o n m : Nat) (w : World) (hn : 0 < n) (R : World → Prop) (hm : n ≤ m) (hmm : m ≤ 4611686018427387904)
    (hc : Calls Tryz.prog 435 #[.pointer (some ⟨b, 0, none⟩), .slice (some ⟨g, o, none⟩) n m] w.drew fun e w' => e = .returned (.tuple #[.int .i64 0, EOFV]) ∧ R w') :
    Calls Tryz.prog 56 #[.iface 366 (.pointer (some ⟨b, 0, none⟩)), .slice (some ⟨g, o, none⟩) n m] w fun e w' =>
      e = .returned (.tuple #[.int .i64 0, EOFV]) ∧ R w' := by
  have hlt : (0 : Int) < n := by omega
  have hm1 := method_lim
  have hm2 := nilAhead_lim
  go_enter Tryz.func56, Tryz.ntmps56
  go_wp2
  refine wp_loop_rounds 2 ?_
  rw [rounds_succ]
  go_wp2
  go_region_with (go_at_call 435; refine hc.mono ?_; rintro e w' ⟨rfl, hR⟩)
  go_wp2
  rw [rounds_succ]
  go_wp2
  go_ret2
  exact ⟨rfl, hR⟩
end Go.Proofs.YtkcdakohmfodjaaGreat
