/-
  FnBody, from the row's reading to the walk.
-/
import Derived.Test.YtkcdakohmfodjaaGreatBodyWalk
import Derived.Test.YtkcdakohmfodjaaGreatOpen
namespace Go.Proofs.YtkcdakohmfodjaaGreat
open Go.RowKit
set_option linter.unusedVariables false
set_option linter.unusedSimpArgs false

set_option maxHeartbeats 1000000 in
set_option maxRecDepth 100000 in
theorem body_any (a0 : Int) (a1 : Option Addr) (len1 cap1 : Nat) (z1 : List Int) (w : World) (w0 : (Lit.int .i64 a0).wf = true)
    (w1 : (a1 = none ∧ len1 = 0 ∧ cap1 = 0 ∧ z1 = []) ∨
      ∃ x, a1 = some x ∧ len1 ≤ cap1 ∧ cap1 ≤ maxLen ∧ z1.length = cap1 ∧ (∀ i, i < z1.length → w.cell? (x.add i) = some (.int .u8 (z1.getD i 0))) ∧ ∀ n ∈ z1, (Lit.int .u8 n).wf = true) :
    Calls Tryz.prog 5 #[.int .i64 a0, .slice a1 len1 cap1] w fun e w' => e = .returned (.bool true) ∧ Below w.heap.size w w' := by
  obtain ⟨l, d, hl, hs, _⟩ := src_of w1
  clear w0 w1
  by_cases h : 0 ≤ a0 ∧ a0 ≤ 65535 ∧ len1 ≤ 2000
  · obtain ⟨ch, rfl⟩ : ∃ n : Nat, a0 = (n : Int) := ⟨a0.toNat, by omega⟩
    refine (body_main ch _ d l len1 hl w (by omega) h.2.2 hs ⟨_, _, rfl⟩).mono fun e w' h => ?_
    exact ⟨h.1, h.2.below⟩
  · have hw := works_any w
    have HW := Lib.hid hw
    clear hw hs hl
    have hb : 2147483647 < (len1 : Int) ∨ (((len1 : Int) ≤ 2147483647) ∧ (a0 < 0 ∨ 65535 < a0 ∨ 2000 < (len1 : Int))) := by omega
    clear h
    rcases hb with hb | ⟨hn, hb⟩
    · go_enter Tryz.func5, Tryz.ntmps5
      go_wp2
      go_ret
      exact ⟨rfl, Below.refl _ _⟩
    · by_cases h0 : a0 < 0
      · clear hb
        go_enter Tryz.func5, Tryz.ntmps5
        go_wp2_with (go_at_call 7; refine HW.out.mono ?_; rintro e w1 ⟨rfl, hk⟩; have HK := Lib.hid hk; clear hk)
        go_ret
        exact ⟨rfl, HK.out.below⟩
      · by_cases h1 : 65535 < a0
        · clear hb
          go_enter Tryz.func5, Tryz.ntmps5
          go_wp2_with (go_at_call 7; refine HW.out.mono ?_; rintro e w1 ⟨rfl, hk⟩; have HK := Lib.hid hk; clear hk)
          go_ret
          exact ⟨rfl, HK.out.below⟩
        · have h2 : 2000 < (len1 : Int) := by omega
          clear hb
          go_enter Tryz.func5, Tryz.ntmps5
          go_wp2_with (go_at_call 7; refine HW.out.mono ?_; rintro e w1 ⟨rfl, hk⟩; have HK := Lib.hid hk; clear hk)
          go_ret
          exact ⟨rfl, HK.out.below⟩

end Go.Proofs.YtkcdakohmfodjaaGreat
