/-
  What a slice of bytes that came in holds.
-/
import Derived.Test.YtkcdakohmfodjaaGreatBrkWalk
namespace Go.Proofs.YtkcdakohmfodjaaGreat
open Go.RowKit
set_option linter.unusedVariables false
set_option linter.unusedSimpArgs false

theorem u8_of (n : Int) (h : (Lit.int .u8 n).wf = true) : ∃ b : UInt8, n = (b.toNat : Int) := by
  have hx : 0 ≤ n ∧ n ≤ 255 := by simpa [Lit.wf, IntKind.min, IntKind.max, IntKind.signed, IntKind.bits] using h
  refine ⟨UInt8.ofNat n.toNat, ?_⟩
  rw [UInt8.toNat_ofNat', Nat.mod_eq_of_lt (by omega)]
  omega

theorem i64_of (n : Int) (h : (Lit.int .i64 n).wf = true) : -9223372036854775808 ≤ n ∧ n ≤ 9223372036854775807 := by
  simpa [Lit.wf, IntKind.min, IntKind.max, IntKind.signed, IntKind.bits] using h

theorem src_of {w : World} {a : Option Addr} {len cap : Nat} {zs : List Int}
    (h : (a = none ∧ len = 0 ∧ cap = 0 ∧ zs = []) ∨
      ∃ x, a = some x ∧ len ≤ cap ∧ cap ≤ maxLen ∧ zs.length = cap ∧ (∀ i, i < zs.length → w.cell? (x.add i) = some (.int .u8 (zs.getD i 0))) ∧ ∀ n ∈ zs, (Lit.int .u8 n).wf = true) :
    ∃ (l : List UInt8) (d : Nat), l.length = len ∧ Src w (.slice a len cap) d l ∧ (len ≠ 0 → d < w.heap.size) := by
  rcases h with ⟨rfl, rfl, rfl, rfl⟩ | ⟨x, rfl, hl, hm, hz, hcell, hwf⟩
  · exact ⟨[], 0, rfl, .inl ⟨rfl, none, 0, rfl⟩, fun h => absurd rfl h⟩
  · refine ⟨(zs.take len).map fun n => UInt8.ofNat n.toNat, x.block, by simp; omega, .inr ⟨x, cap, rfl, by simp; omega, fun j v hj => ?_⟩, fun h => ?_⟩
    · rw [u8s_get, List.getElem?_map, List.getElem?_take] at hj
      split at hj
      · rename_i hjl
        have hjz : j < zs.length := by omega
        rw [List.getElem?_eq_getElem hjz] at hj
        obtain ⟨b, hb⟩ := u8_of zs[j] (hwf _ (List.getElem_mem hjz))
        rw [hcell j hjz, List.getD_eq_getElem?_getD, List.getElem?_eq_getElem hjz, Option.getD_some]
        rw [hb] at hj ⊢
        simpa using hj
      · simp at hj
    · have := World.block_lt_of_cell? w _ (hcell 0 (by omega))
      rwa [addr_block] at this

set_option maxHeartbeats 1000000 in
set_option maxRecDepth 100000 in
theorem broken_any (a0 : Int) (a1 : Option Addr) (len1 cap1 : Nat) (z1 : List Int) (a2 : Int) (a3 : Int) (a4 : Int) (w : World) (w0 : (Lit.int .i64 a0).wf = true)
    (w1 : (a1 = none ∧ len1 = 0 ∧ cap1 = 0 ∧ z1 = []) ∨
      ∃ x, a1 = some x ∧ len1 ≤ cap1 ∧ cap1 ≤ maxLen ∧ z1.length = cap1 ∧ (∀ i, i < z1.length → w.cell? (x.add i) = some (.int .u8 (z1.getD i 0))) ∧ ∀ n ∈ z1, (Lit.int .u8 n).wf = true)
    (w2 : (Lit.int .i64 a2).wf = true) (w3 : (Lit.int .u8 a3).wf = true) (w4 : (Lit.int .u8 a4).wf = true) :
    Calls Tryz.prog 3 #[.int .i64 a0, .slice a1 len1 cap1, .int .i64 a2, .int .u8 a3, .int .u8 a4] w fun e w' => e = .returned (.bool true) ∧ Below w.heap.size w w' := by
  obtain ⟨l, d, rfl, hs, _⟩ := src_of w1
  obtain ⟨mk, rfl⟩ := u8_of a3 w3
  obtain ⟨kd, rfl⟩ := u8_of a4 w4
  clear w0 w1 w2 w3 w4
  by_cases h : 0 ≤ a0 ∧ a0 ≤ 65535 ∧ l.length ≤ 500
  · obtain ⟨ch, rfl⟩ : ∃ n : Nat, a0 = (n : Int) := ⟨a0.toNat, by omega⟩
    refine (broken_main ch _ d l a2 mk kd w (by omega) h.2.2 hs ⟨_, _, rfl⟩).mono fun e w' h => ?_
    exact ⟨h.1, h.2.below⟩
  · have hw := works_any w
    have HW := Lib.hid hw
    clear hw hs
    have hb : 2147483647 < (l.length : Int) ∨ (((l.length : Int) ≤ 2147483647) ∧ (a0 < 0 ∨ 65535 < a0 ∨ 500 < (l.length : Int))) := by omega
    generalize l.length = n at hb h ⊢
    clear h
    rcases hb with hb | ⟨hn, hb⟩
    · go_enter Tryz.func3, Tryz.ntmps3
      go_wp2
      go_ret
      exact ⟨rfl, Below.refl _ _⟩
    · by_cases h0 : a0 < 0
      · clear hb
        go_enter Tryz.func3, Tryz.ntmps3
        go_wp2_with (go_at_call 7; refine HW.out.mono ?_; rintro e w1 ⟨rfl, hk⟩; have HK := Lib.hid hk; clear hk)
        go_ret
        exact ⟨rfl, HK.out.below⟩
      · by_cases h1 : 65535 < a0
        · clear hb
          go_enter Tryz.func3, Tryz.ntmps3
          go_wp2_with (go_at_call 7; refine HW.out.mono ?_; rintro e w1 ⟨rfl, hk⟩; have HK := Lib.hid hk; clear hk)
          go_ret
          exact ⟨rfl, HK.out.below⟩
        · have h2 : 500 < (n : Int) := by omega
          clear hb
          go_enter Tryz.func3, Tryz.ntmps3
          go_wp2_with (go_at_call 7; refine HW.out.mono ?_; rintro e w1 ⟨rfl, hk⟩; have HK := Lib.hid hk; clear hk)
          go_ret
          exact ⟨rfl, HK.out.below⟩

end Go.Proofs.YtkcdakohmfodjaaGreat
