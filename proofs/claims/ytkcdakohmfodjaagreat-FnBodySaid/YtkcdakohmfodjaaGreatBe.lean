/-
  Numbers out of bytes, the greatest first; the package's errors.
-/
import Derived.Test.YtkcdakohmfodjaaGreatBase
import Derived.Test.YtkcdakohmfodjaaGreatProg
import Derived.Lib.EndianBits
import Derived.Lib.Endian
import Derived.RegionTactic
import Derived.Deep.Draws
import Derived.Deep.QuietTactic
import Derived.BigQuiet
namespace Go.Proofs.YtkcdakohmfodjaaGreat
open Go.RowKit
set_option linter.unusedVariables false
set_option linter.unusedSimpArgs false

set_option maxHeartbeats 1000000 in
set_option maxRecDepth 100000 in
theorem be16_any (g o n c : Nat) (b0 b1 : UInt8) (w : World) (hn : 2 ≤ n)
    (c0 : w.cell? ⟨g, o, none⟩ = some (.int .u8 b0.toNat)) (c1 : w.cell? ⟨g, o + 1, none⟩ = some (.int .u8 b1.toNat)) :
    Calls Tryz.prog 57 #[.slice (some ⟨g, o, none⟩) n c] w fun e w' => e = .returned (.int .u16 (Lib.beNat [b0, b1] : Nat)) ∧ ∃ k, w' = w.drewN k := by
  have h0 : b0.toNat < 256 := b0.toNat_lt
  have h1 : b1.toNat < 256 := b1.toNat_lt
  have hn1 : (1 : Int) < n := by omega
  have hn0 : (0 : Int) < n := by omega
  have hv : ((Lib.beNat [b0, b1] : Nat) : Int) = (b1.toNat : Int) + (b0.toNat : Int) * 256 := by
    simp only [Lib.beNat, Lib.beFrom]
    push_cast
    omega
  have HV := Lib.hid hv; clear hv
  go_enter Tryz.func57, Tryz.ntmps57
  go_wp2
  go_quiet (fail)
  go_wp2
  go_ret
  refine ⟨?_, _, rfl⟩
  simp (disch := omega) only [u16_or8]
  rw [HV.out]
  try rfl

set_option maxHeartbeats 1000000 in
set_option maxRecDepth 100000 in
theorem be32_any (g o n c : Nat) (b0 b1 b2 b3 : UInt8) (w : World) (hn : 4 ≤ n)
    (c0 : w.cell? ⟨g, o, none⟩ = some (.int .u8 b0.toNat)) (c1 : w.cell? ⟨g, o + 1, none⟩ = some (.int .u8 b1.toNat)) (c2 : w.cell? ⟨g, o + 2, none⟩ = some (.int .u8 b2.toNat)) (c3 : w.cell? ⟨g, o + 3, none⟩ = some (.int .u8 b3.toNat)) :
    Calls Tryz.prog 58 #[.slice (some ⟨g, o, none⟩) n c] w fun e w' => e = .returned (.int .u32 (Lib.beNat [b0, b1, b2, b3] : Nat)) ∧ ∃ k, w' = w.drewN k := by
  have h0 : b0.toNat < 256 := b0.toNat_lt
  have h1 : b1.toNat < 256 := b1.toNat_lt
  have h2 : b2.toNat < 256 := b2.toNat_lt
  have h3 : b3.toNat < 256 := b3.toNat_lt
  have n3 : (3 : Int) < n := by omega
  have n2 : (2 : Int) < n := by omega
  have n1 : (1 : Int) < n := by omega
  have n0 : (0 : Int) < n := by omega
  have hv : ((Lib.beNat [b0, b1, b2, b3] : Nat) : Int) = (b3.toNat : Int) + (b2.toNat : Int) * 256 + (b1.toNat : Int) * 65536 + (b0.toNat : Int) * 16777216 := by
    simp only [Lib.beNat, Lib.beFrom]
    push_cast
    omega
  have HV := Lib.hid hv; clear hv
  go_enter Tryz.func58, Tryz.ntmps58
  go_wp2
  go_quiet (fail)
  go_wp2
  go_ret
  refine ⟨?_, _, rfl⟩
  simp (disch := omega) only [u32_or8, u32_or16, u32_or24]
  rw [HV.out]
  try rfl

set_option maxHeartbeats 400000 in
theorem errFrame_any (w : World) : Calls Tryz.prog 64 #[] w fun e w' => e = .returned (.pointer (some ⟨w.heap.size, 0, none⟩)) ∧ ∃ o, w.alloc o = w' := by
  go_enter Tryz.func64, Tryz.ntmps64
  go_wp2
  go_ret
  exact ⟨rfl, _, rfl⟩

theorem drewN_kept (w : World) (k : Nat) (S : List Nat) : Kept S w (w.drewN k) := by
  induction k with
  | zero => exact Kept.refl S w
  | succ k ih => exact ih.drew

end Go.Proofs.YtkcdakohmfodjaaGreat
