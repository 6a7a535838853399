/-
  'append(xs, make([]byte, n)...)' within the capacity; the plain helpers of the frame's reader: numbers of bytes, errors, the smaller of two.
-/
import Derived.Test.YtkcdakohmfodjaaGreatRd
import Derived.Lib.AppendZeros
import Derived.Lib.EndianBits
import Derived.Lib.Endian
import Derived.RegionTactic
import Derived.Deep.Draws
namespace Go.Proofs.YtkcdakohmfodjaaGreat
open Go.RowKit
set_option linter.unusedVariables false
set_option linter.unusedSimpArgs false

theorem zeroCells_one (z : Value) (n : Nat) : (Builtin.zeroCells #[z] n).toList = List.replicate n z := by
  simp only [Builtin.zeroCells]
  apply List.ext_getElem
  · simp
  · intro i h1 h2; simp [Nat.mod_one]

theorem run_append_zeros {P : Program} (w : World) (t tn ty e : TypeId) (i : TypeInfo) (z : Value) (k kn : IntKind) (ht : P.underlying t = some (.slice e)) (htn : P.underlying tn = some (.int kn)) (hi : P.info? e = some i) (hz : i.zero = some z)
    (hs : i.size = 1) (hz1 : z.cells = #[z]) (h1 : z.oneCell' = true) (g n c : Nat) (cur : List Value) (hg : Blk w g cur.toArray e) (h0 : 0 < n) (hc : n ≤ c) (hfit : n ≤ cur.length) (h63 : (n : Int) ≤ 9223372036854775807) (h48 : n * i.bytes ≤ 281474976710656) :
    (Builtin.append_ #[t, tn] ty #[.slice (some ⟨g, 0, none⟩) 0 c, .int k n]).run P w =
      .ok (.slice (some ⟨g, 0, none⟩) n c) (w.setRow g (List.replicate n z ++ cur.drop n).toArray) := by
  have hn : n ≠ 0 := by omega
  have hw : IntKind.i64.wrap (n : Int) = n := by rw [IntKind.wrap_i64]; omega
  have h48i : ¬ (281474976710656 < (n : Int) * (i.bytes : Int)) := by
    rw [← Int.natCast_mul]
    omega
  have hneg : ¬ ((n : Int) < 0) := by omega
  have hst := run_storeCells_at P g 0 e (List.replicate n z) 0 cur.toArray w hg (by simpa using hfit) (by intro v hv; rw [List.eq_of_mem_replicate hv]; exact h1)
  simp only [Nat.add_zero, Nat.zero_add, List.take_zero, List.nil_append, List.length_replicate] at hst
  simp [Builtin.append_, run_underlying ht, run_underlying htn, sizeOf, typeInfo, zeroValue, hi, hz, asInt, asIntOf, hw, hn, hneg, hs, hc, h48i, hz1, zeroCells_one, hst, Addr.add]

end Go.Proofs.YtkcdakohmfodjaaGreat
