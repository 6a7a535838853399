/-
  The plain law: a body's frame that is cut, has another mark or another kind, is none that ReadFrame takes.
-/
import Derived.Test.YtkcdakohmfodjaaGreatBad
namespace Go.Proofs.YtkcdakohmfodjaaGreat
open Go.RowKit
set_option linter.unusedVariables false
set_option linter.unusedSimpArgs false

theorem be4_len (n : Nat) (h : n < 4294967296) : Lib.beNat [UInt8.ofNat (n / 16777216), UInt8.ofNat (n / 65536), UInt8.ofNat (n / 256), UInt8.ofNat n] = n := by
  rw [← be4]; exact Lib.beNat_beBytes 4 n (by omega)

theorem be2_num (n : Nat) (h : n < 65536) : Lib.beNat [UInt8.ofNat (n / 256), UInt8.ofNat n] = n := by
  rw [← be2]; exact Lib.beNat_beBytes 2 n (by omega)

theorem frameB3 (ch : Nat) (m : List UInt8) : frameB 3 ch m = 3 :: UInt8.ofNat (ch / 256) :: UInt8.ofNat ch :: UInt8.ofNat (m.length / 16777216) :: UInt8.ofNat (m.length / 65536) :: UInt8.ofNat (m.length / 256) :: UInt8.ofNat m.length :: (m ++ [206]) := by
  rw [frameB_head]; simp

theorem bad_take (ch n : Nat) (m : List UInt8) (hm : m.length ≤ 500) (hn : n < m.length + 8) : Bad ((frameB 3 ch m).take n) := by
  by_cases h7 : n < 7
  · exact .short _ (by simp [frameB_length]; omega)
  · obtain ⟨k, rfl⟩ : ∃ k, n = k + 7 := ⟨n - 7, by omega⟩
    rw [frameB3]
    simp only [List.take_succ_cons]
    by_cases hk : k < m.length
    · exact .body _ _ _ _ _ _ m.length _ (be4_len _ (by omega)) (by omega) (by simp; omega)
    · exact .noMark _ _ _ _ _ _ m.length _ (be4_len _ (by omega)) (by omega) (by simp; omega)

theorem bad_mark (ch : Nat) (z : UInt8) (m : List UInt8) (hm : m.length ≤ 500) (hz : z ≠ 206) : Bad ((frameB 3 ch m).take (m.length + 7) ++ [z]) := by
  rw [frameB3]
  simp only [List.take_succ_cons, List.cons_append]
  rw [List.take_left' rfl]
  exact .mark _ _ _ _ _ _ z m.length m [] (be4_len _ (by omega)) (by omega) rfl hz (by simp)

theorem bad_kind (ch : Nat) (k : UInt8) (m : List UInt8) (hm : m.length ≤ 500) (h1 : k ≠ 1) (h2 : k ≠ 2) (h3 : k ≠ 3) (h8 : k ≠ 8) : Bad ((frameB 3 ch m).set 0 k) := by
  rw [frameB3, List.set_cons_zero]
  exact .kind k _ _ _ _ _ _ _ h1 h2 h3 h8 (by simp; omega)

end Go.Proofs.YtkcdakohmfodjaaGreat
