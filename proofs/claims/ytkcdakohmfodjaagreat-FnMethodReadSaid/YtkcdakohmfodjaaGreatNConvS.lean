/-
  Lemmas on the way to the statement of YtkcdakohmfodjaaGreatMethodRead, joined out of these texts: ConvS, MrC. No condition.
-/
import Derived.Laws.BitsAllLaws
import Derived.Laws.IdiomStrings
import Derived.Test.YtkcdakohmfodjaaGreatNBrkWalk
import Derived.Test.YtkcdakohmfodjaaGreatNRdv
namespace Go.Proofs.YtkcdakohmfodjaaGreat
open Go.RowKit
set_option linter.unusedVariables false
set_option linter.unusedSimpArgs false
/-- 'string(b)' of bytes, wherever they lie. -/
theorem conv_src (s : Value) (d : Nat) (m : List UInt8) (n : Nat) (hmn : m.length = n) (w : World) (hs : Src w s d m) (hsl : ∃ ao c, s = .slice ao n c) :
    (convert 22 9 s).run Tryz.prog w = .ok (.string ⟨m.toArray⟩) w := by
  subst hmn
  rcases hs with ⟨rfl, ao, c, rfl⟩ | ⟨ad, c, _, rfl, hcell⟩
  · cases ao with
    | none => exact run_convert_bytes_nil w _ _ Tryz.underlying22 Tryz.underlying5 0 c _ Tryz.underlying9
    | some ad => exact run_convert_bytes_back w _ _ _ ad c [] Tryz.underlying22 Tryz.underlying5 Tryz.underlying9 (fun j hj => by simp at hj)
  · refine run_convert_bytes_back w _ _ _ ad c m Tryz.underlying22 Tryz.underlying5 Tryz.underlying9 fun j hj => ?_
    exact hcell j _ (by rw [u8s_get, List.getElem?_eq_getElem hj]; rfl)
theorem conv_row {w : World} {g n c : Nat} {l : List UInt8} (h : Row w (.slice (some ⟨g, 0, none⟩) n c) g l) (hn : l.length = n) : (convert 22 9 (.slice (some ⟨g, 0, none⟩) n c)).run Tryz.prog w = .ok (.string ⟨l.toArray⟩) w := by
  have := h.src n (by omega) c
  rw [List.take_of_length_le (by omega)] at this
  exact conv_src _ g l n hn w this ⟨_, _, rfl⟩
set_option maxHeartbeats 1000000 in
set_option maxRecDepth 100000 in
theorem mr_basicPublish (t0 : List UInt8) (t1 : List UInt8) (p2 : Bool) (p3 : Bool) (ht0 : t0.length ≤ 255) (ht1 : t1.length ≤ 255) (rest : List UInt8) {w : World} {b d msg : Nat} (h : MS w b d msg 318 [] [] [.int .u16 0, .string ⟨#[]⟩, .string ⟨#[]⟩, .bool false, .bool false, .string ⟨#[]⟩, .string ⟨#[]⟩, .map none, .int .u8 0, .int .u8 0, .string ⟨#[]⟩, .string ⟨#[]⟩, .string ⟨#[]⟩, .string ⟨#[]⟩, .int .u64 0, .int .i64 0, .pointer none, .string ⟨#[]⟩, .string ⟨#[]⟩, .string ⟨#[]⟩, .string ⟨#[]⟩, .slice none 0 0] (Lib.beBytes 2 0 ++ (Lib.beBytes 1 t0.length ++ (t0 ++ (Lib.beBytes 1 t1.length ++ (t1 ++ (Lib.beBytes 1 (0 + p2.toNat % 2 * 2 ^ 0 + p3.toNat % 2 * 2 ^ 1) ++ rest)))))) w) :
    Calls Tryz.prog 123 #[.pointer (some ⟨msg, 0, none⟩), bufR b] w fun e w' => e = .returned .nilIface ∧ ∃ loc, MS w b d msg 318 loc [] [.int .u16 ((0 : Nat) : Int), .string ⟨(t0 : List UInt8).toArray⟩, .string ⟨(t1 : List UInt8).toArray⟩, .bool p2, .bool p3, .string ⟨#[]⟩, .string ⟨#[]⟩, .map none, .int .u8 0, .int .u8 0, .string ⟨#[]⟩, .string ⟨#[]⟩, .string ⟨#[]⟩, .string ⟨#[]⟩, .int .u64 0, .int .i64 0, .pointer none, .string ⟨#[]⟩, .string ⟨#[]⟩, .string ⟨#[]⟩, .string ⟨#[]⟩, .slice none 0 0] rest w' := by
  obtain ⟨n, hn⟩ : ∃ n, n = 0 + p2.toNat % 2 * 2 ^ 0 + p3.toNat % 2 * 2 ^ 1 := ⟨_, rfl⟩
  have hn8 : n < 256 := by subst hn; cases p2 <;> cases p3 <;> decide
  obtain ⟨v0, b0, d0⟩ : ∃ v : Int, bits .and .u8 (n : Int) 1 = v ∧ decide (v > 0) = p2 := ⟨_, rfl, by subst hn; cases p2 <;> cases p3 <;> decide⟩
  obtain ⟨v1, b1, d1⟩ : ∃ v : Int, bits .and .u8 (n : Int) 2 = v ∧ decide (v > 0) = p3 := ⟨_, rfl, by subst hn; cases p2 <;> cases p3 <;> decide⟩
  have HD := Lib.hid ((And.intro d0 d1))
  clear d0 d1
  have h1 : MS w b d msg 318 [(w.heap.size, .int .u8 0)] [] [.int .u16 0, .string ⟨#[]⟩, .string ⟨#[]⟩, .bool false, .bool false, .string ⟨#[]⟩, .string ⟨#[]⟩, .map none, .int .u8 0, .int .u8 0, .string ⟨#[]⟩, .string ⟨#[]⟩, .string ⟨#[]⟩, .string ⟨#[]⟩, .int .u64 0, .int .i64 0, .pointer none, .string ⟨#[]⟩, .string ⟨#[]⟩, .string ⟨#[]⟩, .string ⟨#[]⟩, .slice none 0 0] (Lib.beBytes 2 0 ++ (Lib.beBytes 1 t0.length ++ (t0 ++ (Lib.beBytes 1 t1.length ++ (t1 ++ (Lib.beBytes 1 n ++ rest)))))) (w.alloc (.cells #[.int .u8 0] 5)) := by rw [hn]; exact h.push _
  have HM0 := Lib.hid h1; clear h h1 hn
  have HB := Lib.hid (And.intro ht0 ht1)
  clear ht0 ht1
  go_enter Tryz.func123, Tryz.ntmps123
  go_upto_region 3 with (go_at_call 77; have hq := ms_u16 0 (by decide) _ HM0.out 0 _ rfl; with_reducible refine hq.mono ?_; clear hq; rintro e w1 ⟨rfl, hm⟩; have HM1 := Lib.hid hm; clear hm)
  go_upto_region 5 with (go_at_call 144; have hq := ms_short t0 HB.out.1 _ HM1.out; with_reducible refine hq.mono ?_; clear hq; rintro e w2 ⟨rfl, hm⟩; have c2 := hm.cell (i := 1) rfl; have fz2 := hm.free 1; have HM2 := Lib.hid hm; clear hm)
  go_upto_region 7 with (go_at_call 144; have hq := ms_short t1 HB.out.2 _ (HM2.out.set 1 (.string ⟨(t0 : List UInt8).toArray⟩)); with_reducible refine hq.mono ?_; clear hq; rintro e w3 ⟨rfl, hm⟩; have c3 := hm.cell (i := 2) rfl; have fz3 := hm.free 2; have HM3 := Lib.hid hm; clear hm)
  go_upto_region 9 with (go_at_call 77; have hq := ms_bits n hn8 _ (HM3.out.set 2 (.string ⟨(t1 : List UInt8).toArray⟩)); with_reducible refine hq.mono ?_; clear hq; rintro e w4 ⟨rfl, hm⟩; have cl := hm.mem; have nl := hm.nlb; have c4_0 := hm.cell (i := 3) rfl; have fz4_0 := hm.free 3; have c4_1 := hm.cell (i := 4) rfl; have fz4_1 := hm.free 4; have HM4 := Lib.hid hm; clear hm)
  go_wp2
  go_ret
  obtain ⟨d0, d1⟩ := HD.out
  have hfin := ((HM4.out.set 3 (.bool (decide (v0 > 0)))).set 4 (.bool (decide (v1 > 0))))
  simp only [d0, d1] at hfin ⊢
  exact ⟨rfl, _, hfin⟩
set_option maxHeartbeats 1000000 in
set_option maxRecDepth 100000 in
theorem mr_basicReturn (n0 : Nat) (t1 : List UInt8) (t2 : List UInt8) (t3 : List UInt8) (hn0 : n0 < 65536) (ht1 : t1.length ≤ 255) (ht2 : t2.length ≤ 255) (ht3 : t3.length ≤ 255) (rest : List UInt8) {w : World} {b d msg : Nat} (h : MS w b d msg 321 [] [] [.int .u16 0, .string ⟨#[]⟩, .string ⟨#[]⟩, .string ⟨#[]⟩, .string ⟨#[]⟩, .string ⟨#[]⟩, .map none, .int .u8 0, .int .u8 0, .string ⟨#[]⟩, .string ⟨#[]⟩, .string ⟨#[]⟩, .string ⟨#[]⟩, .int .u64 0, .int .i64 0, .pointer none, .string ⟨#[]⟩, .string ⟨#[]⟩, .string ⟨#[]⟩, .string ⟨#[]⟩, .slice none 0 0] (Lib.beBytes 2 n0 ++ (Lib.beBytes 1 t1.length ++ (t1 ++ (Lib.beBytes 1 t2.length ++ (t2 ++ (Lib.beBytes 1 t3.length ++ (t3 ++ rest))))))) w) :
    Calls Tryz.prog 124 #[.pointer (some ⟨msg, 0, none⟩), bufR b] w fun e w' => e = .returned .nilIface ∧ ∃ loc, MS w b d msg 321 loc [] [.int .u16 ((n0 : Nat) : Int), .string ⟨(t1 : List UInt8).toArray⟩, .string ⟨(t2 : List UInt8).toArray⟩, .string ⟨(t3 : List UInt8).toArray⟩, .string ⟨#[]⟩, .string ⟨#[]⟩, .map none, .int .u8 0, .int .u8 0, .string ⟨#[]⟩, .string ⟨#[]⟩, .string ⟨#[]⟩, .string ⟨#[]⟩, .int .u64 0, .int .i64 0, .pointer none, .string ⟨#[]⟩, .string ⟨#[]⟩, .string ⟨#[]⟩, .string ⟨#[]⟩, .slice none 0 0] rest w' := by
  have HM0 := Lib.hid h; clear h
  have HB := Lib.hid (And.intro hn0 (And.intro ht1 (And.intro ht2 ht3)))
  clear hn0 ht1 ht2 ht3
  go_enter Tryz.func124, Tryz.ntmps124
  go_upto_region 2 with (go_at_call 77; have hq := ms_u16 n0 HB.out.1 _ HM0.out 0 _ rfl; with_reducible refine hq.mono ?_; clear hq; rintro e w1 ⟨rfl, hm⟩; have HM1 := Lib.hid hm; clear hm)
  go_upto_region 4 with (go_at_call 144; have hq := ms_short t1 HB.out.2.1 _ HM1.out; with_reducible refine hq.mono ?_; clear hq; rintro e w2 ⟨rfl, hm⟩; have c2 := hm.cell (i := 1) rfl; have fz2 := hm.free 1; have HM2 := Lib.hid hm; clear hm)
  go_upto_region 6 with (go_at_call 144; have hq := ms_short t2 HB.out.2.2.1 _ (HM2.out.set 1 (.string ⟨(t1 : List UInt8).toArray⟩)); with_reducible refine hq.mono ?_; clear hq; rintro e w3 ⟨rfl, hm⟩; have c3 := hm.cell (i := 2) rfl; have fz3 := hm.free 2; have HM3 := Lib.hid hm; clear hm)
  go_upto_region 8 with (go_at_call 144; have hq := ms_short t3 HB.out.2.2.2 _ (HM3.out.set 2 (.string ⟨(t2 : List UInt8).toArray⟩)); with_reducible refine hq.mono ?_; clear hq; rintro e w4 ⟨rfl, hm⟩; have c4 := hm.cell (i := 3) rfl; have fz4 := hm.free 3; have HM4 := Lib.hid hm; clear hm)
  go_wp2
  go_ret
  exact ⟨rfl, _, (HM4.out.set 3 (.string ⟨(t3 : List UInt8).toArray⟩))⟩
set_option maxHeartbeats 1000000 in
set_option maxRecDepth 100000 in
theorem mr_basicDeliver (t0 : List UInt8) (n1 : Nat) (p2 : Bool) (t3 : List UInt8) (t4 : List UInt8) (ht0 : t0.length ≤ 255) (hn1 : n1 < 18446744073709551616) (ht3 : t3.length ≤ 255) (ht4 : t4.length ≤ 255) (rest : List UInt8) {w : World} {b d msg : Nat} (h : MS w b d msg 324 [] [] [.string ⟨#[]⟩, .int .u64 0, .bool false, .string ⟨#[]⟩, .string ⟨#[]⟩, .string ⟨#[]⟩, .string ⟨#[]⟩, .map none, .int .u8 0, .int .u8 0, .string ⟨#[]⟩, .string ⟨#[]⟩, .string ⟨#[]⟩, .string ⟨#[]⟩, .int .u64 0, .int .i64 0, .pointer none, .string ⟨#[]⟩, .string ⟨#[]⟩, .string ⟨#[]⟩, .string ⟨#[]⟩, .slice none 0 0] (Lib.beBytes 1 t0.length ++ (t0 ++ (Lib.beBytes 8 n1 ++ (Lib.beBytes 1 (0 + p2.toNat % 2 * 2 ^ 0) ++ (Lib.beBytes 1 t3.length ++ (t3 ++ (Lib.beBytes 1 t4.length ++ (t4 ++ rest)))))))) w) :
    Calls Tryz.prog 125 #[.pointer (some ⟨msg, 0, none⟩), bufR b] w fun e w' => e = .returned .nilIface ∧ ∃ loc, MS w b d msg 324 loc [] [.string ⟨(t0 : List UInt8).toArray⟩, .int .u64 ((n1 : Nat) : Int), .bool p2, .string ⟨(t3 : List UInt8).toArray⟩, .string ⟨(t4 : List UInt8).toArray⟩, .string ⟨#[]⟩, .string ⟨#[]⟩, .map none, .int .u8 0, .int .u8 0, .string ⟨#[]⟩, .string ⟨#[]⟩, .string ⟨#[]⟩, .string ⟨#[]⟩, .int .u64 0, .int .i64 0, .pointer none, .string ⟨#[]⟩, .string ⟨#[]⟩, .string ⟨#[]⟩, .string ⟨#[]⟩, .slice none 0 0] rest w' := by
  obtain ⟨n, hn⟩ : ∃ n, n = 0 + p2.toNat % 2 * 2 ^ 0 := ⟨_, rfl⟩
  have hn8 : n < 256 := by subst hn; cases p2 <;> decide
  obtain ⟨v0, b0, d0⟩ : ∃ v : Int, bits .and .u8 (n : Int) 1 = v ∧ decide (v > 0) = p2 := ⟨_, rfl, by subst hn; cases p2 <;> decide⟩
  have HD := Lib.hid (d0)
  clear d0
  have h1 : MS w b d msg 324 [(w.heap.size, .int .u8 0)] [] [.string ⟨#[]⟩, .int .u64 0, .bool false, .string ⟨#[]⟩, .string ⟨#[]⟩, .string ⟨#[]⟩, .string ⟨#[]⟩, .map none, .int .u8 0, .int .u8 0, .string ⟨#[]⟩, .string ⟨#[]⟩, .string ⟨#[]⟩, .string ⟨#[]⟩, .int .u64 0, .int .i64 0, .pointer none, .string ⟨#[]⟩, .string ⟨#[]⟩, .string ⟨#[]⟩, .string ⟨#[]⟩, .slice none 0 0] (Lib.beBytes 1 t0.length ++ (t0 ++ (Lib.beBytes 8 n1 ++ (Lib.beBytes 1 n ++ (Lib.beBytes 1 t3.length ++ (t3 ++ (Lib.beBytes 1 t4.length ++ (t4 ++ rest)))))))) (w.alloc (.cells #[.int .u8 0] 5)) := by rw [hn]; exact h.push _
  have HM0 := Lib.hid h1; clear h h1 hn
  have HB := Lib.hid (And.intro ht0 (And.intro hn1 (And.intro ht3 ht4)))
  clear ht0 hn1 ht3 ht4
  go_enter Tryz.func125, Tryz.ntmps125
  go_upto_region 3 with (go_at_call 144; have hq := ms_short t0 HB.out.1 _ HM0.out; with_reducible refine hq.mono ?_; clear hq; rintro e w1 ⟨rfl, hm⟩; have c1 := hm.cell (i := 0) rfl; have fz1 := hm.free 0; have HM1 := Lib.hid hm; clear hm)
  go_upto_region 5 with (go_at_call 77; have hq := ms_u64 n1 HB.out.2.1 _ (HM1.out.set 0 (.string ⟨(t0 : List UInt8).toArray⟩)) 1 _ rfl; with_reducible refine hq.mono ?_; clear hq; rintro e w2 ⟨rfl, hm⟩; have HM2 := Lib.hid hm; clear hm)
  go_upto_region 7 with (go_at_call 77; have hq := ms_bits n hn8 _ HM2.out; with_reducible refine hq.mono ?_; clear hq; rintro e w3 ⟨rfl, hm⟩; have cl := hm.mem; have nl := hm.nlb; have c3_0 := hm.cell (i := 2) rfl; have fz3_0 := hm.free 2; have HM3 := Lib.hid hm; clear hm)
  go_upto_region 10 with (go_at_call 144; have hq := ms_short t3 HB.out.2.2.1 _ (HM3.out.set 2 (.bool (decide (v0 > 0)))); with_reducible refine hq.mono ?_; clear hq; rintro e w4 ⟨rfl, hm⟩; have c4 := hm.cell (i := 3) rfl; have fz4 := hm.free 3; have HM4 := Lib.hid hm; clear hm)
  go_upto_region 12 with (go_at_call 144; have hq := ms_short t4 HB.out.2.2.2 _ (HM4.out.set 3 (.string ⟨(t3 : List UInt8).toArray⟩)); with_reducible refine hq.mono ?_; clear hq; rintro e w5 ⟨rfl, hm⟩; have c5 := hm.cell (i := 4) rfl; have fz5 := hm.free 4; have HM5 := Lib.hid hm; clear hm)
  go_wp2
  go_ret
  have d0 := HD.out
  have hfin := (HM5.out.set 4 (.string ⟨(t4 : List UInt8).toArray⟩))
  simp only [d0] at hfin ⊢
  exact ⟨rfl, _, hfin⟩
set_option maxHeartbeats 1000000 in
set_option maxRecDepth 100000 in
theorem mr_basicGet (t0 : List UInt8) (p1 : Bool) (ht0 : t0.length ≤ 255) (rest : List UInt8) {w : World} {b d msg : Nat} (h : MS w b d msg 327 [] [] [.int .u16 0, .string ⟨#[]⟩, .bool false] (Lib.beBytes 2 0 ++ (Lib.beBytes 1 t0.length ++ (t0 ++ (Lib.beBytes 1 (0 + p1.toNat % 2 * 2 ^ 0) ++ rest)))) w) :
    Calls Tryz.prog 126 #[.pointer (some ⟨msg, 0, none⟩), bufR b] w fun e w' => e = .returned .nilIface ∧ ∃ loc, MS w b d msg 327 loc [] [.int .u16 ((0 : Nat) : Int), .string ⟨(t0 : List UInt8).toArray⟩, .bool p1] rest w' := by
  obtain ⟨n, hn⟩ : ∃ n, n = 0 + p1.toNat % 2 * 2 ^ 0 := ⟨_, rfl⟩
  have hn8 : n < 256 := by subst hn; cases p1 <;> decide
  obtain ⟨v0, b0, d0⟩ : ∃ v : Int, bits .and .u8 (n : Int) 1 = v ∧ decide (v > 0) = p1 := ⟨_, rfl, by subst hn; cases p1 <;> decide⟩
  have HD := Lib.hid (d0)
  clear d0
  have h1 : MS w b d msg 327 [(w.heap.size, .int .u8 0)] [] [.int .u16 0, .string ⟨#[]⟩, .bool false] (Lib.beBytes 2 0 ++ (Lib.beBytes 1 t0.length ++ (t0 ++ (Lib.beBytes 1 n ++ rest)))) (w.alloc (.cells #[.int .u8 0] 5)) := by rw [hn]; exact h.push _
  have HM0 := Lib.hid h1; clear h h1 hn
  have HB := Lib.hid ht0
  clear ht0
  go_enter Tryz.func126, Tryz.ntmps126
  go_upto_region 3 with (go_at_call 77; have hq := ms_u16 0 (by decide) _ HM0.out 0 _ rfl; with_reducible refine hq.mono ?_; clear hq; rintro e w1 ⟨rfl, hm⟩; have HM1 := Lib.hid hm; clear hm)
  go_upto_region 5 with (go_at_call 144; have hq := ms_short t0 HB.out _ HM1.out; with_reducible refine hq.mono ?_; clear hq; rintro e w2 ⟨rfl, hm⟩; have c2 := hm.cell (i := 1) rfl; have fz2 := hm.free 1; have HM2 := Lib.hid hm; clear hm)
  go_upto_region 7 with (go_at_call 77; have hq := ms_bits n hn8 _ (HM2.out.set 1 (.string ⟨(t0 : List UInt8).toArray⟩)); with_reducible refine hq.mono ?_; clear hq; rintro e w3 ⟨rfl, hm⟩; have cl := hm.mem; have nl := hm.nlb; have c3_0 := hm.cell (i := 2) rfl; have fz3_0 := hm.free 2; have HM3 := Lib.hid hm; clear hm)
  go_wp2
  go_ret
  have d0 := HD.out
  have hfin := (HM3.out.set 2 (.bool (decide (v0 > 0))))
  simp only [d0] at hfin ⊢
  exact ⟨rfl, _, hfin⟩
set_option maxHeartbeats 1000000 in
set_option maxRecDepth 100000 in
theorem mr_basicGetOk (n0 : Nat) (p1 : Bool) (t2 : List UInt8) (t3 : List UInt8) (n4 : Nat) (hn0 : n0 < 18446744073709551616) (ht2 : t2.length ≤ 255) (ht3 : t3.length ≤ 255) (hn4 : n4 < 4294967296) (rest : List UInt8) {w : World} {b d msg : Nat} (h : MS w b d msg 330 [] [] [.int .u64 0, .bool false, .string ⟨#[]⟩, .string ⟨#[]⟩, .int .u32 0, .string ⟨#[]⟩, .string ⟨#[]⟩, .map none, .int .u8 0, .int .u8 0, .string ⟨#[]⟩, .string ⟨#[]⟩, .string ⟨#[]⟩, .string ⟨#[]⟩, .int .u64 0, .int .i64 0, .pointer none, .string ⟨#[]⟩, .string ⟨#[]⟩, .string ⟨#[]⟩, .string ⟨#[]⟩, .slice none 0 0] (Lib.beBytes 8 n0 ++ (Lib.beBytes 1 (0 + p1.toNat % 2 * 2 ^ 0) ++ (Lib.beBytes 1 t2.length ++ (t2 ++ (Lib.beBytes 1 t3.length ++ (t3 ++ (Lib.beBytes 4 n4 ++ rest))))))) w) :
    Calls Tryz.prog 127 #[.pointer (some ⟨msg, 0, none⟩), bufR b] w fun e w' => e = .returned .nilIface ∧ ∃ loc, MS w b d msg 330 loc [] [.int .u64 ((n0 : Nat) : Int), .bool p1, .string ⟨(t2 : List UInt8).toArray⟩, .string ⟨(t3 : List UInt8).toArray⟩, .int .u32 ((n4 : Nat) : Int), .string ⟨#[]⟩, .string ⟨#[]⟩, .map none, .int .u8 0, .int .u8 0, .string ⟨#[]⟩, .string ⟨#[]⟩, .string ⟨#[]⟩, .string ⟨#[]⟩, .int .u64 0, .int .i64 0, .pointer none, .string ⟨#[]⟩, .string ⟨#[]⟩, .string ⟨#[]⟩, .string ⟨#[]⟩, .slice none 0 0] rest w' := by
  obtain ⟨n, hn⟩ : ∃ n, n = 0 + p1.toNat % 2 * 2 ^ 0 := ⟨_, rfl⟩
  have hn8 : n < 256 := by subst hn; cases p1 <;> decide
  obtain ⟨v0, b0, d0⟩ : ∃ v : Int, bits .and .u8 (n : Int) 1 = v ∧ decide (v > 0) = p1 := ⟨_, rfl, by subst hn; cases p1 <;> decide⟩
  have HD := Lib.hid (d0)
  clear d0
  have h1 : MS w b d msg 330 [(w.heap.size, .int .u8 0)] [] [.int .u64 0, .bool false, .string ⟨#[]⟩, .string ⟨#[]⟩, .int .u32 0, .string ⟨#[]⟩, .string ⟨#[]⟩, .map none, .int .u8 0, .int .u8 0, .string ⟨#[]⟩, .string ⟨#[]⟩, .string ⟨#[]⟩, .string ⟨#[]⟩, .int .u64 0, .int .i64 0, .pointer none, .string ⟨#[]⟩, .string ⟨#[]⟩, .string ⟨#[]⟩, .string ⟨#[]⟩, .slice none 0 0] (Lib.beBytes 8 n0 ++ (Lib.beBytes 1 n ++ (Lib.beBytes 1 t2.length ++ (t2 ++ (Lib.beBytes 1 t3.length ++ (t3 ++ (Lib.beBytes 4 n4 ++ rest))))))) (w.alloc (.cells #[.int .u8 0] 5)) := by rw [hn]; exact h.push _
  have HM0 := Lib.hid h1; clear h h1 hn
  have HB := Lib.hid (And.intro hn0 (And.intro ht2 (And.intro ht3 hn4)))
  clear hn0 ht2 ht3 hn4
  go_enter Tryz.func127, Tryz.ntmps127
  go_upto_region 3 with (go_at_call 77; have hq := ms_u64 n0 HB.out.1 _ HM0.out 0 _ rfl; with_reducible refine hq.mono ?_; clear hq; rintro e w1 ⟨rfl, hm⟩; have HM1 := Lib.hid hm; clear hm)
  go_upto_region 5 with (go_at_call 77; have hq := ms_bits n hn8 _ HM1.out; with_reducible refine hq.mono ?_; clear hq; rintro e w2 ⟨rfl, hm⟩; have cl := hm.mem; have nl := hm.nlb; have c2_0 := hm.cell (i := 1) rfl; have fz2_0 := hm.free 1; have HM2 := Lib.hid hm; clear hm)
  go_upto_region 8 with (go_at_call 144; have hq := ms_short t2 HB.out.2.1 _ (HM2.out.set 1 (.bool (decide (v0 > 0)))); with_reducible refine hq.mono ?_; clear hq; rintro e w3 ⟨rfl, hm⟩; have c3 := hm.cell (i := 2) rfl; have fz3 := hm.free 2; have HM3 := Lib.hid hm; clear hm)
  go_upto_region 10 with (go_at_call 144; have hq := ms_short t3 HB.out.2.2.1 _ (HM3.out.set 2 (.string ⟨(t2 : List UInt8).toArray⟩)); with_reducible refine hq.mono ?_; clear hq; rintro e w4 ⟨rfl, hm⟩; have c4 := hm.cell (i := 3) rfl; have fz4 := hm.free 3; have HM4 := Lib.hid hm; clear hm)
  go_upto_region 12 with (go_at_call 77; have hq := ms_u32 n4 HB.out.2.2.2 _ (HM4.out.set 3 (.string ⟨(t3 : List UInt8).toArray⟩)) 4 _ rfl; with_reducible refine hq.mono ?_; clear hq; rintro e w5 ⟨rfl, hm⟩; have HM5 := Lib.hid hm; clear hm)
  go_wp2
  go_ret
  have d0 := HD.out
  have hfin := HM5.out
  simp only [d0] at hfin ⊢
  exact ⟨rfl, _, hfin⟩
set_option maxHeartbeats 1000000 in
set_option maxRecDepth 100000 in
theorem mr_basicGetEmpty  (rest : List UInt8) {w : World} {b d msg : Nat} (h : MS w b d msg 332 [] [] [.string ⟨#[]⟩] (Lib.beBytes 1 ([] : List UInt8).length ++ (([] : List UInt8) ++ rest)) w) :
    Calls Tryz.prog 128 #[.pointer (some ⟨msg, 0, none⟩), bufR b] w fun e w' => e = .returned .nilIface ∧ ∃ loc, MS w b d msg 332 loc [] [.string ⟨([] : List UInt8).toArray⟩] rest w' := by
  have HM0 := Lib.hid h; clear h
  go_enter Tryz.func128, Tryz.ntmps128
  go_upto_region 2 with (go_at_call 144; have hq := ms_short [] (by simp) _ HM0.out; with_reducible refine hq.mono ?_; clear hq; rintro e w1 ⟨rfl, hm⟩; have c1 := hm.cell (i := 0) rfl; have fz1 := hm.free 0; have HM1 := Lib.hid hm; clear hm)
  go_wp2
  go_ret
  exact ⟨rfl, _, (HM1.out.set 0 (.string ⟨([] : List UInt8).toArray⟩))⟩
set_option maxHeartbeats 1000000 in
set_option maxRecDepth 100000 in
theorem mr_basicAck (n0 : Nat) (p1 : Bool) (hn0 : n0 < 18446744073709551616) (rest : List UInt8) {w : World} {b d msg : Nat} (h : MS w b d msg 335 [] [] [.int .u64 0, .bool false] (Lib.beBytes 8 n0 ++ (Lib.beBytes 1 (0 + p1.toNat % 2 * 2 ^ 0) ++ rest)) w) :
    Calls Tryz.prog 129 #[.pointer (some ⟨msg, 0, none⟩), bufR b] w fun e w' => e = .returned .nilIface ∧ ∃ loc, MS w b d msg 335 loc [] [.int .u64 ((n0 : Nat) : Int), .bool p1] rest w' := by
  obtain ⟨n, hn⟩ : ∃ n, n = 0 + p1.toNat % 2 * 2 ^ 0 := ⟨_, rfl⟩
  have hn8 : n < 256 := by subst hn; cases p1 <;> decide
  obtain ⟨v0, b0, d0⟩ : ∃ v : Int, bits .and .u8 (n : Int) 1 = v ∧ decide (v > 0) = p1 := ⟨_, rfl, by subst hn; cases p1 <;> decide⟩
  have HD := Lib.hid (d0)
  clear d0
  have h1 : MS w b d msg 335 [(w.heap.size, .int .u8 0)] [] [.int .u64 0, .bool false] (Lib.beBytes 8 n0 ++ (Lib.beBytes 1 n ++ rest)) (w.alloc (.cells #[.int .u8 0] 5)) := by rw [hn]; exact h.push _
  have HM0 := Lib.hid h1; clear h h1 hn
  have HB := Lib.hid hn0
  clear hn0
  go_enter Tryz.func129, Tryz.ntmps129
  go_upto_region 3 with (go_at_call 77; have hq := ms_u64 n0 HB.out _ HM0.out 0 _ rfl; with_reducible refine hq.mono ?_; clear hq; rintro e w1 ⟨rfl, hm⟩; have HM1 := Lib.hid hm; clear hm)
  go_upto_region 5 with (go_at_call 77; have hq := ms_bits n hn8 _ HM1.out; with_reducible refine hq.mono ?_; clear hq; rintro e w2 ⟨rfl, hm⟩; have cl := hm.mem; have nl := hm.nlb; have c2_0 := hm.cell (i := 1) rfl; have fz2_0 := hm.free 1; have HM2 := Lib.hid hm; clear hm)
  go_wp2
  go_ret
  have d0 := HD.out
  have hfin := (HM2.out.set 1 (.bool (decide (v0 > 0))))
  simp only [d0] at hfin ⊢
  exact ⟨rfl, _, hfin⟩
set_option maxHeartbeats 1000000 in
set_option maxRecDepth 100000 in
theorem mr_basicReject (n0 : Nat) (p1 : Bool) (hn0 : n0 < 18446744073709551616) (rest : List UInt8) {w : World} {b d msg : Nat} (h : MS w b d msg 338 [] [] [.int .u64 0, .bool false] (Lib.beBytes 8 n0 ++ (Lib.beBytes 1 (0 + p1.toNat % 2 * 2 ^ 0) ++ rest)) w) :
    Calls Tryz.prog 130 #[.pointer (some ⟨msg, 0, none⟩), bufR b] w fun e w' => e = .returned .nilIface ∧ ∃ loc, MS w b d msg 338 loc [] [.int .u64 ((n0 : Nat) : Int), .bool p1] rest w' := by
  obtain ⟨n, hn⟩ : ∃ n, n = 0 + p1.toNat % 2 * 2 ^ 0 := ⟨_, rfl⟩
  have hn8 : n < 256 := by subst hn; cases p1 <;> decide
  obtain ⟨v0, b0, d0⟩ : ∃ v : Int, bits .and .u8 (n : Int) 1 = v ∧ decide (v > 0) = p1 := ⟨_, rfl, by subst hn; cases p1 <;> decide⟩
  have HD := Lib.hid (d0)
  clear d0
  have h1 : MS w b d msg 338 [(w.heap.size, .int .u8 0)] [] [.int .u64 0, .bool false] (Lib.beBytes 8 n0 ++ (Lib.beBytes 1 n ++ rest)) (w.alloc (.cells #[.int .u8 0] 5)) := by rw [hn]; exact h.push _
  have HM0 := Lib.hid h1; clear h h1 hn
  have HB := Lib.hid hn0
  clear hn0
  go_enter Tryz.func130, Tryz.ntmps130
  go_upto_region 3 with (go_at_call 77; have hq := ms_u64 n0 HB.out _ HM0.out 0 _ rfl; with_reducible refine hq.mono ?_; clear hq; rintro e w1 ⟨rfl, hm⟩; have HM1 := Lib.hid hm; clear hm)
  go_upto_region 5 with (go_at_call 77; have hq := ms_bits n hn8 _ HM1.out; with_reducible refine hq.mono ?_; clear hq; rintro e w2 ⟨rfl, hm⟩; have cl := hm.mem; have nl := hm.nlb; have c2_0 := hm.cell (i := 1) rfl; have fz2_0 := hm.free 1; have HM2 := Lib.hid hm; clear hm)
  go_wp2
  go_ret
  have d0 := HD.out
  have hfin := (HM2.out.set 1 (.bool (decide (v0 > 0))))
  simp only [d0] at hfin ⊢
  exact ⟨rfl, _, hfin⟩
set_option maxHeartbeats 1000000 in
set_option maxRecDepth 100000 in
theorem mr_basicRecoverAsync (p0 : Bool) (rest : List UInt8) {w : World} {b d msg : Nat} (h : MS w b d msg 341 [] [] [.bool false] (Lib.beBytes 1 (0 + p0.toNat % 2 * 2 ^ 0) ++ rest) w) :
    Calls Tryz.prog 131 #[.pointer (some ⟨msg, 0, none⟩), bufR b] w fun e w' => e = .returned .nilIface ∧ ∃ loc, MS w b d msg 341 loc [] [.bool p0] rest w' := by
  obtain ⟨n, hn⟩ : ∃ n, n = 0 + p0.toNat % 2 * 2 ^ 0 := ⟨_, rfl⟩
  have hn8 : n < 256 := by subst hn; cases p0 <;> decide
  obtain ⟨v0, b0, d0⟩ : ∃ v : Int, bits .and .u8 (n : Int) 1 = v ∧ decide (v > 0) = p0 := ⟨_, rfl, by subst hn; cases p0 <;> decide⟩
  have HD := Lib.hid (d0)
  clear d0
  have h1 : MS w b d msg 341 [(w.heap.size, .int .u8 0)] [] [.bool false] (Lib.beBytes 1 n ++ rest) (w.alloc (.cells #[.int .u8 0] 5)) := by rw [hn]; exact h.push _
  have HM0 := Lib.hid h1; clear h h1 hn
  go_enter Tryz.func131, Tryz.ntmps131
  go_upto_region 3 with (go_at_call 77; have hq := ms_bits n hn8 _ HM0.out; with_reducible refine hq.mono ?_; clear hq; rintro e w1 ⟨rfl, hm⟩; have cl := hm.mem; have nl := hm.nlb; have c1_0 := hm.cell (i := 0) rfl; have fz1_0 := hm.free 0; have HM1 := Lib.hid hm; clear hm)
  go_wp2
  go_ret
  have d0 := HD.out
  have hfin := (HM1.out.set 0 (.bool (decide (v0 > 0))))
  simp only [d0] at hfin ⊢
  exact ⟨rfl, _, hfin⟩
set_option maxHeartbeats 1000000 in
set_option maxRecDepth 100000 in
theorem mr_basicRecover (p0 : Bool) (rest : List UInt8) {w : World} {b d msg : Nat} (h : MS w b d msg 343 [] [] [.bool false] (Lib.beBytes 1 (0 + p0.toNat % 2 * 2 ^ 0) ++ rest) w) :
    Calls Tryz.prog 132 #[.pointer (some ⟨msg, 0, none⟩), bufR b] w fun e w' => e = .returned .nilIface ∧ ∃ loc, MS w b d msg 343 loc [] [.bool p0] rest w' := by
  obtain ⟨n, hn⟩ : ∃ n, n = 0 + p0.toNat % 2 * 2 ^ 0 := ⟨_, rfl⟩
  have hn8 : n < 256 := by subst hn; cases p0 <;> decide
  obtain ⟨v0, b0, d0⟩ : ∃ v : Int, bits .and .u8 (n : Int) 1 = v ∧ decide (v > 0) = p0 := ⟨_, rfl, by subst hn; cases p0 <;> decide⟩
  have HD := Lib.hid (d0)
  clear d0
  have h1 : MS w b d msg 343 [(w.heap.size, .int .u8 0)] [] [.bool false] (Lib.beBytes 1 n ++ rest) (w.alloc (.cells #[.int .u8 0] 5)) := by rw [hn]; exact h.push _
  have HM0 := Lib.hid h1; clear h h1 hn
  go_enter Tryz.func132, Tryz.ntmps132
  go_upto_region 3 with (go_at_call 77; have hq := ms_bits n hn8 _ HM0.out; with_reducible refine hq.mono ?_; clear hq; rintro e w1 ⟨rfl, hm⟩; have cl := hm.mem; have nl := hm.nlb; have c1_0 := hm.cell (i := 0) rfl; have fz1_0 := hm.free 0; have HM1 := Lib.hid hm; clear hm)
  go_wp2
  go_ret
  have d0 := HD.out
  have hfin := (HM1.out.set 0 (.bool (decide (v0 > 0))))
  simp only [d0] at hfin ⊢
  exact ⟨rfl, _, hfin⟩
set_option maxHeartbeats 1000000 in
set_option maxRecDepth 100000 in
theorem mr_basicRecoverOk  (rest : List UInt8) {w : World} {b d msg : Nat} (h : MS w b d msg 345 [] [] [] rest w) :
    Calls Tryz.prog 133 #[.pointer (some ⟨msg, 0, none⟩), bufR b] w fun e w' => e = .returned .nilIface ∧ ∃ loc, MS w b d msg 345 loc [] [] rest w' := by
  have HM0 := Lib.hid h; clear h
  go_enter Tryz.func133, Tryz.ntmps133
  go_wp2
  go_ret
  exact ⟨rfl, _, HM0.out⟩
set_option maxHeartbeats 1000000 in
set_option maxRecDepth 100000 in
theorem mr_basicNack (n0 : Nat) (p1 : Bool) (p2 : Bool) (hn0 : n0 < 18446744073709551616) (rest : List UInt8) {w : World} {b d msg : Nat} (h : MS w b d msg 348 [] [] [.int .u64 0, .bool false, .bool false] (Lib.beBytes 8 n0 ++ (Lib.beBytes 1 (0 + p1.toNat % 2 * 2 ^ 0 + p2.toNat % 2 * 2 ^ 1) ++ rest)) w) :
    Calls Tryz.prog 134 #[.pointer (some ⟨msg, 0, none⟩), bufR b] w fun e w' => e = .returned .nilIface ∧ ∃ loc, MS w b d msg 348 loc [] [.int .u64 ((n0 : Nat) : Int), .bool p1, .bool p2] rest w' := by
  obtain ⟨n, hn⟩ : ∃ n, n = 0 + p1.toNat % 2 * 2 ^ 0 + p2.toNat % 2 * 2 ^ 1 := ⟨_, rfl⟩
  have hn8 : n < 256 := by subst hn; cases p1 <;> cases p2 <;> decide
  obtain ⟨v0, b0, d0⟩ : ∃ v : Int, bits .and .u8 (n : Int) 1 = v ∧ decide (v > 0) = p1 := ⟨_, rfl, by subst hn; cases p1 <;> cases p2 <;> decide⟩
  obtain ⟨v1, b1, d1⟩ : ∃ v : Int, bits .and .u8 (n : Int) 2 = v ∧ decide (v > 0) = p2 := ⟨_, rfl, by subst hn; cases p1 <;> cases p2 <;> decide⟩
  have HD := Lib.hid ((And.intro d0 d1))
  clear d0 d1
  have h1 : MS w b d msg 348 [(w.heap.size, .int .u8 0)] [] [.int .u64 0, .bool false, .bool false] (Lib.beBytes 8 n0 ++ (Lib.beBytes 1 n ++ rest)) (w.alloc (.cells #[.int .u8 0] 5)) := by rw [hn]; exact h.push _
  have HM0 := Lib.hid h1; clear h h1 hn
  have HB := Lib.hid hn0
  clear hn0
  go_enter Tryz.func134, Tryz.ntmps134
  go_upto_region 3 with (go_at_call 77; have hq := ms_u64 n0 HB.out _ HM0.out 0 _ rfl; with_reducible refine hq.mono ?_; clear hq; rintro e w1 ⟨rfl, hm⟩; have HM1 := Lib.hid hm; clear hm)
  go_upto_region 5 with (go_at_call 77; have hq := ms_bits n hn8 _ HM1.out; with_reducible refine hq.mono ?_; clear hq; rintro e w2 ⟨rfl, hm⟩; have cl := hm.mem; have nl := hm.nlb; have c2_0 := hm.cell (i := 1) rfl; have fz2_0 := hm.free 1; have c2_1 := hm.cell (i := 2) rfl; have fz2_1 := hm.free 2; have HM2 := Lib.hid hm; clear hm)
  go_wp2
  go_ret
  obtain ⟨d0, d1⟩ := HD.out
  have hfin := ((HM2.out.set 1 (.bool (decide (v0 > 0)))).set 2 (.bool (decide (v1 > 0))))
  simp only [d0, d1] at hfin ⊢
  exact ⟨rfl, _, hfin⟩
set_option maxHeartbeats 1000000 in
set_option maxRecDepth 100000 in
theorem mr_txSelect  (rest : List UInt8) {w : World} {b d msg : Nat} (h : MS w b d msg 350 [] [] [] rest w) :
    Calls Tryz.prog 135 #[.pointer (some ⟨msg, 0, none⟩), bufR b] w fun e w' => e = .returned .nilIface ∧ ∃ loc, MS w b d msg 350 loc [] [] rest w' := by
  have HM0 := Lib.hid h; clear h
  go_enter Tryz.func135, Tryz.ntmps135
  go_wp2
  go_ret
  exact ⟨rfl, _, HM0.out⟩
set_option maxHeartbeats 1000000 in
set_option maxRecDepth 100000 in
theorem mr_txSelectOk  (rest : List UInt8) {w : World} {b d msg : Nat} (h : MS w b d msg 352 [] [] [] rest w) :
    Calls Tryz.prog 136 #[.pointer (some ⟨msg, 0, none⟩), bufR b] w fun e w' => e = .returned .nilIface ∧ ∃ loc, MS w b d msg 352 loc [] [] rest w' := by
  have HM0 := Lib.hid h; clear h
  go_enter Tryz.func136, Tryz.ntmps136
  go_wp2
  go_ret
  exact ⟨rfl, _, HM0.out⟩
set_option maxHeartbeats 1000000 in
set_option maxRecDepth 100000 in
theorem mr_txCommit  (rest : List UInt8) {w : World} {b d msg : Nat} (h : MS w b d msg 354 [] [] [] rest w) :
    Calls Tryz.prog 137 #[.pointer (some ⟨msg, 0, none⟩), bufR b] w fun e w' => e = .returned .nilIface ∧ ∃ loc, MS w b d msg 354 loc [] [] rest w' := by
  have HM0 := Lib.hid h; clear h
  go_enter Tryz.func137, Tryz.ntmps137
  go_wp2
  go_ret
  exact ⟨rfl, _, HM0.out⟩
set_option maxHeartbeats 1000000 in
set_option maxRecDepth 100000 in
theorem mr_txCommitOk  (rest : List UInt8) {w : World} {b d msg : Nat} (h : MS w b d msg 356 [] [] [] rest w) :
    Calls Tryz.prog 138 #[.pointer (some ⟨msg, 0, none⟩), bufR b] w fun e w' => e = .returned .nilIface ∧ ∃ loc, MS w b d msg 356 loc [] [] rest w' := by
  have HM0 := Lib.hid h; clear h
  go_enter Tryz.func138, Tryz.ntmps138
  go_wp2
  go_ret
  exact ⟨rfl, _, HM0.out⟩
set_option maxHeartbeats 1000000 in
set_option maxRecDepth 100000 in
theorem mr_txRollback  (rest : List UInt8) {w : World} {b d msg : Nat} (h : MS w b d msg 358 [] [] [] rest w) :
    Calls Tryz.prog 139 #[.pointer (some ⟨msg, 0, none⟩), bufR b] w fun e w' => e = .returned .nilIface ∧ ∃ loc, MS w b d msg 358 loc [] [] rest w' := by
  have HM0 := Lib.hid h; clear h
  go_enter Tryz.func139, Tryz.ntmps139
  go_wp2
  go_ret
  exact ⟨rfl, _, HM0.out⟩
set_option maxHeartbeats 1000000 in
set_option maxRecDepth 100000 in
theorem mr_txRollbackOk  (rest : List UInt8) {w : World} {b d msg : Nat} (h : MS w b d msg 360 [] [] [] rest w) :
    Calls Tryz.prog 140 #[.pointer (some ⟨msg, 0, none⟩), bufR b] w fun e w' => e = .returned .nilIface ∧ ∃ loc, MS w b d msg 360 loc [] [] rest w' := by
  have HM0 := Lib.hid h; clear h
  go_enter Tryz.func140, Tryz.ntmps140
  go_wp2
  go_ret
  exact ⟨rfl, _, HM0.out⟩
set_option maxHeartbeats 1000000 in
set_option maxRecDepth 100000 in
theorem mr_confirmSelect (p0 : Bool) (rest : List UInt8) {w : World} {b d msg : Nat} (h : MS w b d msg 363 [] [] [.bool false] (Lib.beBytes 1 (0 + p0.toNat % 2 * 2 ^ 0) ++ rest) w) :
    Calls Tryz.prog 141 #[.pointer (some ⟨msg, 0, none⟩), bufR b] w fun e w' => e = .returned .nilIface ∧ ∃ loc, MS w b d msg 363 loc [] [.bool p0] rest w' := by
  obtain ⟨n, hn⟩ : ∃ n, n = 0 + p0.toNat % 2 * 2 ^ 0 := ⟨_, rfl⟩
  have hn8 : n < 256 := by subst hn; cases p0 <;> decide
  obtain ⟨v0, b0, d0⟩ : ∃ v : Int, bits .and .u8 (n : Int) 1 = v ∧ decide (v > 0) = p0 := ⟨_, rfl, by subst hn; cases p0 <;> decide⟩
  have HD := Lib.hid (d0)
  clear d0
  have h1 : MS w b d msg 363 [(w.heap.size, .int .u8 0)] [] [.bool false] (Lib.beBytes 1 n ++ rest) (w.alloc (.cells #[.int .u8 0] 5)) := by rw [hn]; exact h.push _
  have HM0 := Lib.hid h1; clear h h1 hn
  go_enter Tryz.func141, Tryz.ntmps141
  go_upto_region 3 with (go_at_call 77; have hq := ms_bits n hn8 _ HM0.out; with_reducible refine hq.mono ?_; clear hq; rintro e w1 ⟨rfl, hm⟩; have cl := hm.mem; have nl := hm.nlb; have c1_0 := hm.cell (i := 0) rfl; have fz1_0 := hm.free 0; have HM1 := Lib.hid hm; clear hm)
  go_wp2
  go_ret
  have d0 := HD.out
  have hfin := (HM1.out.set 0 (.bool (decide (v0 > 0))))
  simp only [d0] at hfin ⊢
  exact ⟨rfl, _, hfin⟩
set_option maxHeartbeats 1000000 in
set_option maxRecDepth 100000 in
theorem mr_confirmSelectOk  (rest : List UInt8) {w : World} {b d msg : Nat} (h : MS w b d msg 365 [] [] [] rest w) :
    Calls Tryz.prog 142 #[.pointer (some ⟨msg, 0, none⟩), bufR b] w fun e w' => e = .returned .nilIface ∧ ∃ loc, MS w b d msg 365 loc [] [] rest w' := by
  have HM0 := Lib.hid h; clear h
  go_enter Tryz.func142, Tryz.ntmps142
  go_wp2
  go_ret
  exact ⟨rfl, _, HM0.out⟩
end Go.Proofs.YtkcdakohmfodjaaGreat
