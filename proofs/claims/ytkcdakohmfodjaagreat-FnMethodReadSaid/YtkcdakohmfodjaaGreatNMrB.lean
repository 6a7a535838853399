/-
  Lemmas on the way to the statement of YtkcdakohmfodjaaGreatMethodRead, joined out of these texts: MrB. No condition.
-/
import Derived.Laws.BitsAllLaws
import Derived.Test.YtkcdakohmfodjaaGreatNRdv
namespace Go.Proofs.YtkcdakohmfodjaaGreat
open Go.RowKit
set_option linter.unusedVariables false
set_option linter.unusedSimpArgs false
set_option maxHeartbeats 1000000 in
set_option maxRecDepth 100000 in
theorem mr_exchangeDelete (t0 : List UInt8) (p1 : Bool) (p2 : Bool) (ht0 : t0.length ≤ 255) (rest : List UInt8) {w : World} {b d msg : Nat} (h : MS w b d msg 261 [] [] [.int .u16 0, .string ⟨#[]⟩, .bool false, .bool false] (Lib.beBytes 2 0 ++ (Lib.beBytes 1 t0.length ++ (t0 ++ (Lib.beBytes 1 (0 + p1.toNat % 2 * 2 ^ 0 + p2.toNat % 2 * 2 ^ 1) ++ rest)))) w) :
    Calls Tryz.prog 101 #[.pointer (some ⟨msg, 0, none⟩), bufR b] w fun e w' => e = .returned .nilIface ∧ ∃ loc, MS w b d msg 261 loc [] [.int .u16 ((0 : Nat) : Int), .string ⟨(t0 : List UInt8).toArray⟩, .bool p1, .bool p2] rest w' := by
  obtain ⟨n, hn⟩ : ∃ n, n = 0 + p1.toNat % 2 * 2 ^ 0 + p2.toNat % 2 * 2 ^ 1 := ⟨_, rfl⟩
  have hn8 : n < 256 := by subst hn; cases p1 <;> cases p2 <;> decide
  obtain ⟨v0, b0, d0⟩ : ∃ v : Int, bits .and .u8 (n : Int) 1 = v ∧ decide (v > 0) = p1 := ⟨_, rfl, by subst hn; cases p1 <;> cases p2 <;> decide⟩
  obtain ⟨v1, b1, d1⟩ : ∃ v : Int, bits .and .u8 (n : Int) 2 = v ∧ decide (v > 0) = p2 := ⟨_, rfl, by subst hn; cases p1 <;> cases p2 <;> decide⟩
  have HD := Lib.hid ((And.intro d0 d1))
  clear d0 d1
  have h1 : MS w b d msg 261 [(w.heap.size, .int .u8 0)] [] [.int .u16 0, .string ⟨#[]⟩, .bool false, .bool false] (Lib.beBytes 2 0 ++ (Lib.beBytes 1 t0.length ++ (t0 ++ (Lib.beBytes 1 n ++ rest)))) (w.alloc (.cells #[.int .u8 0] 5)) := by rw [hn]; exact h.push _
  have HM0 := Lib.hid h1; clear h h1 hn
  have HB := Lib.hid ht0
  clear ht0
  go_enter Tryz.func101, Tryz.ntmps101
  go_upto_region 3 with (go_at_call 77; have hq := ms_u16 0 (by decide) _ HM0.out 0 _ rfl; with_reducible refine hq.mono ?_; clear hq; rintro e w1 ⟨rfl, hm⟩; have HM1 := Lib.hid hm; clear hm)
  go_upto_region 5 with (go_at_call 144; have hq := ms_short t0 HB.out _ HM1.out; with_reducible refine hq.mono ?_; clear hq; rintro e w2 ⟨rfl, hm⟩; have c2 := hm.cell (i := 1) rfl; have fz2 := hm.free 1; have HM2 := Lib.hid hm; clear hm)
  go_upto_region 7 with (go_at_call 77; have hq := ms_bits n hn8 _ (HM2.out.set 1 (.string ⟨(t0 : List UInt8).toArray⟩)); with_reducible refine hq.mono ?_; clear hq; rintro e w3 ⟨rfl, hm⟩; have cl := hm.mem; have nl := hm.nlb; have c3_0 := hm.cell (i := 2) rfl; have fz3_0 := hm.free 2; have c3_1 := hm.cell (i := 3) rfl; have fz3_1 := hm.free 3; have HM3 := Lib.hid hm; clear hm)
  go_wp2
  go_ret
  obtain ⟨d0, d1⟩ := HD.out
  have hfin := ((HM3.out.set 2 (.bool (decide (v0 > 0)))).set 3 (.bool (decide (v1 > 0))))
  simp only [d0, d1] at hfin ⊢
  exact ⟨rfl, _, hfin⟩
set_option maxHeartbeats 1000000 in
set_option maxRecDepth 100000 in
theorem mr_exchangeDeleteOk  (rest : List UInt8) {w : World} {b d msg : Nat} (h : MS w b d msg 263 [] [] [] rest w) :
    Calls Tryz.prog 102 #[.pointer (some ⟨msg, 0, none⟩), bufR b] w fun e w' => e = .returned .nilIface ∧ ∃ loc, MS w b d msg 263 loc [] [] rest w' := by
  have HM0 := Lib.hid h; clear h
  go_enter Tryz.func102, Tryz.ntmps102
  go_wp2
  go_ret
  exact ⟨rfl, _, HM0.out⟩
set_option maxHeartbeats 1000000 in
set_option maxRecDepth 100000 in
theorem mr_exchangeBind (t0 : List UInt8) (t1 : List UInt8) (t2 : List UInt8) (p3 : Bool) (f4 : List Fld) (ht0 : t0.length ≤ 255) (ht1 : t1.length ≤ 255) (ht2 : t2.length ≤ 255) (hwf4 : WfFs f4) (hf4 : fitsB f4 = true) (rest : List UInt8) {w : World} {b d msg : Nat} (h : MS w b d msg 266 [] [] [.int .u16 0, .string ⟨#[]⟩, .string ⟨#[]⟩, .string ⟨#[]⟩, .bool false, .map none] (Lib.beBytes 2 0 ++ (Lib.beBytes 1 t0.length ++ (t0 ++ (Lib.beBytes 1 t1.length ++ (t1 ++ (Lib.beBytes 1 t2.length ++ (t2 ++ (Lib.beBytes 1 (0 + p3.toNat % 2 * 2 ^ 0) ++ (encT f4 ++ rest))))))))) w) :
    Calls Tryz.prog 103 #[.pointer (some ⟨msg, 0, none⟩), bufR b] w fun e w' => e = .returned .nilIface ∧ ∃ loc, ∃ tb, MS w b d msg 266 loc [(.map (some tb), f4)] [.int .u16 ((0 : Nat) : Int), .string ⟨(t0 : List UInt8).toArray⟩, .string ⟨(t1 : List UInt8).toArray⟩, .string ⟨(t2 : List UInt8).toArray⟩, .bool p3, .map (some tb)] rest w' := by
  obtain ⟨n, hn⟩ : ∃ n, n = 0 + p3.toNat % 2 * 2 ^ 0 := ⟨_, rfl⟩
  have hn8 : n < 256 := by subst hn; cases p3 <;> decide
  obtain ⟨v0, b0, d0⟩ : ∃ v : Int, bits .and .u8 (n : Int) 1 = v ∧ decide (v > 0) = p3 := ⟨_, rfl, by subst hn; cases p3 <;> decide⟩
  have HD := Lib.hid (d0)
  clear d0
  have h1 : MS w b d msg 266 [(w.heap.size, .int .u8 0)] [] [.int .u16 0, .string ⟨#[]⟩, .string ⟨#[]⟩, .string ⟨#[]⟩, .bool false, .map none] (Lib.beBytes 2 0 ++ (Lib.beBytes 1 t0.length ++ (t0 ++ (Lib.beBytes 1 t1.length ++ (t1 ++ (Lib.beBytes 1 t2.length ++ (t2 ++ (Lib.beBytes 1 n ++ (encT f4 ++ rest))))))))) (w.alloc (.cells #[.int .u8 0] 5)) := by rw [hn]; exact h.push _
  have HM0 := Lib.hid h1; clear h h1 hn
  have HB := Lib.hid (And.intro ht0 (And.intro ht1 (And.intro ht2 (And.intro hwf4 hf4))))
  clear ht0 ht1 ht2 hwf4 hf4
  go_enter Tryz.func103, Tryz.ntmps103
  go_upto_region 3 with (go_at_call 77; have hq := ms_u16 0 (by decide) _ HM0.out 0 _ rfl; with_reducible refine hq.mono ?_; clear hq; rintro e w1 ⟨rfl, hm⟩; have HM1 := Lib.hid hm; clear hm)
  go_upto_region 5 with (go_at_call 144; have hq := ms_short t0 HB.out.1 _ HM1.out; with_reducible refine hq.mono ?_; clear hq; rintro e w2 ⟨rfl, hm⟩; have c2 := hm.cell (i := 1) rfl; have fz2 := hm.free 1; have HM2 := Lib.hid hm; clear hm)
  go_upto_region 7 with (go_at_call 144; have hq := ms_short t1 HB.out.2.1 _ (HM2.out.set 1 (.string ⟨(t0 : List UInt8).toArray⟩)); with_reducible refine hq.mono ?_; clear hq; rintro e w3 ⟨rfl, hm⟩; have c3 := hm.cell (i := 2) rfl; have fz3 := hm.free 2; have HM3 := Lib.hid hm; clear hm)
  go_upto_region 9 with (go_at_call 144; have hq := ms_short t2 HB.out.2.2.1 _ (HM3.out.set 2 (.string ⟨(t1 : List UInt8).toArray⟩)); with_reducible refine hq.mono ?_; clear hq; rintro e w4 ⟨rfl, hm⟩; have c4 := hm.cell (i := 3) rfl; have fz4 := hm.free 3; have HM4 := Lib.hid hm; clear hm)
  go_upto_region 11 with (go_at_call 77; have hq := ms_bits n hn8 _ (HM4.out.set 3 (.string ⟨(t2 : List UInt8).toArray⟩)); with_reducible refine hq.mono ?_; clear hq; rintro e w5 ⟨rfl, hm⟩; have cl := hm.mem; have nl := hm.nlb; have c5_0 := hm.cell (i := 4) rfl; have fz5_0 := hm.free 4; have HM5 := Lib.hid hm; clear hm)
  go_upto_region 14 with (go_at_call 145; have hq := ms_table f4 HB.out.2.2.2.1 HB.out.2.2.2.2 _ (HM5.out.set 4 (.bool (decide (v0 > 0)))); with_reducible refine hq.mono ?_; clear hq; rintro e w6 ⟨tb, rfl, hm⟩; have c6 := hm.cell (i := 5) rfl; have fz6 := hm.free 5; have HM6 := Lib.hid hm; clear hm)
  go_wp2
  go_ret
  have d0 := HD.out
  have hfin := (HM6.out.set 5 (.map (some tb)))
  simp only [d0] at hfin
  exact ⟨rfl, _, _, hfin⟩
set_option maxHeartbeats 1000000 in
set_option maxRecDepth 100000 in
theorem mr_exchangeBindOk  (rest : List UInt8) {w : World} {b d msg : Nat} (h : MS w b d msg 268 [] [] [] rest w) :
    Calls Tryz.prog 104 #[.pointer (some ⟨msg, 0, none⟩), bufR b] w fun e w' => e = .returned .nilIface ∧ ∃ loc, MS w b d msg 268 loc [] [] rest w' := by
  have HM0 := Lib.hid h; clear h
  go_enter Tryz.func104, Tryz.ntmps104
  go_wp2
  go_ret
  exact ⟨rfl, _, HM0.out⟩
set_option maxHeartbeats 1000000 in
set_option maxRecDepth 100000 in
theorem mr_exchangeUnbind (t0 : List UInt8) (t1 : List UInt8) (t2 : List UInt8) (p3 : Bool) (f4 : List Fld) (ht0 : t0.length ≤ 255) (ht1 : t1.length ≤ 255) (ht2 : t2.length ≤ 255) (hwf4 : WfFs f4) (hf4 : fitsB f4 = true) (rest : List UInt8) {w : World} {b d msg : Nat} (h : MS w b d msg 270 [] [] [.int .u16 0, .string ⟨#[]⟩, .string ⟨#[]⟩, .string ⟨#[]⟩, .bool false, .map none] (Lib.beBytes 2 0 ++ (Lib.beBytes 1 t0.length ++ (t0 ++ (Lib.beBytes 1 t1.length ++ (t1 ++ (Lib.beBytes 1 t2.length ++ (t2 ++ (Lib.beBytes 1 (0 + p3.toNat % 2 * 2 ^ 0) ++ (encT f4 ++ rest))))))))) w) :
    Calls Tryz.prog 105 #[.pointer (some ⟨msg, 0, none⟩), bufR b] w fun e w' => e = .returned .nilIface ∧ ∃ loc, ∃ tb, MS w b d msg 270 loc [(.map (some tb), f4)] [.int .u16 ((0 : Nat) : Int), .string ⟨(t0 : List UInt8).toArray⟩, .string ⟨(t1 : List UInt8).toArray⟩, .string ⟨(t2 : List UInt8).toArray⟩, .bool p3, .map (some tb)] rest w' := by
  obtain ⟨n, hn⟩ : ∃ n, n = 0 + p3.toNat % 2 * 2 ^ 0 := ⟨_, rfl⟩
  have hn8 : n < 256 := by subst hn; cases p3 <;> decide
  obtain ⟨v0, b0, d0⟩ : ∃ v : Int, bits .and .u8 (n : Int) 1 = v ∧ decide (v > 0) = p3 := ⟨_, rfl, by subst hn; cases p3 <;> decide⟩
  have HD := Lib.hid (d0)
  clear d0
  have h1 : MS w b d msg 270 [(w.heap.size, .int .u8 0)] [] [.int .u16 0, .string ⟨#[]⟩, .string ⟨#[]⟩, .string ⟨#[]⟩, .bool false, .map none] (Lib.beBytes 2 0 ++ (Lib.beBytes 1 t0.length ++ (t0 ++ (Lib.beBytes 1 t1.length ++ (t1 ++ (Lib.beBytes 1 t2.length ++ (t2 ++ (Lib.beBytes 1 n ++ (encT f4 ++ rest))))))))) (w.alloc (.cells #[.int .u8 0] 5)) := by rw [hn]; exact h.push _
  have HM0 := Lib.hid h1; clear h h1 hn
  have HB := Lib.hid (And.intro ht0 (And.intro ht1 (And.intro ht2 (And.intro hwf4 hf4))))
  clear ht0 ht1 ht2 hwf4 hf4
  go_enter Tryz.func105, Tryz.ntmps105
  go_upto_region 3 with (go_at_call 77; have hq := ms_u16 0 (by decide) _ HM0.out 0 _ rfl; with_reducible refine hq.mono ?_; clear hq; rintro e w1 ⟨rfl, hm⟩; have HM1 := Lib.hid hm; clear hm)
  go_upto_region 5 with (go_at_call 144; have hq := ms_short t0 HB.out.1 _ HM1.out; with_reducible refine hq.mono ?_; clear hq; rintro e w2 ⟨rfl, hm⟩; have c2 := hm.cell (i := 1) rfl; have fz2 := hm.free 1; have HM2 := Lib.hid hm; clear hm)
  go_upto_region 7 with (go_at_call 144; have hq := ms_short t1 HB.out.2.1 _ (HM2.out.set 1 (.string ⟨(t0 : List UInt8).toArray⟩)); with_reducible refine hq.mono ?_; clear hq; rintro e w3 ⟨rfl, hm⟩; have c3 := hm.cell (i := 2) rfl; have fz3 := hm.free 2; have HM3 := Lib.hid hm; clear hm)
  go_upto_region 9 with (go_at_call 144; have hq := ms_short t2 HB.out.2.2.1 _ (HM3.out.set 2 (.string ⟨(t1 : List UInt8).toArray⟩)); with_reducible refine hq.mono ?_; clear hq; rintro e w4 ⟨rfl, hm⟩; have c4 := hm.cell (i := 3) rfl; have fz4 := hm.free 3; have HM4 := Lib.hid hm; clear hm)
  go_upto_region 11 with (go_at_call 77; have hq := ms_bits n hn8 _ (HM4.out.set 3 (.string ⟨(t2 : List UInt8).toArray⟩)); with_reducible refine hq.mono ?_; clear hq; rintro e w5 ⟨rfl, hm⟩; have cl := hm.mem; have nl := hm.nlb; have c5_0 := hm.cell (i := 4) rfl; have fz5_0 := hm.free 4; have HM5 := Lib.hid hm; clear hm)
  go_upto_region 14 with (go_at_call 145; have hq := ms_table f4 HB.out.2.2.2.1 HB.out.2.2.2.2 _ (HM5.out.set 4 (.bool (decide (v0 > 0)))); with_reducible refine hq.mono ?_; clear hq; rintro e w6 ⟨tb, rfl, hm⟩; have c6 := hm.cell (i := 5) rfl; have fz6 := hm.free 5; have HM6 := Lib.hid hm; clear hm)
  go_wp2
  go_ret
  have d0 := HD.out
  have hfin := (HM6.out.set 5 (.map (some tb)))
  simp only [d0] at hfin
  exact ⟨rfl, _, _, hfin⟩
set_option maxHeartbeats 1000000 in
set_option maxRecDepth 100000 in
theorem mr_exchangeUnbindOk  (rest : List UInt8) {w : World} {b d msg : Nat} (h : MS w b d msg 272 [] [] [] rest w) :
    Calls Tryz.prog 106 #[.pointer (some ⟨msg, 0, none⟩), bufR b] w fun e w' => e = .returned .nilIface ∧ ∃ loc, MS w b d msg 272 loc [] [] rest w' := by
  have HM0 := Lib.hid h; clear h
  go_enter Tryz.func106, Tryz.ntmps106
  go_wp2
  go_ret
  exact ⟨rfl, _, HM0.out⟩
set_option maxHeartbeats 1000000 in
set_option maxRecDepth 100000 in
theorem mr_queueDeclare (t0 : List UInt8) (p1 : Bool) (p2 : Bool) (p3 : Bool) (p4 : Bool) (p5 : Bool) (f6 : List Fld) (ht0 : t0.length ≤ 255) (hwf6 : WfFs f6) (hf6 : fitsB f6 = true) (rest : List UInt8) {w : World} {b d msg : Nat} (h : MS w b d msg 275 [] [] [.int .u16 0, .string ⟨#[]⟩, .bool false, .bool false, .bool false, .bool false, .bool false, .map none] (Lib.beBytes 2 0 ++ (Lib.beBytes 1 t0.length ++ (t0 ++ (Lib.beBytes 1 (0 + p1.toNat % 2 * 2 ^ 0 + p2.toNat % 2 * 2 ^ 1 + p3.toNat % 2 * 2 ^ 2 + p4.toNat % 2 * 2 ^ 3 + p5.toNat % 2 * 2 ^ 4) ++ (encT f6 ++ rest))))) w) :
    Calls Tryz.prog 107 #[.pointer (some ⟨msg, 0, none⟩), bufR b] w fun e w' => e = .returned .nilIface ∧ ∃ loc, ∃ tb, MS w b d msg 275 loc [(.map (some tb), f6)] [.int .u16 ((0 : Nat) : Int), .string ⟨(t0 : List UInt8).toArray⟩, .bool p1, .bool p2, .bool p3, .bool p4, .bool p5, .map (some tb)] rest w' := by
  obtain ⟨n, hn⟩ : ∃ n, n = 0 + p1.toNat % 2 * 2 ^ 0 + p2.toNat % 2 * 2 ^ 1 + p3.toNat % 2 * 2 ^ 2 + p4.toNat % 2 * 2 ^ 3 + p5.toNat % 2 * 2 ^ 4 := ⟨_, rfl⟩
  have hn8 : n < 256 := by subst hn; cases p1 <;> cases p2 <;> cases p3 <;> cases p4 <;> cases p5 <;> decide
  obtain ⟨v0, b0, d0⟩ : ∃ v : Int, bits .and .u8 (n : Int) 1 = v ∧ decide (v > 0) = p1 := ⟨_, rfl, by subst hn; cases p1 <;> cases p2 <;> cases p3 <;> cases p4 <;> cases p5 <;> decide⟩
  obtain ⟨v1, b1, d1⟩ : ∃ v : Int, bits .and .u8 (n : Int) 2 = v ∧ decide (v > 0) = p2 := ⟨_, rfl, by subst hn; cases p1 <;> cases p2 <;> cases p3 <;> cases p4 <;> cases p5 <;> decide⟩
  obtain ⟨v2, b2, d2⟩ : ∃ v : Int, bits .and .u8 (n : Int) 4 = v ∧ decide (v > 0) = p3 := ⟨_, rfl, by subst hn; cases p1 <;> cases p2 <;> cases p3 <;> cases p4 <;> cases p5 <;> decide⟩
  obtain ⟨v3, b3, d3⟩ : ∃ v : Int, bits .and .u8 (n : Int) 8 = v ∧ decide (v > 0) = p4 := ⟨_, rfl, by subst hn; cases p1 <;> cases p2 <;> cases p3 <;> cases p4 <;> cases p5 <;> decide⟩
  obtain ⟨v4, b4, d4⟩ : ∃ v : Int, bits .and .u8 (n : Int) 16 = v ∧ decide (v > 0) = p5 := ⟨_, rfl, by subst hn; cases p1 <;> cases p2 <;> cases p3 <;> cases p4 <;> cases p5 <;> decide⟩
  have HD := Lib.hid ((And.intro d0 (And.intro d1 (And.intro d2 (And.intro d3 d4)))))
  clear d0 d1 d2 d3 d4
  have h1 : MS w b d msg 275 [(w.heap.size, .int .u8 0)] [] [.int .u16 0, .string ⟨#[]⟩, .bool false, .bool false, .bool false, .bool false, .bool false, .map none] (Lib.beBytes 2 0 ++ (Lib.beBytes 1 t0.length ++ (t0 ++ (Lib.beBytes 1 n ++ (encT f6 ++ rest))))) (w.alloc (.cells #[.int .u8 0] 5)) := by rw [hn]; exact h.push _
  have HM0 := Lib.hid h1; clear h h1 hn
  have HB := Lib.hid (And.intro ht0 (And.intro hwf6 hf6))
  clear ht0 hwf6 hf6
  go_enter Tryz.func107, Tryz.ntmps107
  go_upto_region 3 with (go_at_call 77; have hq := ms_u16 0 (by decide) _ HM0.out 0 _ rfl; with_reducible refine hq.mono ?_; clear hq; rintro e w1 ⟨rfl, hm⟩; have HM1 := Lib.hid hm; clear hm)
  go_upto_region 5 with (go_at_call 144; have hq := ms_short t0 HB.out.1 _ HM1.out; with_reducible refine hq.mono ?_; clear hq; rintro e w2 ⟨rfl, hm⟩; have c2 := hm.cell (i := 1) rfl; have fz2 := hm.free 1; have HM2 := Lib.hid hm; clear hm)
  go_upto_region 7 with (go_at_call 77; have hq := ms_bits n hn8 _ (HM2.out.set 1 (.string ⟨(t0 : List UInt8).toArray⟩)); with_reducible refine hq.mono ?_; clear hq; rintro e w3 ⟨rfl, hm⟩; have cl := hm.mem; have nl := hm.nlb; have c3_0 := hm.cell (i := 2) rfl; have fz3_0 := hm.free 2; have c3_1 := hm.cell (i := 3) rfl; have fz3_1 := hm.free 3; have c3_2 := hm.cell (i := 4) rfl; have fz3_2 := hm.free 4; have c3_3 := hm.cell (i := 5) rfl; have fz3_3 := hm.free 5; have c3_4 := hm.cell (i := 6) rfl; have fz3_4 := hm.free 6; have HM3 := Lib.hid hm; clear hm)
  go_upto_region 14 with (go_at_call 145; have hq := ms_table f6 HB.out.2.1 HB.out.2.2 _ (((((HM3.out.set 2 (.bool (decide (v0 > 0)))).set 3 (.bool (decide (v1 > 0)))).set 4 (.bool (decide (v2 > 0)))).set 5 (.bool (decide (v3 > 0)))).set 6 (.bool (decide (v4 > 0)))); with_reducible refine hq.mono ?_; clear hq; rintro e w4 ⟨tb, rfl, hm⟩; have c4 := hm.cell (i := 7) rfl; have fz4 := hm.free 7; have HM4 := Lib.hid hm; clear hm)
  go_wp2
  go_ret
  obtain ⟨d0, d1, d2, d3, d4⟩ := HD.out
  have hfin := (HM4.out.set 7 (.map (some tb)))
  simp only [d0, d1, d2, d3, d4] at hfin
  exact ⟨rfl, _, _, hfin⟩
set_option maxHeartbeats 1000000 in
set_option maxRecDepth 100000 in
theorem mr_queueDeclareOk (t0 : List UInt8) (n1 : Nat) (n2 : Nat) (ht0 : t0.length ≤ 255) (hn1 : n1 < 4294967296) (hn2 : n2 < 4294967296) (rest : List UInt8) {w : World} {b d msg : Nat} (h : MS w b d msg 278 [] [] [.string ⟨#[]⟩, .int .u32 0, .int .u32 0] (Lib.beBytes 1 t0.length ++ (t0 ++ (Lib.beBytes 4 n1 ++ (Lib.beBytes 4 n2 ++ rest)))) w) :
    Calls Tryz.prog 108 #[.pointer (some ⟨msg, 0, none⟩), bufR b] w fun e w' => e = .returned .nilIface ∧ ∃ loc, MS w b d msg 278 loc [] [.string ⟨(t0 : List UInt8).toArray⟩, .int .u32 ((n1 : Nat) : Int), .int .u32 ((n2 : Nat) : Int)] rest w' := by
  have HM0 := Lib.hid h; clear h
  have HB := Lib.hid (And.intro ht0 (And.intro hn1 hn2))
  clear ht0 hn1 hn2
  go_enter Tryz.func108, Tryz.ntmps108
  go_upto_region 2 with (go_at_call 144; have hq := ms_short t0 HB.out.1 _ HM0.out; with_reducible refine hq.mono ?_; clear hq; rintro e w1 ⟨rfl, hm⟩; have c1 := hm.cell (i := 0) rfl; have fz1 := hm.free 0; have HM1 := Lib.hid hm; clear hm)
  go_upto_region 4 with (go_at_call 77; have hq := ms_u32 n1 HB.out.2.1 _ (HM1.out.set 0 (.string ⟨(t0 : List UInt8).toArray⟩)) 1 _ rfl; with_reducible refine hq.mono ?_; clear hq; rintro e w2 ⟨rfl, hm⟩; have HM2 := Lib.hid hm; clear hm)
  go_upto_region 6 with (go_at_call 77; have hq := ms_u32 n2 HB.out.2.2 _ HM2.out 2 _ rfl; with_reducible refine hq.mono ?_; clear hq; rintro e w3 ⟨rfl, hm⟩; have HM3 := Lib.hid hm; clear hm)
  go_wp2
  go_ret
  exact ⟨rfl, _, HM3.out⟩
set_option maxHeartbeats 1000000 in
set_option maxRecDepth 100000 in
theorem mr_queueBind (t0 : List UInt8) (t1 : List UInt8) (t2 : List UInt8) (p3 : Bool) (f4 : List Fld) (ht0 : t0.length ≤ 255) (ht1 : t1.length ≤ 255) (ht2 : t2.length ≤ 255) (hwf4 : WfFs f4) (hf4 : fitsB f4 = true) (rest : List UInt8) {w : World} {b d msg : Nat} (h : MS w b d msg 281 [] [] [.int .u16 0, .string ⟨#[]⟩, .string ⟨#[]⟩, .string ⟨#[]⟩, .bool false, .map none] (Lib.beBytes 2 0 ++ (Lib.beBytes 1 t0.length ++ (t0 ++ (Lib.beBytes 1 t1.length ++ (t1 ++ (Lib.beBytes 1 t2.length ++ (t2 ++ (Lib.beBytes 1 (0 + p3.toNat % 2 * 2 ^ 0) ++ (encT f4 ++ rest))))))))) w) :
    Calls Tryz.prog 109 #[.pointer (some ⟨msg, 0, none⟩), bufR b] w fun e w' => e = .returned .nilIface ∧ ∃ loc, ∃ tb, MS w b d msg 281 loc [(.map (some tb), f4)] [.int .u16 ((0 : Nat) : Int), .string ⟨(t0 : List UInt8).toArray⟩, .string ⟨(t1 : List UInt8).toArray⟩, .string ⟨(t2 : List UInt8).toArray⟩, .bool p3, .map (some tb)] rest w' := by
  obtain ⟨n, hn⟩ : ∃ n, n = 0 + p3.toNat % 2 * 2 ^ 0 := ⟨_, rfl⟩
  have hn8 : n < 256 := by subst hn; cases p3 <;> decide
  obtain ⟨v0, b0, d0⟩ : ∃ v : Int, bits .and .u8 (n : Int) 1 = v ∧ decide (v > 0) = p3 := ⟨_, rfl, by subst hn; cases p3 <;> decide⟩
  have HD := Lib.hid (d0)
  clear d0
  have h1 : MS w b d msg 281 [(w.heap.size, .int .u8 0)] [] [.int .u16 0, .string ⟨#[]⟩, .string ⟨#[]⟩, .string ⟨#[]⟩, .bool false, .map none] (Lib.beBytes 2 0 ++ (Lib.beBytes 1 t0.length ++ (t0 ++ (Lib.beBytes 1 t1.length ++ (t1 ++ (Lib.beBytes 1 t2.length ++ (t2 ++ (Lib.beBytes 1 n ++ (encT f4 ++ rest))))))))) (w.alloc (.cells #[.int .u8 0] 5)) := by rw [hn]; exact h.push _
  have HM0 := Lib.hid h1; clear h h1 hn
  have HB := Lib.hid (And.intro ht0 (And.intro ht1 (And.intro ht2 (And.intro hwf4 hf4))))
  clear ht0 ht1 ht2 hwf4 hf4
  go_enter Tryz.func109, Tryz.ntmps109
  go_upto_region 3 with (go_at_call 77; have hq := ms_u16 0 (by decide) _ HM0.out 0 _ rfl; with_reducible refine hq.mono ?_; clear hq; rintro e w1 ⟨rfl, hm⟩; have HM1 := Lib.hid hm; clear hm)
  go_upto_region 5 with (go_at_call 144; have hq := ms_short t0 HB.out.1 _ HM1.out; with_reducible refine hq.mono ?_; clear hq; rintro e w2 ⟨rfl, hm⟩; have c2 := hm.cell (i := 1) rfl; have fz2 := hm.free 1; have HM2 := Lib.hid hm; clear hm)
  go_upto_region 7 with (go_at_call 144; have hq := ms_short t1 HB.out.2.1 _ (HM2.out.set 1 (.string ⟨(t0 : List UInt8).toArray⟩)); with_reducible refine hq.mono ?_; clear hq; rintro e w3 ⟨rfl, hm⟩; have c3 := hm.cell (i := 2) rfl; have fz3 := hm.free 2; have HM3 := Lib.hid hm; clear hm)
  go_upto_region 9 with (go_at_call 144; have hq := ms_short t2 HB.out.2.2.1 _ (HM3.out.set 2 (.string ⟨(t1 : List UInt8).toArray⟩)); with_reducible refine hq.mono ?_; clear hq; rintro e w4 ⟨rfl, hm⟩; have c4 := hm.cell (i := 3) rfl; have fz4 := hm.free 3; have HM4 := Lib.hid hm; clear hm)
  go_upto_region 11 with (go_at_call 77; have hq := ms_bits n hn8 _ (HM4.out.set 3 (.string ⟨(t2 : List UInt8).toArray⟩)); with_reducible refine hq.mono ?_; clear hq; rintro e w5 ⟨rfl, hm⟩; have cl := hm.mem; have nl := hm.nlb; have c5_0 := hm.cell (i := 4) rfl; have fz5_0 := hm.free 4; have HM5 := Lib.hid hm; clear hm)
  go_upto_region 14 with (go_at_call 145; have hq := ms_table f4 HB.out.2.2.2.1 HB.out.2.2.2.2 _ (HM5.out.set 4 (.bool (decide (v0 > 0)))); with_reducible refine hq.mono ?_; clear hq; rintro e w6 ⟨tb, rfl, hm⟩; have c6 := hm.cell (i := 5) rfl; have fz6 := hm.free 5; have HM6 := Lib.hid hm; clear hm)
  go_wp2
  go_ret
  have d0 := HD.out
  have hfin := (HM6.out.set 5 (.map (some tb)))
  simp only [d0] at hfin
  exact ⟨rfl, _, _, hfin⟩
set_option maxHeartbeats 1000000 in
set_option maxRecDepth 100000 in
theorem mr_queueBindOk  (rest : List UInt8) {w : World} {b d msg : Nat} (h : MS w b d msg 283 [] [] [] rest w) :
    Calls Tryz.prog 110 #[.pointer (some ⟨msg, 0, none⟩), bufR b] w fun e w' => e = .returned .nilIface ∧ ∃ loc, MS w b d msg 283 loc [] [] rest w' := by
  have HM0 := Lib.hid h; clear h
  go_enter Tryz.func110, Tryz.ntmps110
  go_wp2
  go_ret
  exact ⟨rfl, _, HM0.out⟩
set_option maxHeartbeats 1000000 in
set_option maxRecDepth 100000 in
theorem mr_queueUnbind (t0 : List UInt8) (t1 : List UInt8) (t2 : List UInt8) (f3 : List Fld) (ht0 : t0.length ≤ 255) (ht1 : t1.length ≤ 255) (ht2 : t2.length ≤ 255) (hwf3 : WfFs f3) (hf3 : fitsB f3 = true) (rest : List UInt8) {w : World} {b d msg : Nat} (h : MS w b d msg 286 [] [] [.int .u16 0, .string ⟨#[]⟩, .string ⟨#[]⟩, .string ⟨#[]⟩, .map none] (Lib.beBytes 2 0 ++ (Lib.beBytes 1 t0.length ++ (t0 ++ (Lib.beBytes 1 t1.length ++ (t1 ++ (Lib.beBytes 1 t2.length ++ (t2 ++ (encT f3 ++ rest)))))))) w) :
    Calls Tryz.prog 111 #[.pointer (some ⟨msg, 0, none⟩), bufR b] w fun e w' => e = .returned .nilIface ∧ ∃ loc, ∃ tb, MS w b d msg 286 loc [(.map (some tb), f3)] [.int .u16 ((0 : Nat) : Int), .string ⟨(t0 : List UInt8).toArray⟩, .string ⟨(t1 : List UInt8).toArray⟩, .string ⟨(t2 : List UInt8).toArray⟩, .map (some tb)] rest w' := by
  have HM0 := Lib.hid h; clear h
  have HB := Lib.hid (And.intro ht0 (And.intro ht1 (And.intro ht2 (And.intro hwf3 hf3))))
  clear ht0 ht1 ht2 hwf3 hf3
  go_enter Tryz.func111, Tryz.ntmps111
  go_upto_region 2 with (go_at_call 77; have hq := ms_u16 0 (by decide) _ HM0.out 0 _ rfl; with_reducible refine hq.mono ?_; clear hq; rintro e w1 ⟨rfl, hm⟩; have HM1 := Lib.hid hm; clear hm)
  go_upto_region 4 with (go_at_call 144; have hq := ms_short t0 HB.out.1 _ HM1.out; with_reducible refine hq.mono ?_; clear hq; rintro e w2 ⟨rfl, hm⟩; have c2 := hm.cell (i := 1) rfl; have fz2 := hm.free 1; have HM2 := Lib.hid hm; clear hm)
  go_upto_region 6 with (go_at_call 144; have hq := ms_short t1 HB.out.2.1 _ (HM2.out.set 1 (.string ⟨(t0 : List UInt8).toArray⟩)); with_reducible refine hq.mono ?_; clear hq; rintro e w3 ⟨rfl, hm⟩; have c3 := hm.cell (i := 2) rfl; have fz3 := hm.free 2; have HM3 := Lib.hid hm; clear hm)
  go_upto_region 8 with (go_at_call 144; have hq := ms_short t2 HB.out.2.2.1 _ (HM3.out.set 2 (.string ⟨(t1 : List UInt8).toArray⟩)); with_reducible refine hq.mono ?_; clear hq; rintro e w4 ⟨rfl, hm⟩; have c4 := hm.cell (i := 3) rfl; have fz4 := hm.free 3; have HM4 := Lib.hid hm; clear hm)
  go_upto_region 10 with (go_at_call 145; have hq := ms_table f3 HB.out.2.2.2.1 HB.out.2.2.2.2 _ (HM4.out.set 3 (.string ⟨(t2 : List UInt8).toArray⟩)); with_reducible refine hq.mono ?_; clear hq; rintro e w5 ⟨tb, rfl, hm⟩; have c5 := hm.cell (i := 4) rfl; have fz5 := hm.free 4; have HM5 := Lib.hid hm; clear hm)
  go_wp2
  go_ret
  exact ⟨rfl, _, _, (HM5.out.set 4 (.map (some tb)))⟩
set_option maxHeartbeats 1000000 in
set_option maxRecDepth 100000 in
theorem mr_queueUnbindOk  (rest : List UInt8) {w : World} {b d msg : Nat} (h : MS w b d msg 288 [] [] [] rest w) :
    Calls Tryz.prog 112 #[.pointer (some ⟨msg, 0, none⟩), bufR b] w fun e w' => e = .returned .nilIface ∧ ∃ loc, MS w b d msg 288 loc [] [] rest w' := by
  have HM0 := Lib.hid h; clear h
  go_enter Tryz.func112, Tryz.ntmps112
  go_wp2
  go_ret
  exact ⟨rfl, _, HM0.out⟩
set_option maxHeartbeats 1000000 in
set_option maxRecDepth 100000 in
theorem mr_queuePurge (t0 : List UInt8) (p1 : Bool) (ht0 : t0.length ≤ 255) (rest : List UInt8) {w : World} {b d msg : Nat} (h : MS w b d msg 291 [] [] [.int .u16 0, .string ⟨#[]⟩, .bool false] (Lib.beBytes 2 0 ++ (Lib.beBytes 1 t0.length ++ (t0 ++ (Lib.beBytes 1 (0 + p1.toNat % 2 * 2 ^ 0) ++ rest)))) w) :
    Calls Tryz.prog 113 #[.pointer (some ⟨msg, 0, none⟩), bufR b] w fun e w' => e = .returned .nilIface ∧ ∃ loc, MS w b d msg 291 loc [] [.int .u16 ((0 : Nat) : Int), .string ⟨(t0 : List UInt8).toArray⟩, .bool p1] rest w' := by
  obtain ⟨n, hn⟩ : ∃ n, n = 0 + p1.toNat % 2 * 2 ^ 0 := ⟨_, rfl⟩
  have hn8 : n < 256 := by subst hn; cases p1 <;> decide
  obtain ⟨v0, b0, d0⟩ : ∃ v : Int, bits .and .u8 (n : Int) 1 = v ∧ decide (v > 0) = p1 := ⟨_, rfl, by subst hn; cases p1 <;> decide⟩
  have HD := Lib.hid (d0)
  clear d0
  have h1 : MS w b d msg 291 [(w.heap.size, .int .u8 0)] [] [.int .u16 0, .string ⟨#[]⟩, .bool false] (Lib.beBytes 2 0 ++ (Lib.beBytes 1 t0.length ++ (t0 ++ (Lib.beBytes 1 n ++ rest)))) (w.alloc (.cells #[.int .u8 0] 5)) := by rw [hn]; exact h.push _
  have HM0 := Lib.hid h1; clear h h1 hn
  have HB := Lib.hid ht0
  clear ht0
  go_enter Tryz.func113, Tryz.ntmps113
  go_upto_region 3 with (go_at_call 77; have hq := ms_u16 0 (by decide) _ HM0.out 0 _ rfl; with_reducible refine hq.mono ?_; clear hq; rintro e w1 ⟨rfl, hm⟩; have HM1 := Lib.hid hm; clear hm)
  go_upto_region 5 with (go_at_call 144; have hq := ms_short t0 HB.out _ HM1.out; with_reducible refine hq.mono ?_; clear hq; rintro e w2 ⟨rfl, hm⟩; have c2 := hm.cell (i := 1) rfl; have fz2 := hm.free 1; have HM2 := Lib.hid hm; clear hm)
  go_upto_region 7 with (go_at_call 77; have hq := ms_bits n hn8 _ (HM2.out.set 1 (.string ⟨(t0 : List UInt8).toArray⟩)); with_reducible refine hq.mono ?_; clear hq; rintro e w3 ⟨rfl, hm⟩; have cl := hm.mem; have nl := hm.nlb; have c3_0 := hm.cell (i := 2) rfl; have fz3_0 := hm.free 2; have HM3 := Lib.hid hm; clear hm)
  go_wp2
  go_ret
  have d0 := HD.out
  have hfin := (HM3.out.set 2 (.bool (decide (v0 > 0))))
  simp only [d0] at hfin ⊢
  exact ⟨rfl, _, hfin⟩
set_option maxHeartbeats 1000000 in
set_option maxRecDepth 100000 in
theorem mr_queuePurgeOk (n0 : Nat) (hn0 : n0 < 4294967296) (rest : List UInt8) {w : World} {b d msg : Nat} (h : MS w b d msg 294 [] [] [.int .u32 0] (Lib.beBytes 4 n0 ++ rest) w) :
    Calls Tryz.prog 114 #[.pointer (some ⟨msg, 0, none⟩), bufR b] w fun e w' => e = .returned .nilIface ∧ ∃ loc, MS w b d msg 294 loc [] [.int .u32 ((n0 : Nat) : Int)] rest w' := by
  have HM0 := Lib.hid h; clear h
  have HB := Lib.hid hn0
  clear hn0
  go_enter Tryz.func114, Tryz.ntmps114
  go_upto_region 2 with (go_at_call 77; have hq := ms_u32 n0 HB.out _ HM0.out 0 _ rfl; with_reducible refine hq.mono ?_; clear hq; rintro e w1 ⟨rfl, hm⟩; have HM1 := Lib.hid hm; clear hm)
  go_wp2
  go_ret
  exact ⟨rfl, _, HM1.out⟩
set_option maxHeartbeats 1000000 in
set_option maxRecDepth 100000 in
theorem mr_queueDelete (t0 : List UInt8) (p1 : Bool) (p2 : Bool) (p3 : Bool) (ht0 : t0.length ≤ 255) (rest : List UInt8) {w : World} {b d msg : Nat} (h : MS w b d msg 297 [] [] [.int .u16 0, .string ⟨#[]⟩, .bool false, .bool false, .bool false] (Lib.beBytes 2 0 ++ (Lib.beBytes 1 t0.length ++ (t0 ++ (Lib.beBytes 1 (0 + p1.toNat % 2 * 2 ^ 0 + p2.toNat % 2 * 2 ^ 1 + p3.toNat % 2 * 2 ^ 2) ++ rest)))) w) :
    Calls Tryz.prog 115 #[.pointer (some ⟨msg, 0, none⟩), bufR b] w fun e w' => e = .returned .nilIface ∧ ∃ loc, MS w b d msg 297 loc [] [.int .u16 ((0 : Nat) : Int), .string ⟨(t0 : List UInt8).toArray⟩, .bool p1, .bool p2, .bool p3] rest w' := by
  obtain ⟨n, hn⟩ : ∃ n, n = 0 + p1.toNat % 2 * 2 ^ 0 + p2.toNat % 2 * 2 ^ 1 + p3.toNat % 2 * 2 ^ 2 := ⟨_, rfl⟩
  have hn8 : n < 256 := by subst hn; cases p1 <;> cases p2 <;> cases p3 <;> decide
  obtain ⟨v0, b0, d0⟩ : ∃ v : Int, bits .and .u8 (n : Int) 1 = v ∧ decide (v > 0) = p1 := ⟨_, rfl, by subst hn; cases p1 <;> cases p2 <;> cases p3 <;> decide⟩
  obtain ⟨v1, b1, d1⟩ : ∃ v : Int, bits .and .u8 (n : Int) 2 = v ∧ decide (v > 0) = p2 := ⟨_, rfl, by subst hn; cases p1 <;> cases p2 <;> cases p3 <;> decide⟩
  obtain ⟨v2, b2, d2⟩ : ∃ v : Int, bits .and .u8 (n : Int) 4 = v ∧ decide (v > 0) = p3 := ⟨_, rfl, by subst hn; cases p1 <;> cases p2 <;> cases p3 <;> decide⟩
  have HD := Lib.hid ((And.intro d0 (And.intro d1 d2)))
  clear d0 d1 d2
  have h1 : MS w b d msg 297 [(w.heap.size, .int .u8 0)] [] [.int .u16 0, .string ⟨#[]⟩, .bool false, .bool false, .bool false] (Lib.beBytes 2 0 ++ (Lib.beBytes 1 t0.length ++ (t0 ++ (Lib.beBytes 1 n ++ rest)))) (w.alloc (.cells #[.int .u8 0] 5)) := by rw [hn]; exact h.push _
  have HM0 := Lib.hid h1; clear h h1 hn
  have HB := Lib.hid ht0
  clear ht0
  go_enter Tryz.func115, Tryz.ntmps115
  go_upto_region 3 with (go_at_call 77; have hq := ms_u16 0 (by decide) _ HM0.out 0 _ rfl; with_reducible refine hq.mono ?_; clear hq; rintro e w1 ⟨rfl, hm⟩; have HM1 := Lib.hid hm; clear hm)
  go_upto_region 5 with (go_at_call 144; have hq := ms_short t0 HB.out _ HM1.out; with_reducible refine hq.mono ?_; clear hq; rintro e w2 ⟨rfl, hm⟩; have c2 := hm.cell (i := 1) rfl; have fz2 := hm.free 1; have HM2 := Lib.hid hm; clear hm)
  go_upto_region 7 with (go_at_call 77; have hq := ms_bits n hn8 _ (HM2.out.set 1 (.string ⟨(t0 : List UInt8).toArray⟩)); with_reducible refine hq.mono ?_; clear hq; rintro e w3 ⟨rfl, hm⟩; have cl := hm.mem; have nl := hm.nlb; have c3_0 := hm.cell (i := 2) rfl; have fz3_0 := hm.free 2; have c3_1 := hm.cell (i := 3) rfl; have fz3_1 := hm.free 3; have c3_2 := hm.cell (i := 4) rfl; have fz3_2 := hm.free 4; have HM3 := Lib.hid hm; clear hm)
  go_wp2
  go_ret
  obtain ⟨d0, d1, d2⟩ := HD.out
  have hfin := (((HM3.out.set 2 (.bool (decide (v0 > 0)))).set 3 (.bool (decide (v1 > 0)))).set 4 (.bool (decide (v2 > 0))))
  simp only [d0, d1, d2] at hfin ⊢
  exact ⟨rfl, _, hfin⟩
set_option maxHeartbeats 1000000 in
set_option maxRecDepth 100000 in
theorem mr_queueDeleteOk (n0 : Nat) (hn0 : n0 < 4294967296) (rest : List UInt8) {w : World} {b d msg : Nat} (h : MS w b d msg 299 [] [] [.int .u32 0] (Lib.beBytes 4 n0 ++ rest) w) :
    Calls Tryz.prog 116 #[.pointer (some ⟨msg, 0, none⟩), bufR b] w fun e w' => e = .returned .nilIface ∧ ∃ loc, MS w b d msg 299 loc [] [.int .u32 ((n0 : Nat) : Int)] rest w' := by
  have HM0 := Lib.hid h; clear h
  have HB := Lib.hid hn0
  clear hn0
  go_enter Tryz.func116, Tryz.ntmps116
  go_upto_region 2 with (go_at_call 77; have hq := ms_u32 n0 HB.out _ HM0.out 0 _ rfl; with_reducible refine hq.mono ?_; clear hq; rintro e w1 ⟨rfl, hm⟩; have HM1 := Lib.hid hm; clear hm)
  go_wp2
  go_ret
  exact ⟨rfl, _, HM1.out⟩
set_option maxHeartbeats 1000000 in
set_option maxRecDepth 100000 in
theorem mr_basicQos (n0 : Nat) (n1 : Nat) (p2 : Bool) (hn0 : n0 < 4294967296) (hn1 : n1 < 65536) (rest : List UInt8) {w : World} {b d msg : Nat} (h : MS w b d msg 302 [] [] [.int .u32 0, .int .u16 0, .bool false] (Lib.beBytes 4 n0 ++ (Lib.beBytes 2 n1 ++ (Lib.beBytes 1 (0 + p2.toNat % 2 * 2 ^ 0) ++ rest))) w) :
    Calls Tryz.prog 117 #[.pointer (some ⟨msg, 0, none⟩), bufR b] w fun e w' => e = .returned .nilIface ∧ ∃ loc, MS w b d msg 302 loc [] [.int .u32 ((n0 : Nat) : Int), .int .u16 ((n1 : Nat) : Int), .bool p2] rest w' := by
  obtain ⟨n, hn⟩ : ∃ n, n = 0 + p2.toNat % 2 * 2 ^ 0 := ⟨_, rfl⟩
  have hn8 : n < 256 := by subst hn; cases p2 <;> decide
  obtain ⟨v0, b0, d0⟩ : ∃ v : Int, bits .and .u8 (n : Int) 1 = v ∧ decide (v > 0) = p2 := ⟨_, rfl, by subst hn; cases p2 <;> decide⟩
  have HD := Lib.hid (d0)
  clear d0
  have h1 : MS w b d msg 302 [(w.heap.size, .int .u8 0)] [] [.int .u32 0, .int .u16 0, .bool false] (Lib.beBytes 4 n0 ++ (Lib.beBytes 2 n1 ++ (Lib.beBytes 1 n ++ rest))) (w.alloc (.cells #[.int .u8 0] 5)) := by rw [hn]; exact h.push _
  have HM0 := Lib.hid h1; clear h h1 hn
  have HB := Lib.hid (And.intro hn0 hn1)
  clear hn0 hn1
  go_enter Tryz.func117, Tryz.ntmps117
  go_upto_region 3 with (go_at_call 77; have hq := ms_u32 n0 HB.out.1 _ HM0.out 0 _ rfl; with_reducible refine hq.mono ?_; clear hq; rintro e w1 ⟨rfl, hm⟩; have HM1 := Lib.hid hm; clear hm)
  go_upto_region 5 with (go_at_call 77; have hq := ms_u16 n1 HB.out.2 _ HM1.out 1 _ rfl; with_reducible refine hq.mono ?_; clear hq; rintro e w2 ⟨rfl, hm⟩; have HM2 := Lib.hid hm; clear hm)
  go_upto_region 7 with (go_at_call 77; have hq := ms_bits n hn8 _ HM2.out; with_reducible refine hq.mono ?_; clear hq; rintro e w3 ⟨rfl, hm⟩; have cl := hm.mem; have nl := hm.nlb; have c3_0 := hm.cell (i := 2) rfl; have fz3_0 := hm.free 2; have HM3 := Lib.hid hm; clear hm)
  go_wp2
  go_ret
  have d0 := HD.out
  have hfin := (HM3.out.set 2 (.bool (decide (v0 > 0))))
  simp only [d0] at hfin ⊢
  exact ⟨rfl, _, hfin⟩
set_option maxHeartbeats 1000000 in
set_option maxRecDepth 100000 in
theorem mr_basicQosOk  (rest : List UInt8) {w : World} {b d msg : Nat} (h : MS w b d msg 304 [] [] [] rest w) :
    Calls Tryz.prog 118 #[.pointer (some ⟨msg, 0, none⟩), bufR b] w fun e w' => e = .returned .nilIface ∧ ∃ loc, MS w b d msg 304 loc [] [] rest w' := by
  have HM0 := Lib.hid h; clear h
  go_enter Tryz.func118, Tryz.ntmps118
  go_wp2
  go_ret
  exact ⟨rfl, _, HM0.out⟩
set_option maxHeartbeats 1000000 in
set_option maxRecDepth 100000 in
theorem mr_basicConsume (t0 : List UInt8) (t1 : List UInt8) (p2 : Bool) (p3 : Bool) (p4 : Bool) (p5 : Bool) (f6 : List Fld) (ht0 : t0.length ≤ 255) (ht1 : t1.length ≤ 255) (hwf6 : WfFs f6) (hf6 : fitsB f6 = true) (rest : List UInt8) {w : World} {b d msg : Nat} (h : MS w b d msg 307 [] [] [.int .u16 0, .string ⟨#[]⟩, .string ⟨#[]⟩, .bool false, .bool false, .bool false, .bool false, .map none] (Lib.beBytes 2 0 ++ (Lib.beBytes 1 t0.length ++ (t0 ++ (Lib.beBytes 1 t1.length ++ (t1 ++ (Lib.beBytes 1 (0 + p2.toNat % 2 * 2 ^ 0 + p3.toNat % 2 * 2 ^ 1 + p4.toNat % 2 * 2 ^ 2 + p5.toNat % 2 * 2 ^ 3) ++ (encT f6 ++ rest))))))) w) :
    Calls Tryz.prog 119 #[.pointer (some ⟨msg, 0, none⟩), bufR b] w fun e w' => e = .returned .nilIface ∧ ∃ loc, ∃ tb, MS w b d msg 307 loc [(.map (some tb), f6)] [.int .u16 ((0 : Nat) : Int), .string ⟨(t0 : List UInt8).toArray⟩, .string ⟨(t1 : List UInt8).toArray⟩, .bool p2, .bool p3, .bool p4, .bool p5, .map (some tb)] rest w' := by
  obtain ⟨n, hn⟩ : ∃ n, n = 0 + p2.toNat % 2 * 2 ^ 0 + p3.toNat % 2 * 2 ^ 1 + p4.toNat % 2 * 2 ^ 2 + p5.toNat % 2 * 2 ^ 3 := ⟨_, rfl⟩
  have hn8 : n < 256 := by subst hn; cases p2 <;> cases p3 <;> cases p4 <;> cases p5 <;> decide
  obtain ⟨v0, b0, d0⟩ : ∃ v : Int, bits .and .u8 (n : Int) 1 = v ∧ decide (v > 0) = p2 := ⟨_, rfl, by subst hn; cases p2 <;> cases p3 <;> cases p4 <;> cases p5 <;> decide⟩
  obtain ⟨v1, b1, d1⟩ : ∃ v : Int, bits .and .u8 (n : Int) 2 = v ∧ decide (v > 0) = p3 := ⟨_, rfl, by subst hn; cases p2 <;> cases p3 <;> cases p4 <;> cases p5 <;> decide⟩
  obtain ⟨v2, b2, d2⟩ : ∃ v : Int, bits .and .u8 (n : Int) 4 = v ∧ decide (v > 0) = p4 := ⟨_, rfl, by subst hn; cases p2 <;> cases p3 <;> cases p4 <;> cases p5 <;> decide⟩
  obtain ⟨v3, b3, d3⟩ : ∃ v : Int, bits .and .u8 (n : Int) 8 = v ∧ decide (v > 0) = p5 := ⟨_, rfl, by subst hn; cases p2 <;> cases p3 <;> cases p4 <;> cases p5 <;> decide⟩
  have HD := Lib.hid ((And.intro d0 (And.intro d1 (And.intro d2 d3))))
  clear d0 d1 d2 d3
  have h1 : MS w b d msg 307 [(w.heap.size, .int .u8 0)] [] [.int .u16 0, .string ⟨#[]⟩, .string ⟨#[]⟩, .bool false, .bool false, .bool false, .bool false, .map none] (Lib.beBytes 2 0 ++ (Lib.beBytes 1 t0.length ++ (t0 ++ (Lib.beBytes 1 t1.length ++ (t1 ++ (Lib.beBytes 1 n ++ (encT f6 ++ rest))))))) (w.alloc (.cells #[.int .u8 0] 5)) := by rw [hn]; exact h.push _
  have HM0 := Lib.hid h1; clear h h1 hn
  have HB := Lib.hid (And.intro ht0 (And.intro ht1 (And.intro hwf6 hf6)))
  clear ht0 ht1 hwf6 hf6
  go_enter Tryz.func119, Tryz.ntmps119
  go_upto_region 3 with (go_at_call 77; have hq := ms_u16 0 (by decide) _ HM0.out 0 _ rfl; with_reducible refine hq.mono ?_; clear hq; rintro e w1 ⟨rfl, hm⟩; have HM1 := Lib.hid hm; clear hm)
  go_upto_region 5 with (go_at_call 144; have hq := ms_short t0 HB.out.1 _ HM1.out; with_reducible refine hq.mono ?_; clear hq; rintro e w2 ⟨rfl, hm⟩; have c2 := hm.cell (i := 1) rfl; have fz2 := hm.free 1; have HM2 := Lib.hid hm; clear hm)
  go_upto_region 7 with (go_at_call 144; have hq := ms_short t1 HB.out.2.1 _ (HM2.out.set 1 (.string ⟨(t0 : List UInt8).toArray⟩)); with_reducible refine hq.mono ?_; clear hq; rintro e w3 ⟨rfl, hm⟩; have c3 := hm.cell (i := 2) rfl; have fz3 := hm.free 2; have HM3 := Lib.hid hm; clear hm)
  go_upto_region 9 with (go_at_call 77; have hq := ms_bits n hn8 _ (HM3.out.set 2 (.string ⟨(t1 : List UInt8).toArray⟩)); with_reducible refine hq.mono ?_; clear hq; rintro e w4 ⟨rfl, hm⟩; have cl := hm.mem; have nl := hm.nlb; have c4_0 := hm.cell (i := 3) rfl; have fz4_0 := hm.free 3; have c4_1 := hm.cell (i := 4) rfl; have fz4_1 := hm.free 4; have c4_2 := hm.cell (i := 5) rfl; have fz4_2 := hm.free 5; have c4_3 := hm.cell (i := 6) rfl; have fz4_3 := hm.free 6; have HM4 := Lib.hid hm; clear hm)
  go_upto_region 15 with (go_at_call 145; have hq := ms_table f6 HB.out.2.2.1 HB.out.2.2.2 _ ((((HM4.out.set 3 (.bool (decide (v0 > 0)))).set 4 (.bool (decide (v1 > 0)))).set 5 (.bool (decide (v2 > 0)))).set 6 (.bool (decide (v3 > 0)))); with_reducible refine hq.mono ?_; clear hq; rintro e w5 ⟨tb, rfl, hm⟩; have c5 := hm.cell (i := 7) rfl; have fz5 := hm.free 7; have HM5 := Lib.hid hm; clear hm)
  go_wp2
  go_ret
  obtain ⟨d0, d1, d2, d3⟩ := HD.out
  have hfin := (HM5.out.set 7 (.map (some tb)))
  simp only [d0, d1, d2, d3] at hfin
  exact ⟨rfl, _, _, hfin⟩
set_option maxHeartbeats 1000000 in
set_option maxRecDepth 100000 in
theorem mr_basicConsumeOk (t0 : List UInt8) (ht0 : t0.length ≤ 255) (rest : List UInt8) {w : World} {b d msg : Nat} (h : MS w b d msg 310 [] [] [.string ⟨#[]⟩] (Lib.beBytes 1 t0.length ++ (t0 ++ rest)) w) :
    Calls Tryz.prog 120 #[.pointer (some ⟨msg, 0, none⟩), bufR b] w fun e w' => e = .returned .nilIface ∧ ∃ loc, MS w b d msg 310 loc [] [.string ⟨(t0 : List UInt8).toArray⟩] rest w' := by
  have HM0 := Lib.hid h; clear h
  have HB := Lib.hid ht0
  clear ht0
  go_enter Tryz.func120, Tryz.ntmps120
  go_upto_region 2 with (go_at_call 144; have hq := ms_short t0 HB.out _ HM0.out; with_reducible refine hq.mono ?_; clear hq; rintro e w1 ⟨rfl, hm⟩; have c1 := hm.cell (i := 0) rfl; have fz1 := hm.free 0; have HM1 := Lib.hid hm; clear hm)
  go_wp2
  go_ret
  exact ⟨rfl, _, (HM1.out.set 0 (.string ⟨(t0 : List UInt8).toArray⟩))⟩
set_option maxHeartbeats 1000000 in
set_option maxRecDepth 100000 in
theorem mr_basicCancel (t0 : List UInt8) (p1 : Bool) (ht0 : t0.length ≤ 255) (rest : List UInt8) {w : World} {b d msg : Nat} (h : MS w b d msg 313 [] [] [.string ⟨#[]⟩, .bool false] (Lib.beBytes 1 t0.length ++ (t0 ++ (Lib.beBytes 1 (0 + p1.toNat % 2 * 2 ^ 0) ++ rest))) w) :
    Calls Tryz.prog 121 #[.pointer (some ⟨msg, 0, none⟩), bufR b] w fun e w' => e = .returned .nilIface ∧ ∃ loc, MS w b d msg 313 loc [] [.string ⟨(t0 : List UInt8).toArray⟩, .bool p1] rest w' := by
  obtain ⟨n, hn⟩ : ∃ n, n = 0 + p1.toNat % 2 * 2 ^ 0 := ⟨_, rfl⟩
  have hn8 : n < 256 := by subst hn; cases p1 <;> decide
  obtain ⟨v0, b0, d0⟩ : ∃ v : Int, bits .and .u8 (n : Int) 1 = v ∧ decide (v > 0) = p1 := ⟨_, rfl, by subst hn; cases p1 <;> decide⟩
  have HD := Lib.hid (d0)
  clear d0
  have h1 : MS w b d msg 313 [(w.heap.size, .int .u8 0)] [] [.string ⟨#[]⟩, .bool false] (Lib.beBytes 1 t0.length ++ (t0 ++ (Lib.beBytes 1 n ++ rest))) (w.alloc (.cells #[.int .u8 0] 5)) := by rw [hn]; exact h.push _
  have HM0 := Lib.hid h1; clear h h1 hn
  have HB := Lib.hid ht0
  clear ht0
  go_enter Tryz.func121, Tryz.ntmps121
  go_upto_region 3 with (go_at_call 144; have hq := ms_short t0 HB.out _ HM0.out; with_reducible refine hq.mono ?_; clear hq; rintro e w1 ⟨rfl, hm⟩; have c1 := hm.cell (i := 0) rfl; have fz1 := hm.free 0; have HM1 := Lib.hid hm; clear hm)
  go_upto_region 5 with (go_at_call 77; have hq := ms_bits n hn8 _ (HM1.out.set 0 (.string ⟨(t0 : List UInt8).toArray⟩)); with_reducible refine hq.mono ?_; clear hq; rintro e w2 ⟨rfl, hm⟩; have cl := hm.mem; have nl := hm.nlb; have c2_0 := hm.cell (i := 1) rfl; have fz2_0 := hm.free 1; have HM2 := Lib.hid hm; clear hm)
  go_wp2
  go_ret
  have d0 := HD.out
  have hfin := (HM2.out.set 1 (.bool (decide (v0 > 0))))
  simp only [d0] at hfin ⊢
  exact ⟨rfl, _, hfin⟩
set_option maxHeartbeats 1000000 in
set_option maxRecDepth 100000 in
theorem mr_basicCancelOk (t0 : List UInt8) (ht0 : t0.length ≤ 255) (rest : List UInt8) {w : World} {b d msg : Nat} (h : MS w b d msg 315 [] [] [.string ⟨#[]⟩] (Lib.beBytes 1 t0.length ++ (t0 ++ rest)) w) :
    Calls Tryz.prog 122 #[.pointer (some ⟨msg, 0, none⟩), bufR b] w fun e w' => e = .returned .nilIface ∧ ∃ loc, MS w b d msg 315 loc [] [.string ⟨(t0 : List UInt8).toArray⟩] rest w' := by
  have HM0 := Lib.hid h; clear h
  have HB := Lib.hid ht0
  clear ht0
  go_enter Tryz.func122, Tryz.ntmps122
  go_upto_region 2 with (go_at_call 144; have hq := ms_short t0 HB.out _ HM0.out; with_reducible refine hq.mono ?_; clear hq; rintro e w1 ⟨rfl, hm⟩; have c1 := hm.cell (i := 0) rfl; have fz1 := hm.free 0; have HM1 := Lib.hid hm; clear hm)
  go_wp2
  go_ret
  exact ⟨rfl, _, (HM1.out.set 0 (.string ⟨(t0 : List UInt8).toArray⟩))⟩
end Go.Proofs.YtkcdakohmfodjaaGreat
