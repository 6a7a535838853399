/-
  Lemmas on the way to the statement of YtkcdakohmfodjaaGreatMethodRead, joined out of these texts: MrA, FieldT. No condition.
-/
import Derived.Laws.BitsAllLaws
import Derived.Test.YtkcdakohmfodjaaGreatNBrkWalk
import Derived.Test.YtkcdakohmfodjaaGreatNIter
import Derived.Test.YtkcdakohmfodjaaGreatNRdv
import Derived.Test.YtkcdakohmfodjaaGreatNTold
namespace Go.Proofs.YtkcdakohmfodjaaGreat
open Go.RowKit
set_option linter.unusedVariables false
set_option linter.unusedSimpArgs false
set_option maxHeartbeats 1000000 in
set_option maxRecDepth 100000 in
theorem mr_connectionStart (n0 : Nat) (n1 : Nat) (f2 : List Fld) (t3 : List UInt8) (t4 : List UInt8) (hn0 : n0 < 256) (hn1 : n1 < 256) (hwf2 : WfFs f2) (hf2 : fitsB f2 = true) (ht3 : t3.length ≤ 1000) (ht4 : t4.length ≤ 1000) (rest : List UInt8) {w : World} {b d msg : Nat} (h : MS w b d msg 202 [] [] [.int .u8 0, .int .u8 0, .map none, .string ⟨#[]⟩, .string ⟨#[]⟩] (Lib.beBytes 1 n0 ++ (Lib.beBytes 1 n1 ++ (encT f2 ++ (Lib.beBytes 4 t3.length ++ (t3 ++ (Lib.beBytes 4 t4.length ++ (t4 ++ rest))))))) w) :
    Calls Tryz.prog 78 #[.pointer (some ⟨msg, 0, none⟩), bufR b] w fun e w' => e = .returned .nilIface ∧ ∃ loc, ∃ tb, MS w b d msg 202 loc [(.map (some tb), f2)] [.int .u8 ((n0 : Nat) : Int), .int .u8 ((n1 : Nat) : Int), .map (some tb), .string ⟨(t3 : List UInt8).toArray⟩, .string ⟨(t4 : List UInt8).toArray⟩] rest w' := by
  have HM0 := Lib.hid h; clear h
  have HB := Lib.hid (And.intro hn0 (And.intro hn1 (And.intro hwf2 (And.intro hf2 (And.intro ht3 ht4)))))
  clear hn0 hn1 hwf2 hf2 ht3 ht4
  go_enter Tryz.func78, Tryz.ntmps78
  go_upto_region 2 with (go_at_call 77; have hq := ms_u8 n0 HB.out.1 _ HM0.out 0 _ rfl; with_reducible refine hq.mono ?_; clear hq; rintro e w1 ⟨rfl, hm⟩; have HM1 := Lib.hid hm; clear hm)
  go_upto_region 4 with (go_at_call 77; have hq := ms_u8 n1 HB.out.2.1 _ HM1.out 1 _ rfl; with_reducible refine hq.mono ?_; clear hq; rintro e w2 ⟨rfl, hm⟩; have HM2 := Lib.hid hm; clear hm)
  go_upto_region 6 with (go_at_call 145; have hq := ms_table f2 HB.out.2.2.1 HB.out.2.2.2.1 _ HM2.out; with_reducible refine hq.mono ?_; clear hq; rintro e w3 ⟨tb, rfl, hm⟩; have c3 := hm.cell (i := 2) rfl; have fz3 := hm.free 2; have HM3 := Lib.hid hm; clear hm)
  go_upto_region 8 with (go_at_call 157; have hq := ms_long t3 (Nat.le_trans HB.out.2.2.2.2.1 (by decide)) _ (HM3.out.set 2 (.map (some tb))); with_reducible refine hq.mono ?_; clear hq; rintro e w4 ⟨rfl, hm⟩; have c4 := hm.cell (i := 3) rfl; have fz4 := hm.free 3; have HM4 := Lib.hid hm; clear hm)
  go_upto_region 10 with (go_at_call 157; have hq := ms_long t4 (Nat.le_trans HB.out.2.2.2.2.2 (by decide)) _ (HM4.out.set 3 (.string ⟨(t3 : List UInt8).toArray⟩)); with_reducible refine hq.mono ?_; clear hq; rintro e w5 ⟨rfl, hm⟩; have c5 := hm.cell (i := 4) rfl; have fz5 := hm.free 4; have HM5 := Lib.hid hm; clear hm)
  go_wp2
  go_ret
  exact ⟨rfl, _, _, (HM5.out.set 4 (.string ⟨(t4 : List UInt8).toArray⟩))⟩
set_option maxHeartbeats 1000000 in
set_option maxRecDepth 100000 in
theorem mr_connectionStartOk (f0 : List Fld) (t1 : List UInt8) (t2 : List UInt8) (t3 : List UInt8) (hwf0 : WfFs f0) (hf0 : fitsB f0 = true) (ht1 : t1.length ≤ 255) (ht2 : t2.length ≤ 1000) (ht3 : t3.length ≤ 255) (rest : List UInt8) {w : World} {b d msg : Nat} (h : MS w b d msg 206 [] [] [.map none, .string ⟨#[]⟩, .string ⟨#[]⟩, .string ⟨#[]⟩] (encT f0 ++ (Lib.beBytes 1 t1.length ++ (t1 ++ (Lib.beBytes 4 t2.length ++ (t2 ++ (Lib.beBytes 1 t3.length ++ (t3 ++ rest))))))) w) :
    Calls Tryz.prog 79 #[.pointer (some ⟨msg, 0, none⟩), bufR b] w fun e w' => e = .returned .nilIface ∧ ∃ loc, ∃ tb, MS w b d msg 206 loc [(.map (some tb), f0)] [.map (some tb), .string ⟨(t1 : List UInt8).toArray⟩, .string ⟨(t2 : List UInt8).toArray⟩, .string ⟨(t3 : List UInt8).toArray⟩] rest w' := by
  have HM0 := Lib.hid h; clear h
  have HB := Lib.hid (And.intro hwf0 (And.intro hf0 (And.intro ht1 (And.intro ht2 ht3))))
  clear hwf0 hf0 ht1 ht2 ht3
  go_enter Tryz.func79, Tryz.ntmps79
  go_upto_region 2 with (go_at_call 145; have hq := ms_table f0 HB.out.1 HB.out.2.1 _ HM0.out; with_reducible refine hq.mono ?_; clear hq; rintro e w1 ⟨tb, rfl, hm⟩; have c1 := hm.cell (i := 0) rfl; have fz1 := hm.free 0; have HM1 := Lib.hid hm; clear hm)
  go_upto_region 4 with (go_at_call 144; have hq := ms_short t1 HB.out.2.2.1 _ (HM1.out.set 0 (.map (some tb))); with_reducible refine hq.mono ?_; clear hq; rintro e w2 ⟨rfl, hm⟩; have c2 := hm.cell (i := 1) rfl; have fz2 := hm.free 1; have HM2 := Lib.hid hm; clear hm)
  go_upto_region 6 with (go_at_call 157; have hq := ms_long t2 (Nat.le_trans HB.out.2.2.2.1 (by decide)) _ (HM2.out.set 1 (.string ⟨(t1 : List UInt8).toArray⟩)); with_reducible refine hq.mono ?_; clear hq; rintro e w3 ⟨rfl, hm⟩; have c3 := hm.cell (i := 2) rfl; have fz3 := hm.free 2; have HM3 := Lib.hid hm; clear hm)
  go_upto_region 8 with (go_at_call 144; have hq := ms_short t3 HB.out.2.2.2.2 _ (HM3.out.set 2 (.string ⟨(t2 : List UInt8).toArray⟩)); with_reducible refine hq.mono ?_; clear hq; rintro e w4 ⟨rfl, hm⟩; have c4 := hm.cell (i := 3) rfl; have fz4 := hm.free 3; have HM4 := Lib.hid hm; clear hm)
  go_wp2
  go_ret
  exact ⟨rfl, _, _, (HM4.out.set 3 (.string ⟨(t3 : List UInt8).toArray⟩))⟩
set_option maxHeartbeats 1000000 in
set_option maxRecDepth 100000 in
theorem mr_connectionSecure (t0 : List UInt8) (ht0 : t0.length ≤ 1000) (rest : List UInt8) {w : World} {b d msg : Nat} (h : MS w b d msg 209 [] [] [.string ⟨#[]⟩] (Lib.beBytes 4 t0.length ++ (t0 ++ rest)) w) :
    Calls Tryz.prog 80 #[.pointer (some ⟨msg, 0, none⟩), bufR b] w fun e w' => e = .returned .nilIface ∧ ∃ loc, MS w b d msg 209 loc [] [.string ⟨(t0 : List UInt8).toArray⟩] rest w' := by
  have HM0 := Lib.hid h; clear h
  have HB := Lib.hid ht0
  clear ht0
  go_enter Tryz.func80, Tryz.ntmps80
  go_upto_region 2 with (go_at_call 157; have hq := ms_long t0 (Nat.le_trans HB.out (by decide)) _ HM0.out; with_reducible refine hq.mono ?_; clear hq; rintro e w1 ⟨rfl, hm⟩; have c1 := hm.cell (i := 0) rfl; have fz1 := hm.free 0; have HM1 := Lib.hid hm; clear hm)
  go_wp2
  go_ret
  exact ⟨rfl, _, (HM1.out.set 0 (.string ⟨(t0 : List UInt8).toArray⟩))⟩
set_option maxHeartbeats 1000000 in
set_option maxRecDepth 100000 in
theorem mr_connectionSecureOk (t0 : List UInt8) (ht0 : t0.length ≤ 1000) (rest : List UInt8) {w : World} {b d msg : Nat} (h : MS w b d msg 212 [] [] [.string ⟨#[]⟩] (Lib.beBytes 4 t0.length ++ (t0 ++ rest)) w) :
    Calls Tryz.prog 81 #[.pointer (some ⟨msg, 0, none⟩), bufR b] w fun e w' => e = .returned .nilIface ∧ ∃ loc, MS w b d msg 212 loc [] [.string ⟨(t0 : List UInt8).toArray⟩] rest w' := by
  have HM0 := Lib.hid h; clear h
  have HB := Lib.hid ht0
  clear ht0
  go_enter Tryz.func81, Tryz.ntmps81
  go_upto_region 2 with (go_at_call 157; have hq := ms_long t0 (Nat.le_trans HB.out (by decide)) _ HM0.out; with_reducible refine hq.mono ?_; clear hq; rintro e w1 ⟨rfl, hm⟩; have c1 := hm.cell (i := 0) rfl; have fz1 := hm.free 0; have HM1 := Lib.hid hm; clear hm)
  go_wp2
  go_ret
  exact ⟨rfl, _, (HM1.out.set 0 (.string ⟨(t0 : List UInt8).toArray⟩))⟩
set_option maxHeartbeats 1000000 in
set_option maxRecDepth 100000 in
theorem mr_connectionTune (n0 : Nat) (n1 : Nat) (n2 : Nat) (hn0 : n0 < 65536) (hn1 : n1 < 4294967296) (hn2 : n2 < 65536) (rest : List UInt8) {w : World} {b d msg : Nat} (h : MS w b d msg 215 [] [] [.int .u16 0, .int .u32 0, .int .u16 0] (Lib.beBytes 2 n0 ++ (Lib.beBytes 4 n1 ++ (Lib.beBytes 2 n2 ++ rest))) w) :
    Calls Tryz.prog 82 #[.pointer (some ⟨msg, 0, none⟩), bufR b] w fun e w' => e = .returned .nilIface ∧ ∃ loc, MS w b d msg 215 loc [] [.int .u16 ((n0 : Nat) : Int), .int .u32 ((n1 : Nat) : Int), .int .u16 ((n2 : Nat) : Int)] rest w' := by
  have HM0 := Lib.hid h; clear h
  have HB := Lib.hid (And.intro hn0 (And.intro hn1 hn2))
  clear hn0 hn1 hn2
  go_enter Tryz.func82, Tryz.ntmps82
  go_upto_region 2 with (go_at_call 77; have hq := ms_u16 n0 HB.out.1 _ HM0.out 0 _ rfl; with_reducible refine hq.mono ?_; clear hq; rintro e w1 ⟨rfl, hm⟩; have HM1 := Lib.hid hm; clear hm)
  go_upto_region 4 with (go_at_call 77; have hq := ms_u32 n1 HB.out.2.1 _ HM1.out 1 _ rfl; with_reducible refine hq.mono ?_; clear hq; rintro e w2 ⟨rfl, hm⟩; have HM2 := Lib.hid hm; clear hm)
  go_upto_region 6 with (go_at_call 77; have hq := ms_u16 n2 HB.out.2.2 _ HM2.out 2 _ rfl; with_reducible refine hq.mono ?_; clear hq; rintro e w3 ⟨rfl, hm⟩; have HM3 := Lib.hid hm; clear hm)
  go_wp2
  go_ret
  exact ⟨rfl, _, HM3.out⟩
set_option maxHeartbeats 1000000 in
set_option maxRecDepth 100000 in
theorem mr_connectionTuneOk (n0 : Nat) (n1 : Nat) (n2 : Nat) (hn0 : n0 < 65536) (hn1 : n1 < 4294967296) (hn2 : n2 < 65536) (rest : List UInt8) {w : World} {b d msg : Nat} (h : MS w b d msg 217 [] [] [.int .u16 0, .int .u32 0, .int .u16 0] (Lib.beBytes 2 n0 ++ (Lib.beBytes 4 n1 ++ (Lib.beBytes 2 n2 ++ rest))) w) :
    Calls Tryz.prog 83 #[.pointer (some ⟨msg, 0, none⟩), bufR b] w fun e w' => e = .returned .nilIface ∧ ∃ loc, MS w b d msg 217 loc [] [.int .u16 ((n0 : Nat) : Int), .int .u32 ((n1 : Nat) : Int), .int .u16 ((n2 : Nat) : Int)] rest w' := by
  have HM0 := Lib.hid h; clear h
  have HB := Lib.hid (And.intro hn0 (And.intro hn1 hn2))
  clear hn0 hn1 hn2
  go_enter Tryz.func83, Tryz.ntmps83
  go_upto_region 2 with (go_at_call 77; have hq := ms_u16 n0 HB.out.1 _ HM0.out 0 _ rfl; with_reducible refine hq.mono ?_; clear hq; rintro e w1 ⟨rfl, hm⟩; have HM1 := Lib.hid hm; clear hm)
  go_upto_region 4 with (go_at_call 77; have hq := ms_u32 n1 HB.out.2.1 _ HM1.out 1 _ rfl; with_reducible refine hq.mono ?_; clear hq; rintro e w2 ⟨rfl, hm⟩; have HM2 := Lib.hid hm; clear hm)
  go_upto_region 6 with (go_at_call 77; have hq := ms_u16 n2 HB.out.2.2 _ HM2.out 2 _ rfl; with_reducible refine hq.mono ?_; clear hq; rintro e w3 ⟨rfl, hm⟩; have HM3 := Lib.hid hm; clear hm)
  go_wp2
  go_ret
  exact ⟨rfl, _, HM3.out⟩
set_option maxHeartbeats 1000000 in
set_option maxRecDepth 100000 in
theorem mr_connectionOpen (t0 : List UInt8) (ht0 : t0.length ≤ 255) (rest : List UInt8) {w : World} {b d msg : Nat} (h : MS w b d msg 220 [] [] [.string ⟨#[]⟩, .string ⟨#[]⟩, .bool false] (Lib.beBytes 1 t0.length ++ (t0 ++ (Lib.beBytes 1 ([] : List UInt8).length ++ (([] : List UInt8) ++ (Lib.beBytes 1 (0) ++ rest))))) w) :
    Calls Tryz.prog 84 #[.pointer (some ⟨msg, 0, none⟩), bufR b] w fun e w' => e = .returned .nilIface ∧ ∃ loc, MS w b d msg 220 loc [] [.string ⟨(t0 : List UInt8).toArray⟩, .string ⟨([] : List UInt8).toArray⟩, .bool false] rest w' := by
  obtain ⟨n, hn⟩ : ∃ n, n = 0 + false.toNat % 2 * 2 ^ 0 := ⟨_, rfl⟩
  have hn8 : n < 256 := by subst hn; decide
  obtain ⟨v0, b0, d0⟩ : ∃ v : Int, bits .and .u8 (n : Int) 1 = v ∧ decide (v > 0) = false := ⟨_, rfl, by subst hn; decide⟩
  have HD := Lib.hid (d0)
  clear d0
  have h1 : MS w b d msg 220 [(w.heap.size, .int .u8 0)] [] [.string ⟨#[]⟩, .string ⟨#[]⟩, .bool false] (Lib.beBytes 1 t0.length ++ (t0 ++ (Lib.beBytes 1 ([] : List UInt8).length ++ (([] : List UInt8) ++ (Lib.beBytes 1 n ++ rest))))) (w.alloc (.cells #[.int .u8 0] 5)) := by rw [hn]; exact h.push _
  have HM0 := Lib.hid h1; clear h h1 hn
  have HB := Lib.hid ht0
  clear ht0
  go_enter Tryz.func84, Tryz.ntmps84
  go_upto_region 3 with (go_at_call 144; have hq := ms_short t0 HB.out _ HM0.out; with_reducible refine hq.mono ?_; clear hq; rintro e w1 ⟨rfl, hm⟩; have c1 := hm.cell (i := 0) rfl; have fz1 := hm.free 0; have HM1 := Lib.hid hm; clear hm)
  go_upto_region 5 with (go_at_call 144; have hq := ms_short [] (by simp) _ (HM1.out.set 0 (.string ⟨(t0 : List UInt8).toArray⟩)); with_reducible refine hq.mono ?_; clear hq; rintro e w2 ⟨rfl, hm⟩; have c2 := hm.cell (i := 1) rfl; have fz2 := hm.free 1; have HM2 := Lib.hid hm; clear hm)
  go_upto_region 7 with (go_at_call 77; have hq := ms_bits n hn8 _ (HM2.out.set 1 (.string ⟨([] : List UInt8).toArray⟩)); with_reducible refine hq.mono ?_; clear hq; rintro e w3 ⟨rfl, hm⟩; have cl := hm.mem; have nl := hm.nlb; have c3_0 := hm.cell (i := 2) rfl; have fz3_0 := hm.free 2; have HM3 := Lib.hid hm; clear hm)
  go_wp2
  go_ret
  have d0 := HD.out
  have hfin := (HM3.out.set 2 (.bool (decide (v0 > 0))))
  simp only [d0] at hfin ⊢
  exact ⟨rfl, _, hfin⟩
set_option maxHeartbeats 1000000 in
set_option maxRecDepth 100000 in
theorem mr_connectionOpenOk  (rest : List UInt8) {w : World} {b d msg : Nat} (h : MS w b d msg 223 [] [] [.string ⟨#[]⟩] (Lib.beBytes 1 ([] : List UInt8).length ++ (([] : List UInt8) ++ rest)) w) :
    Calls Tryz.prog 85 #[.pointer (some ⟨msg, 0, none⟩), bufR b] w fun e w' => e = .returned .nilIface ∧ ∃ loc, MS w b d msg 223 loc [] [.string ⟨([] : List UInt8).toArray⟩] rest w' := by
  have HM0 := Lib.hid h; clear h
  go_enter Tryz.func85, Tryz.ntmps85
  go_upto_region 2 with (go_at_call 144; have hq := ms_short [] (by simp) _ HM0.out; with_reducible refine hq.mono ?_; clear hq; rintro e w1 ⟨rfl, hm⟩; have c1 := hm.cell (i := 0) rfl; have fz1 := hm.free 0; have HM1 := Lib.hid hm; clear hm)
  go_wp2
  go_ret
  exact ⟨rfl, _, (HM1.out.set 0 (.string ⟨([] : List UInt8).toArray⟩))⟩
set_option maxHeartbeats 1000000 in
set_option maxRecDepth 100000 in
theorem mr_connectionClose (n0 : Nat) (t1 : List UInt8) (n2 : Nat) (n3 : Nat) (hn0 : n0 < 65536) (ht1 : t1.length ≤ 255) (hn2 : n2 < 65536) (hn3 : n3 < 65536) (rest : List UInt8) {w : World} {b d msg : Nat} (h : MS w b d msg 226 [] [] [.int .u16 0, .string ⟨#[]⟩, .int .u16 0, .int .u16 0] (Lib.beBytes 2 n0 ++ (Lib.beBytes 1 t1.length ++ (t1 ++ (Lib.beBytes 2 n2 ++ (Lib.beBytes 2 n3 ++ rest))))) w) :
    Calls Tryz.prog 86 #[.pointer (some ⟨msg, 0, none⟩), bufR b] w fun e w' => e = .returned .nilIface ∧ ∃ loc, MS w b d msg 226 loc [] [.int .u16 ((n0 : Nat) : Int), .string ⟨(t1 : List UInt8).toArray⟩, .int .u16 ((n2 : Nat) : Int), .int .u16 ((n3 : Nat) : Int)] rest w' := by
  have HM0 := Lib.hid h; clear h
  have HB := Lib.hid (And.intro hn0 (And.intro ht1 (And.intro hn2 hn3)))
  clear hn0 ht1 hn2 hn3
  go_enter Tryz.func86, Tryz.ntmps86
  go_upto_region 2 with (go_at_call 77; have hq := ms_u16 n0 HB.out.1 _ HM0.out 0 _ rfl; with_reducible refine hq.mono ?_; clear hq; rintro e w1 ⟨rfl, hm⟩; have HM1 := Lib.hid hm; clear hm)
  go_upto_region 4 with (go_at_call 144; have hq := ms_short t1 HB.out.2.1 _ HM1.out; with_reducible refine hq.mono ?_; clear hq; rintro e w2 ⟨rfl, hm⟩; have c2 := hm.cell (i := 1) rfl; have fz2 := hm.free 1; have HM2 := Lib.hid hm; clear hm)
  go_upto_region 6 with (go_at_call 77; have hq := ms_u16 n2 HB.out.2.2.1 _ (HM2.out.set 1 (.string ⟨(t1 : List UInt8).toArray⟩)) 2 _ rfl; with_reducible refine hq.mono ?_; clear hq; rintro e w3 ⟨rfl, hm⟩; have HM3 := Lib.hid hm; clear hm)
  go_upto_region 8 with (go_at_call 77; have hq := ms_u16 n3 HB.out.2.2.2 _ HM3.out 3 _ rfl; with_reducible refine hq.mono ?_; clear hq; rintro e w4 ⟨rfl, hm⟩; have HM4 := Lib.hid hm; clear hm)
  go_wp2
  go_ret
  exact ⟨rfl, _, HM4.out⟩
set_option maxHeartbeats 1000000 in
set_option maxRecDepth 100000 in
theorem mr_connectionCloseOk  (rest : List UInt8) {w : World} {b d msg : Nat} (h : MS w b d msg 229 [] [] [] rest w) :
    Calls Tryz.prog 87 #[.pointer (some ⟨msg, 0, none⟩), bufR b] w fun e w' => e = .returned .nilIface ∧ ∃ loc, MS w b d msg 229 loc [] [] rest w' := by
  have HM0 := Lib.hid h; clear h
  go_enter Tryz.func87, Tryz.ntmps87
  go_wp2
  go_ret
  exact ⟨rfl, _, HM0.out⟩
set_option maxHeartbeats 1000000 in
set_option maxRecDepth 100000 in
theorem mr_connectionBlocked (t0 : List UInt8) (ht0 : t0.length ≤ 255) (rest : List UInt8) {w : World} {b d msg : Nat} (h : MS w b d msg 232 [] [] [.string ⟨#[]⟩] (Lib.beBytes 1 t0.length ++ (t0 ++ rest)) w) :
    Calls Tryz.prog 88 #[.pointer (some ⟨msg, 0, none⟩), bufR b] w fun e w' => e = .returned .nilIface ∧ ∃ loc, MS w b d msg 232 loc [] [.string ⟨(t0 : List UInt8).toArray⟩] rest w' := by
  have HM0 := Lib.hid h; clear h
  have HB := Lib.hid ht0
  clear ht0
  go_enter Tryz.func88, Tryz.ntmps88
  go_upto_region 2 with (go_at_call 144; have hq := ms_short t0 HB.out _ HM0.out; with_reducible refine hq.mono ?_; clear hq; rintro e w1 ⟨rfl, hm⟩; have c1 := hm.cell (i := 0) rfl; have fz1 := hm.free 0; have HM1 := Lib.hid hm; clear hm)
  go_wp2
  go_ret
  exact ⟨rfl, _, (HM1.out.set 0 (.string ⟨(t0 : List UInt8).toArray⟩))⟩
set_option maxHeartbeats 1000000 in
set_option maxRecDepth 100000 in
theorem mr_connectionUnblocked  (rest : List UInt8) {w : World} {b d msg : Nat} (h : MS w b d msg 234 [] [] [] rest w) :
    Calls Tryz.prog 89 #[.pointer (some ⟨msg, 0, none⟩), bufR b] w fun e w' => e = .returned .nilIface ∧ ∃ loc, MS w b d msg 234 loc [] [] rest w' := by
  have HM0 := Lib.hid h; clear h
  go_enter Tryz.func89, Tryz.ntmps89
  go_wp2
  go_ret
  exact ⟨rfl, _, HM0.out⟩
set_option maxHeartbeats 1000000 in
set_option maxRecDepth 100000 in
theorem mr_connectionUpdateSecret (t0 : List UInt8) (t1 : List UInt8) (ht0 : t0.length ≤ 1000) (ht1 : t1.length ≤ 255) (rest : List UInt8) {w : World} {b d msg : Nat} (h : MS w b d msg 237 [] [] [.string ⟨#[]⟩, .string ⟨#[]⟩] (Lib.beBytes 4 t0.length ++ (t0 ++ (Lib.beBytes 1 t1.length ++ (t1 ++ rest)))) w) :
    Calls Tryz.prog 90 #[.pointer (some ⟨msg, 0, none⟩), bufR b] w fun e w' => e = .returned .nilIface ∧ ∃ loc, MS w b d msg 237 loc [] [.string ⟨(t0 : List UInt8).toArray⟩, .string ⟨(t1 : List UInt8).toArray⟩] rest w' := by
  have HM0 := Lib.hid h; clear h
  have HB := Lib.hid (And.intro ht0 ht1)
  clear ht0 ht1
  go_enter Tryz.func90, Tryz.ntmps90
  go_upto_region 2 with (go_at_call 157; have hq := ms_long t0 (Nat.le_trans HB.out.1 (by decide)) _ HM0.out; with_reducible refine hq.mono ?_; clear hq; rintro e w1 ⟨rfl, hm⟩; have c1 := hm.cell (i := 0) rfl; have fz1 := hm.free 0; have HM1 := Lib.hid hm; clear hm)
  go_upto_region 4 with (go_at_call 144; have hq := ms_short t1 HB.out.2 _ (HM1.out.set 0 (.string ⟨(t0 : List UInt8).toArray⟩)); with_reducible refine hq.mono ?_; clear hq; rintro e w2 ⟨rfl, hm⟩; have c2 := hm.cell (i := 1) rfl; have fz2 := hm.free 1; have HM2 := Lib.hid hm; clear hm)
  go_wp2
  go_ret
  exact ⟨rfl, _, (HM2.out.set 1 (.string ⟨(t1 : List UInt8).toArray⟩))⟩
set_option maxHeartbeats 1000000 in
set_option maxRecDepth 100000 in
theorem mr_connectionUpdateSecretOk  (rest : List UInt8) {w : World} {b d msg : Nat} (h : MS w b d msg 239 [] [] [] rest w) :
    Calls Tryz.prog 91 #[.pointer (some ⟨msg, 0, none⟩), bufR b] w fun e w' => e = .returned .nilIface ∧ ∃ loc, MS w b d msg 239 loc [] [] rest w' := by
  have HM0 := Lib.hid h; clear h
  go_enter Tryz.func91, Tryz.ntmps91
  go_wp2
  go_ret
  exact ⟨rfl, _, HM0.out⟩
set_option maxHeartbeats 1000000 in
set_option maxRecDepth 100000 in
theorem mr_channelOpen  (rest : List UInt8) {w : World} {b d msg : Nat} (h : MS w b d msg 242 [] [] [.string ⟨#[]⟩] (Lib.beBytes 1 ([] : List UInt8).length ++ (([] : List UInt8) ++ rest)) w) :
    Calls Tryz.prog 93 #[.pointer (some ⟨msg, 0, none⟩), bufR b] w fun e w' => e = .returned .nilIface ∧ ∃ loc, MS w b d msg 242 loc [] [.string ⟨([] : List UInt8).toArray⟩] rest w' := by
  have HM0 := Lib.hid h; clear h
  go_enter Tryz.func93, Tryz.ntmps93
  go_upto_region 2 with (go_at_call 144; have hq := ms_short [] (by simp) _ HM0.out; with_reducible refine hq.mono ?_; clear hq; rintro e w1 ⟨rfl, hm⟩; have c1 := hm.cell (i := 0) rfl; have fz1 := hm.free 0; have HM1 := Lib.hid hm; clear hm)
  go_wp2
  go_ret
  exact ⟨rfl, _, (HM1.out.set 0 (.string ⟨([] : List UInt8).toArray⟩))⟩
set_option maxHeartbeats 1000000 in
set_option maxRecDepth 100000 in
theorem mr_channelOpenOk  (rest : List UInt8) {w : World} {b d msg : Nat} (h : MS w b d msg 244 [] [] [.string ⟨#[]⟩] (Lib.beBytes 4 ([] : List UInt8).length ++ (([] : List UInt8) ++ rest)) w) :
    Calls Tryz.prog 94 #[.pointer (some ⟨msg, 0, none⟩), bufR b] w fun e w' => e = .returned .nilIface ∧ ∃ loc, MS w b d msg 244 loc [] [.string ⟨([] : List UInt8).toArray⟩] rest w' := by
  have HM0 := Lib.hid h; clear h
  go_enter Tryz.func94, Tryz.ntmps94
  go_upto_region 2 with (go_at_call 157; have hq := ms_long [] (by simp) _ HM0.out; with_reducible refine hq.mono ?_; clear hq; rintro e w1 ⟨rfl, hm⟩; have c1 := hm.cell (i := 0) rfl; have fz1 := hm.free 0; have HM1 := Lib.hid hm; clear hm)
  go_wp2
  go_ret
  exact ⟨rfl, _, (HM1.out.set 0 (.string ⟨([] : List UInt8).toArray⟩))⟩
set_option maxHeartbeats 1000000 in
set_option maxRecDepth 100000 in
theorem mr_channelFlow (p0 : Bool) (rest : List UInt8) {w : World} {b d msg : Nat} (h : MS w b d msg 247 [] [] [.bool false] (Lib.beBytes 1 (0 + p0.toNat % 2 * 2 ^ 0) ++ rest) w) :
    Calls Tryz.prog 95 #[.pointer (some ⟨msg, 0, none⟩), bufR b] w fun e w' => e = .returned .nilIface ∧ ∃ loc, MS w b d msg 247 loc [] [.bool p0] rest w' := by
  obtain ⟨n, hn⟩ : ∃ n, n = 0 + p0.toNat % 2 * 2 ^ 0 := ⟨_, rfl⟩
  have hn8 : n < 256 := by subst hn; cases p0 <;> decide
  obtain ⟨v0, b0, d0⟩ : ∃ v : Int, bits .and .u8 (n : Int) 1 = v ∧ decide (v > 0) = p0 := ⟨_, rfl, by subst hn; cases p0 <;> decide⟩
  have HD := Lib.hid (d0)
  clear d0
  have h1 : MS w b d msg 247 [(w.heap.size, .int .u8 0)] [] [.bool false] (Lib.beBytes 1 n ++ rest) (w.alloc (.cells #[.int .u8 0] 5)) := by rw [hn]; exact h.push _
  have HM0 := Lib.hid h1; clear h h1 hn
  go_enter Tryz.func95, Tryz.ntmps95
  go_upto_region 3 with (go_at_call 77; have hq := ms_bits n hn8 _ HM0.out; with_reducible refine hq.mono ?_; clear hq; rintro e w1 ⟨rfl, hm⟩; have cl := hm.mem; have nl := hm.nlb; have c1_0 := hm.cell (i := 0) rfl; have fz1_0 := hm.free 0; have HM1 := Lib.hid hm; clear hm)
  go_wp2
  go_ret
  have d0 := HD.out
  have hfin := (HM1.out.set 0 (.bool (decide (v0 > 0))))
  simp only [d0] at hfin ⊢
  exact ⟨rfl, _, hfin⟩
set_option maxHeartbeats 1000000 in
set_option maxRecDepth 100000 in
theorem mr_channelFlowOk (p0 : Bool) (rest : List UInt8) {w : World} {b d msg : Nat} (h : MS w b d msg 249 [] [] [.bool false] (Lib.beBytes 1 (0 + p0.toNat % 2 * 2 ^ 0) ++ rest) w) :
    Calls Tryz.prog 96 #[.pointer (some ⟨msg, 0, none⟩), bufR b] w fun e w' => e = .returned .nilIface ∧ ∃ loc, MS w b d msg 249 loc [] [.bool p0] rest w' := by
  obtain ⟨n, hn⟩ : ∃ n, n = 0 + p0.toNat % 2 * 2 ^ 0 := ⟨_, rfl⟩
  have hn8 : n < 256 := by subst hn; cases p0 <;> decide
  obtain ⟨v0, b0, d0⟩ : ∃ v : Int, bits .and .u8 (n : Int) 1 = v ∧ decide (v > 0) = p0 := ⟨_, rfl, by subst hn; cases p0 <;> decide⟩
  have HD := Lib.hid (d0)
  clear d0
  have h1 : MS w b d msg 249 [(w.heap.size, .int .u8 0)] [] [.bool false] (Lib.beBytes 1 n ++ rest) (w.alloc (.cells #[.int .u8 0] 5)) := by rw [hn]; exact h.push _
  have HM0 := Lib.hid h1; clear h h1 hn
  go_enter Tryz.func96, Tryz.ntmps96
  go_upto_region 3 with (go_at_call 77; have hq := ms_bits n hn8 _ HM0.out; with_reducible refine hq.mono ?_; clear hq; rintro e w1 ⟨rfl, hm⟩; have cl := hm.mem; have nl := hm.nlb; have c1_0 := hm.cell (i := 0) rfl; have fz1_0 := hm.free 0; have HM1 := Lib.hid hm; clear hm)
  go_wp2
  go_ret
  have d0 := HD.out
  have hfin := (HM1.out.set 0 (.bool (decide (v0 > 0))))
  simp only [d0] at hfin ⊢
  exact ⟨rfl, _, hfin⟩
set_option maxHeartbeats 1000000 in
set_option maxRecDepth 100000 in
theorem mr_channelClose (n0 : Nat) (t1 : List UInt8) (n2 : Nat) (n3 : Nat) (hn0 : n0 < 65536) (ht1 : t1.length ≤ 255) (hn2 : n2 < 65536) (hn3 : n3 < 65536) (rest : List UInt8) {w : World} {b d msg : Nat} (h : MS w b d msg 251 [] [] [.int .u16 0, .string ⟨#[]⟩, .int .u16 0, .int .u16 0] (Lib.beBytes 2 n0 ++ (Lib.beBytes 1 t1.length ++ (t1 ++ (Lib.beBytes 2 n2 ++ (Lib.beBytes 2 n3 ++ rest))))) w) :
    Calls Tryz.prog 97 #[.pointer (some ⟨msg, 0, none⟩), bufR b] w fun e w' => e = .returned .nilIface ∧ ∃ loc, MS w b d msg 251 loc [] [.int .u16 ((n0 : Nat) : Int), .string ⟨(t1 : List UInt8).toArray⟩, .int .u16 ((n2 : Nat) : Int), .int .u16 ((n3 : Nat) : Int)] rest w' := by
  have HM0 := Lib.hid h; clear h
  have HB := Lib.hid (And.intro hn0 (And.intro ht1 (And.intro hn2 hn3)))
  clear hn0 ht1 hn2 hn3
  go_enter Tryz.func97, Tryz.ntmps97
  go_upto_region 2 with (go_at_call 77; have hq := ms_u16 n0 HB.out.1 _ HM0.out 0 _ rfl; with_reducible refine hq.mono ?_; clear hq; rintro e w1 ⟨rfl, hm⟩; have HM1 := Lib.hid hm; clear hm)
  go_upto_region 4 with (go_at_call 144; have hq := ms_short t1 HB.out.2.1 _ HM1.out; with_reducible refine hq.mono ?_; clear hq; rintro e w2 ⟨rfl, hm⟩; have c2 := hm.cell (i := 1) rfl; have fz2 := hm.free 1; have HM2 := Lib.hid hm; clear hm)
  go_upto_region 6 with (go_at_call 77; have hq := ms_u16 n2 HB.out.2.2.1 _ (HM2.out.set 1 (.string ⟨(t1 : List UInt8).toArray⟩)) 2 _ rfl; with_reducible refine hq.mono ?_; clear hq; rintro e w3 ⟨rfl, hm⟩; have HM3 := Lib.hid hm; clear hm)
  go_upto_region 8 with (go_at_call 77; have hq := ms_u16 n3 HB.out.2.2.2 _ HM3.out 3 _ rfl; with_reducible refine hq.mono ?_; clear hq; rintro e w4 ⟨rfl, hm⟩; have HM4 := Lib.hid hm; clear hm)
  go_wp2
  go_ret
  exact ⟨rfl, _, HM4.out⟩
set_option maxHeartbeats 1000000 in
set_option maxRecDepth 100000 in
theorem mr_channelCloseOk  (rest : List UInt8) {w : World} {b d msg : Nat} (h : MS w b d msg 253 [] [] [] rest w) :
    Calls Tryz.prog 98 #[.pointer (some ⟨msg, 0, none⟩), bufR b] w fun e w' => e = .returned .nilIface ∧ ∃ loc, MS w b d msg 253 loc [] [] rest w' := by
  have HM0 := Lib.hid h; clear h
  go_enter Tryz.func98, Tryz.ntmps98
  go_wp2
  go_ret
  exact ⟨rfl, _, HM0.out⟩
set_option maxHeartbeats 1000000 in
set_option maxRecDepth 100000 in
theorem mr_exchangeDeclare (t0 : List UInt8) (t1 : List UInt8) (p2 : Bool) (p3 : Bool) (p4 : Bool) (p5 : Bool) (p6 : Bool) (f7 : List Fld) (ht0 : t0.length ≤ 255) (ht1 : t1.length ≤ 255) (hwf7 : WfFs f7) (hf7 : fitsB f7 = true) (rest : List UInt8) {w : World} {b d msg : Nat} (h : MS w b d msg 256 [] [] [.int .u16 0, .string ⟨#[]⟩, .string ⟨#[]⟩, .bool false, .bool false, .bool false, .bool false, .bool false, .map none] (Lib.beBytes 2 0 ++ (Lib.beBytes 1 t0.length ++ (t0 ++ (Lib.beBytes 1 t1.length ++ (t1 ++ (Lib.beBytes 1 (0 + p2.toNat % 2 * 2 ^ 0 + p3.toNat % 2 * 2 ^ 1 + p4.toNat % 2 * 2 ^ 2 + p5.toNat % 2 * 2 ^ 3 + p6.toNat % 2 * 2 ^ 4) ++ (encT f7 ++ rest))))))) w) :
    Calls Tryz.prog 99 #[.pointer (some ⟨msg, 0, none⟩), bufR b] w fun e w' => e = .returned .nilIface ∧ ∃ loc, ∃ tb, MS w b d msg 256 loc [(.map (some tb), f7)] [.int .u16 ((0 : Nat) : Int), .string ⟨(t0 : List UInt8).toArray⟩, .string ⟨(t1 : List UInt8).toArray⟩, .bool p2, .bool p3, .bool p4, .bool p5, .bool p6, .map (some tb)] rest w' := by
  obtain ⟨n, hn⟩ : ∃ n, n = 0 + p2.toNat % 2 * 2 ^ 0 + p3.toNat % 2 * 2 ^ 1 + p4.toNat % 2 * 2 ^ 2 + p5.toNat % 2 * 2 ^ 3 + p6.toNat % 2 * 2 ^ 4 := ⟨_, rfl⟩
  have hn8 : n < 256 := by subst hn; cases p2 <;> cases p3 <;> cases p4 <;> cases p5 <;> cases p6 <;> decide
  obtain ⟨v0, b0, d0⟩ : ∃ v : Int, bits .and .u8 (n : Int) 1 = v ∧ decide (v > 0) = p2 := ⟨_, rfl, by subst hn; cases p2 <;> cases p3 <;> cases p4 <;> cases p5 <;> cases p6 <;> decide⟩
  obtain ⟨v1, b1, d1⟩ : ∃ v : Int, bits .and .u8 (n : Int) 2 = v ∧ decide (v > 0) = p3 := ⟨_, rfl, by subst hn; cases p2 <;> cases p3 <;> cases p4 <;> cases p5 <;> cases p6 <;> decide⟩
  obtain ⟨v2, b2, d2⟩ : ∃ v : Int, bits .and .u8 (n : Int) 4 = v ∧ decide (v > 0) = p4 := ⟨_, rfl, by subst hn; cases p2 <;> cases p3 <;> cases p4 <;> cases p5 <;> cases p6 <;> decide⟩
  obtain ⟨v3, b3, d3⟩ : ∃ v : Int, bits .and .u8 (n : Int) 8 = v ∧ decide (v > 0) = p5 := ⟨_, rfl, by subst hn; cases p2 <;> cases p3 <;> cases p4 <;> cases p5 <;> cases p6 <;> decide⟩
  obtain ⟨v4, b4, d4⟩ : ∃ v : Int, bits .and .u8 (n : Int) 16 = v ∧ decide (v > 0) = p6 := ⟨_, rfl, by subst hn; cases p2 <;> cases p3 <;> cases p4 <;> cases p5 <;> cases p6 <;> decide⟩
  have HD := Lib.hid ((And.intro d0 (And.intro d1 (And.intro d2 (And.intro d3 d4)))))
  clear d0 d1 d2 d3 d4
  have h1 : MS w b d msg 256 [(w.heap.size, .int .u8 0)] [] [.int .u16 0, .string ⟨#[]⟩, .string ⟨#[]⟩, .bool false, .bool false, .bool false, .bool false, .bool false, .map none] (Lib.beBytes 2 0 ++ (Lib.beBytes 1 t0.length ++ (t0 ++ (Lib.beBytes 1 t1.length ++ (t1 ++ (Lib.beBytes 1 n ++ (encT f7 ++ rest))))))) (w.alloc (.cells #[.int .u8 0] 5)) := by rw [hn]; exact h.push _
  have HM0 := Lib.hid h1; clear h h1 hn
  have HB := Lib.hid (And.intro ht0 (And.intro ht1 (And.intro hwf7 hf7)))
  clear ht0 ht1 hwf7 hf7
  go_enter Tryz.func99, Tryz.ntmps99
  go_upto_region 3 with (go_at_call 77; have hq := ms_u16 0 (by decide) _ HM0.out 0 _ rfl; with_reducible refine hq.mono ?_; clear hq; rintro e w1 ⟨rfl, hm⟩; have HM1 := Lib.hid hm; clear hm)
  go_upto_region 5 with (go_at_call 144; have hq := ms_short t0 HB.out.1 _ HM1.out; with_reducible refine hq.mono ?_; clear hq; rintro e w2 ⟨rfl, hm⟩; have c2 := hm.cell (i := 1) rfl; have fz2 := hm.free 1; have HM2 := Lib.hid hm; clear hm)
  go_upto_region 7 with (go_at_call 144; have hq := ms_short t1 HB.out.2.1 _ (HM2.out.set 1 (.string ⟨(t0 : List UInt8).toArray⟩)); with_reducible refine hq.mono ?_; clear hq; rintro e w3 ⟨rfl, hm⟩; have c3 := hm.cell (i := 2) rfl; have fz3 := hm.free 2; have HM3 := Lib.hid hm; clear hm)
  go_upto_region 9 with (go_at_call 77; have hq := ms_bits n hn8 _ (HM3.out.set 2 (.string ⟨(t1 : List UInt8).toArray⟩)); with_reducible refine hq.mono ?_; clear hq; rintro e w4 ⟨rfl, hm⟩; have cl := hm.mem; have nl := hm.nlb; have c4_0 := hm.cell (i := 3) rfl; have fz4_0 := hm.free 3; have c4_1 := hm.cell (i := 4) rfl; have fz4_1 := hm.free 4; have c4_2 := hm.cell (i := 5) rfl; have fz4_2 := hm.free 5; have c4_3 := hm.cell (i := 6) rfl; have fz4_3 := hm.free 6; have c4_4 := hm.cell (i := 7) rfl; have fz4_4 := hm.free 7; have HM4 := Lib.hid hm; clear hm)
  go_upto_region 16 with (go_at_call 145; have hq := ms_table f7 HB.out.2.2.1 HB.out.2.2.2 _ (((((HM4.out.set 3 (.bool (decide (v0 > 0)))).set 4 (.bool (decide (v1 > 0)))).set 5 (.bool (decide (v2 > 0)))).set 6 (.bool (decide (v3 > 0)))).set 7 (.bool (decide (v4 > 0)))); with_reducible refine hq.mono ?_; clear hq; rintro e w5 ⟨tb, rfl, hm⟩; have c5 := hm.cell (i := 8) rfl; have fz5 := hm.free 8; have HM5 := Lib.hid hm; clear hm)
  go_wp2
  go_ret
  obtain ⟨d0, d1, d2, d3, d4⟩ := HD.out
  have hfin := (HM5.out.set 8 (.map (some tb)))
  simp only [d0, d1, d2, d3, d4] at hfin
  exact ⟨rfl, _, _, hfin⟩
set_option maxHeartbeats 1000000 in
set_option maxRecDepth 100000 in
theorem mr_exchangeDeclareOk  (rest : List UInt8) {w : World} {b d msg : Nat} (h : MS w b d msg 258 [] [] [] rest w) :
    Calls Tryz.prog 100 #[.pointer (some ⟨msg, 0, none⟩), bufR b] w fun e w' => e = .returned .nilIface ∧ ∃ loc, MS w b d msg 258 loc [] [] rest w' := by
  have HM0 := Lib.hid h; clear h
  go_enter Tryz.func100, Tryz.ntmps100
  go_wp2
  go_ret
  exact ⟨rfl, _, HM0.out⟩
/-- impl.told of v. -/
def ToldC (v : Val) : Prop := ∀ (d : Nat) (B : Nat → Prop) (w : World) (x : Value), WfV v → OkV v d → costV v ≤ 2000 → PV B w x v →
  Calls Tryz.prog 150 #[x] w fun e w' => ∃ cs : List Value, e = .returned (.tuple #[.agg cs.toArray, .bool true]) ∧ VHeld (fun b => w.heap.size ≤ b) w' cs (normV v) ∧ Kept [] w w'
/-- impl.fields of a table. -/
def FieldsTC (fs : List Fld) : Prop := ∀ (p : Option (List UInt8)) (d : Nat) (B : Nat → Prop) (w : World) (b : Nat) (es : List (Value × Value)), WfFs fs → OkFs fs p d → costFs fs ≤ 2000 → MapAt w b es → PF B w es fs →
  Calls Tryz.prog 67 #[.map (some b)] w fun e w' => ∃ out, e = .returned (.tuple #[out, .bool true]) ∧ FSl (fun b => w.heap.size ≤ b) w' out (normFs fs) ∧ Kept [] w w'
theorem PF.len {B : Nat → Prop} {w : World} : ∀ (l : List Fld) (es : List (Value × Value)), PF B w es l → es.length = l.length
  | [], es, h => by unfold PF at h; subst h; rfl
  | .mk nm u :: l, es, h => by
    unfold PF at h
    obtain ⟨y, fs, rfl, _, h3⟩ := h
    simp [PF.len l fs h3]
theorem PF.get {B : Nat → Prop} {w : World} : ∀ (l : List Fld) (es : List (Value × Value)), PF B w es l → ∀ (i : Nat) (k u : Value), es[i]? = some (k, u) → ∃ name v, l[i]? = some (.mk name v) ∧ k = .string (bstr name) ∧ PV B w u v
  | [], es, h, i, k, u, hi => by unfold PF at h; subst h; simp at hi
  | .mk nm v :: l, es, h, i, k, u, hi => by
    unfold PF at h
    obtain ⟨y, fs, rfl, h2, h3⟩ := h
    cases i with
    | zero =>
      simp only [List.getElem?_cons_zero, Option.some.injEq, Prod.mk.injEq] at hi
      obtain ⟨rfl, rfl⟩ := hi
      exact ⟨nm, v, rfl, rfl, h2⟩
    | succ i =>
      obtain ⟨name, v', a, c, e⟩ := PF.get l fs h3 i k u (by simpa using hi)
      exact ⟨name, v', by simpa using a, c, e⟩
theorem normFs_get : ∀ (l : List Fld) (i : Nat) (name : List UInt8) (v : Val), l[i]? = some (.mk name v) → (normFs l)[i]? = some (.mk name (normV v))
  | [], i, name, v, h => by simp at h
  | .mk nm u :: l, i, name, v, h => by
    unfold normFs
    cases i with
    | zero => simp only [List.getElem?_cons_zero, Option.some.injEq, Fld.mk.injEq] at h ⊢; obtain ⟨rfl, rfl⟩ := h; exact ⟨rfl, rfl⟩
    | succ i => simpa using normFs_get l i name v (by simpa using h)
instance : Inhabited Fld := ⟨Fld.zero⟩
theorem normFs_lenF (l : List Fld) : (normFs l).length = l.length := by
  induction l with
  | nil => rfl
  | cons x l ih => cases x with | mk name v => simp [normFs, ih]
theorem ownIFld : (Tryz.prog.info? 153).map (fun i => (i.zero.map (·.cells.size), i.size, i.bytes)) = some (some 8, 8, 112) := by kernel_rfl
theorem nodup_len : ∀ (n : Nat) (l : List Nat), l.Nodup → (∀ i ∈ l, i < n) → l.length ≤ n
  | 0, l, _, h => by
    cases l with
    | nil => exact Nat.le_refl _
    | cons a l => exact absurd (h a (by simp)) (by omega)
  | n + 1, l, hd, h => by
    by_cases hm : n ∈ l
    · have := nodup_len n (l.erase n) (hd.erase n) fun i hi => by
        have h1 := (List.Nodup.mem_erase_iff hd).1 hi
        have := h i h1.2
        omega
      rw [List.length_erase_of_mem hm] at this
      omega
    · have := nodup_len n l hd fun i hi => by
        have := h i hi
        have : i ≠ n := fun e => hm (e ▸ hi)
        omega
      omega
theorem ItAt.seen {w : World} {r b n : Nat} {is : List Nat} (h : ItAt w r b n is) : (w.iterSeen r).size = is.length := by
  have h : w.heap[r]? = some (.mapIter (some b) n is.toArray n) := h
  unfold World.iterSeen
  rw [h]
  simp
/-- All entries have come: the fields that were told, in their order. -/
theorem told_all (fs : List Fld) (p : Option (List UInt8)) (d : Nat) (hok : OkFs fs p d) (n : Nat) (hn : n = fs.length) (is : List Nat) (h1 : is.Nodup) (h2 : ∀ i ∈ is, i < n) (h3 : ∀ i, i < n → i ∈ is) (l : List Fld) (hl : l.Perm (is.map (fun i => (normFs fs)[i]!))) (hs : l.Pairwise (fun x y => Op.bytesLess y.name x.name = false)) : l = normFs fs := by
  refine sorted_unique _ (OkFs.pairs _ _ _ (ok_normFs fs p d hok)) l ?_ hs
  refine hl.trans (((range_perm h1 h2 h3).map _).trans ?_)
  rw [hn, ← normFs_lenF fs, range_map]
set_option maxHeartbeats 1000000 in
set_option maxRecDepth 100000 in
theorem fieldsT_of (fs : List Fld) (hv : ∀ x, x ∈ fs → ToldC x.val) : FieldsTC fs := by
  intro p d B w b es hwf hok hcost hm hpf
  obtain ⟨n, hn⟩ : ∃ n, n = es.length := ⟨_, rfl⟩
  have hlen : es.length = fs.length := PF.len fs es hpf
  have hn2 : n ≤ 2000 := by have := costFs_len fs; omega
  obtain ⟨i, z, i1, i2, i3, i4, i5⟩ := info_own ownIFld
  have HI := Lib.hid (And.intro i1 (And.intro i2 (And.intro i3 (And.intro i4 i5)))); clear i1 i2 i3 i4 i5
  have H := Lib.hid (And.intro hwf (And.intro hok (And.intro hcost (And.intro hm (And.intro hpf (And.intro hv (And.intro hn hlen)))))))
  clear hwf hok hcost hm hpf hv hn hlen
  go_enter Tryz.func67, Tryz.ntmps67
  go_wp2_with (at_range; refine wpList_range_map rfl _ 96 rfl 9 20 Tryz.underlying96 b es rfl H.out.2.2.2.1 ?_; intro w1 hw1; have hk1 : Kept [] w w1 := by { rw [hw1]; exact (Kept.refl [] w).alloc _ }; have hi1 : ItAt w1 w.heap.size b n [] := by { rw [hw1, H.out.2.2.2.2.2.2.1]; exact heap_alloc_new w _ }; have hz1 : w1.heap.size = w.heap.size + 1 := by { rw [hw1]; simp }; have H1 := Lib.hid (And.intro hk1 (And.intro hi1 hz1)); clear hk1 hi1 hz1 hw1)
  go_frame
  go_loopw [4] (fun out W => ∃ (is : List Nat) (xs : List (FEl × Fld)), Hid (is.Nodup ∧ (∀ i ∈ is, i < n) ∧ xs.map Prod.snd = is.map (fun i => (normFs fs)[i]!) ∧ xs.length = is.length ∧ ItAt W w.heap.size b n is ∧
    OwnE 153 8 PF8 (w.heap.size + 1) W out xs ∧ Kept [] w W)) (fun _ W => n - (W.iterSeen w.heap.size).size)
  case atStart => exact ⟨[], [], Lib.hid ⟨List.nodup_nil, by simp, rfl, rfl, H1.out.2.1, OwnE.nil _ _ _ _ _, H1.out.1⟩⟩
  case round =>
    obtain ⟨is, xs, HR⟩ := hrel
    obtain ⟨cells, o1, o2, o3⟩ := HR.out.2.2.2.2.2.1
    obtain ⟨ao, oc, rfl, hoc, hoo⟩ := own_slice o1
    have hit : ItAt wr w.heap.size b es.length is := by have := HR.out.2.2.2.2.1; rwa [H.out.2.2.2.2.2.2.1] at this
    have hmr : MapAt wr b es := H.out.2.2.2.1.kept HR.out.2.2.2.2.2.2 (by simp)
    have HO := Lib.hid (And.intro o1 (And.intro o2 (And.intro o3 (And.intro hoc hoo)))); have HT := Lib.hid (And.intro hit hmr)
    clear o1 o2 o3 hoc hoo hit hmr
    go_wp2_with (at_next; refine wpList_next_map rfl _ rfl w.heap.size b es is rfl HT.out.1 HT.out.2 ?_ ?_)
    · intro hall
      have HALL := Lib.hid hall; clear hall
      rcases HO.out.2.2.2.2 with ⟨hx0, rfl, rfl, hob⟩ | ⟨g, rfl, hg, hcell⟩
      · have hxs : xs = [] := List.eq_nil_of_length_eq_zero hx0
        subst hxs
        have hsn := sort_nil (.func (.func 152) #[] #[]) wr
        have HS := Lib.hid hsn; clear hsn hx0 hob
        go_wp2_with (go_at_call 151; refine HS.out.mono ?_; rintro e w5 ⟨rfl, hk5⟩; have H5 := Lib.hid hk5; clear hk5)
        go_ret2
        have hfs : fs = [] := by
          have h4 := HR.out.2.2.2.1
          have h5 := HALL.out
          have h6 : is = [] := List.eq_nil_of_length_eq_zero (by simpa using h4.symm)
          rw [h6, H.out.2.2.2.2.2.2.2] at h5
          cases fs with
          | nil => rfl
          | cons x l => exact absurd (h5 0 (by simp)) (by simp)
        rw [hfs]
        refine ⟨_, rfl, ⟨none, 0, rfl, Nat.le_refl _, fun h => absurd rfl h, by unfold normFs FAt; trivial⟩, HR.out.2.2.2.2.2.2.trans H5.out (by simp)⟩
      · have hsa := sort_any xs (w.heap.size + 1) wr _ g hg HR.out.2.2.2.2.2.1 (by have := nodup_len n is HR.out.1 HR.out.2.1; have := HR.out.2.2.2.1; omega)
        have HS := Lib.hid hsa; have HG := Lib.hid hg; clear hsa hg hcell
        go_wp2_with (go_at_call 151; refine HS.out.mono ?_; rintro e w5 ⟨rfl, ys, y1, y2, y3, y4⟩; have H5 := Lib.hid (And.intro y1 (And.intro y2 (And.intro y3 y4))); clear y1 y2 y3 y4)
        go_ret2
        have hys : ys.map Prod.snd = normFs fs := told_all fs p d H.out.2.1 n (by rw [H.out.2.2.2.2.2.2.1, H.out.2.2.2.2.2.2.2]) is HR.out.1 HR.out.2.1 (fun i hi => HALL.out i (by rw [← H.out.2.2.2.2.2.2.1]; exact hi)) _ (by rw [← HR.out.2.2.1]; exact H5.out.1.map _) H5.out.2.1
        have hfin := H5.out.2.2.1
        rw [hys] at hfin
        have hgb := HO.out.2.2.1 g HG.out
        exact ⟨_, rfl, hfin.mono (fun b hb _ => by omega), HR.out.2.2.2.2.2.2.trans H5.out.2.2.2 (fun x hx => .inr (by simp at hx; omega))⟩
    · intro i0 k u w2 hni hei hit2 hk2 hs2 hen
      obtain ⟨name, v, hfv, rfl, hpv⟩ := PF.get fs es H.out.2.2.2.2.1 i0 k u hei
      have hkw2 : Kept [] w w2 := HR.out.2.2.2.2.2.2.trans hk2 (fun x hx => .inr (by simp at hx; omega))
      have htc := H.out.2.2.2.2.2.1 (.mk name v) (List.mem_of_getElem? hfv) d B w2 u (WfFs.get fs H.out.1 i0 name v hfv).2 (OkFs.get fs p d H.out.2.1 i0 name v hfv).2 (by show costV v ≤ 2000; have := costFs_get fs i0 name v hfv; have := H.out.2.2.1; omega) (PV.kept hkw2 (by simp) v hpv)
      have HTC := Lib.hid htc; have HE := Lib.hid (And.intro hni (And.intro hfv (And.intro hit2 (And.intro hk2 hkw2))))
      clear htc hni hfv hit2 hk2 hkw2 hs2 hei hpv
      have hol : ∀ g, Value.ownBlock (.slice ao xs.length oc) = some g → g < wr.heap.size := fun g hg => own_lt HO.out.1 hg
      have hxl : xs.length ≤ 2000 := by have := nodup_len n is HR.out.1 HR.out.2.1; have := HR.out.2.2.2.1; omega
      have HOL := Lib.hid hol; clear hol
      go_wp2_with (first
        | (go_at_call 150; refine HTC.out.mono ?_; rintro e w3 ⟨cs2, rfl, v1, v2⟩; obtain ⟨b0, b1, b2, b3, b4, b5, b6, rfl⟩ := v1.seven; have H3 := Lib.hid (And.intro v1 v2); clear v1 v2)
        | (refine wpList_store_row (P := Tryz.prog) rfl rfl 151 (.tmp 7) (.tmp 19) rfl w3.heap.size rfl 151 _ [b0, b1, b2, b3, b4, b5, b6] (Blk.new w3 _ _) rfl rfl H3.out.1.one size_iVal ?_; intro w4 hb4 hk4; obtain ⟨c0, c1, c2, c3, c4, c5, c6⟩ := cells7 hb4;
           have hkB : Kept [] w2 (w4.alloc (.cells #[.string (bstr name), b0, b1, b2, b3, b4, b5, b6] 153)) := (((H3.out.2.alloc _).trans hk4 (fun x hx => .inr (by have := H3.out.2.size; simp at hx; omega)))).alloc _;
           have hkA : Kept [w.heap.size] wr (w4.alloc (.cells #[.string (bstr name), b0, b1, b2, b3, b4, b5, b6] 153)) := HE.out.2.2.2.1.trans hkB (by simp);
           have hmv := own_move bears_pf8 HO.out.1 HO.out.2.1 HO.out.2.2.1 (S := [w.heap.size]) (fun b hb => by simp; omega) hkA;
           have H4 := Lib.hid (And.intro hb4 (And.intro hk4 (And.intro hkB (And.intro hkA hmv)))); clear hb4 hk4 hkB hkA hmv)
        | (at_builtin; refine wpList_append2 _ rfl _ _ 31 31 rfl 153 153 Tryz.underlying31 i z 8 112 Tryz.underlying31 HI.out.1 HI.out.2.1 HI.out.2.2.1 HI.out.2.2.2.1 HI.out.2.2.2.2 (by decide) (.slice ao xs.length oc) xs.length cells rfl H4.out.2.2.2.2.1 ⟨w4.heap.size, 0, none⟩ 1 1 [.string (bstr name), b0, b1, b2, b3, b4, b5, b6] rfl rfl (cells_new w4 _ _) (by intro u hu; rcases List.mem_cons.1 hu with rfl | hu; rfl; exact H3.out.1.one u hu) (by omega) (by omega) ?_; intro v' w8 g1 g2 g3; have H8 := Lib.hid (And.intro g1 (And.intro g2 g3)); clear g1 g2 g3))
      go_roundw
      case rel =>
        have hsz2 := HE.out.2.2.2.1.size
        have hszA := H4.out.2.2.1.size
        have hszr := HR.out.2.2.2.2.2.2.size
        have hitl := HT.out.1.lt
        have hpx : PF8 (fun b => w.heap.size + 1 ≤ b ∧ Value.ownBlock (.slice ao xs.length oc) ≠ some b) (w4.alloc (.cells #[.string (bstr name), b0, b1, b2, b3, b4, b5, b6] 153)) [.string (bstr name), b0, b1, b2, b3, b4, b5, b6] (⟨name, [b0, b1, b2, b3, b4, b5, b6], rfl, H3.out.1.one⟩, .mk name (normV v)) :=
          ⟨rfl, rfl, VHeld.kept (S := []) (((Kept.refl [] w3).alloc _).trans H4.out.2.1 (fun x hx => .inr (by simp at hx; omega)) |>.alloc _) (by simp) _ (VHeld.mono (fun b hb _ => ⟨by omega, fun e => by have := HOL.out b e; omega⟩) _ H3.out.1)⟩
        obtain ⟨p1, p2⟩ := OwnE.push bears_pf8 H4.out.2.2.2.2.2 HO.out.2.2.1 (by omega) hpx H8.out.1 H8.out.2.1 H8.out.2.2
        have hgr : w.heap.size ∉ (Value.ownBlock (.slice ao xs.length oc)).toList := fun hm => by have := HO.out.2.2.1 _ (by simpa using hm); omega
        refine ⟨is ++ [i0], _, Lib.hid ⟨?_, ?_, ?_, by simp [HR.out.2.2.2.1], ?_, p1, ?_⟩⟩
        · rw [List.nodup_append]
          refine ⟨HR.out.1, by simp, fun a ha b hb e => ?_⟩
          simp at hb
          subst hb; subst e
          exact HE.out.1 ha
        · intro j hj
          rcases List.mem_append.1 hj with hj | hj
          · exact HR.out.2.1 j hj
          · simp at hj
            subst hj
            rw [H.out.2.2.2.2.2.2.1, H.out.2.2.2.2.2.2.2]
            exact (List.getElem?_eq_some_iff.1 HE.out.2.1).1
        · rw [List.map_append, List.map_append, HR.out.2.2.1]
          have := normFs_get fs i0 name v HE.out.2.1
          simp [this]
        · have := (HE.out.2.2.1.kept H4.out.2.2.1 (by simp)).kept p2 hgr
          rwa [← H.out.2.2.2.2.2.2.1] at this
        · exact (HE.out.2.2.2.2.trans H4.out.2.2.1 (by simp)).trans p2 (fun x hx => .inr (by have := HO.out.2.2.1 x (by simpa using hx); omega))
      case measure =>
        have hsz2 := HE.out.2.2.2.1.size
        have hitl := HT.out.1.lt
        have hgr : w.heap.size ∉ (Value.ownBlock (.slice ao xs.length oc)).toList := fun hm => by have := HO.out.2.2.1 _ (by simpa using hm); omega
        have hk8 : Kept (Value.ownBlock (.slice ao xs.length oc)).toList (w4.alloc (.cells #[.string (bstr name), b0, b1, b2, b3, b4, b5, b6] 153)) w8 := (Kept.refl _ _).grown H8.out.2.1 (fun k hk => .inl (by simp [hk]))
        rw [((HE.out.2.2.1.kept H4.out.2.2.1 (by simp)).kept hk8 hgr).seen, HT.out.1.seen]
        have := nodup_len n (is ++ [i0]) (by
          rw [List.nodup_append]
          refine ⟨HR.out.1, by simp, fun a ha b hb e => ?_⟩
          simp at hb
          subst hb; subst e
          exact HE.out.1 ha) (by
          intro j hj
          rcases List.mem_append.1 hj with hj | hj
          · exact HR.out.2.1 j hj
          · simp at hj
            subst hj
            rw [H.out.2.2.2.2.2.2.1, H.out.2.2.2.2.2.2.2]
            exact (List.getElem?_eq_some_iff.1 HE.out.2.1).1)
        simp at this ⊢
        omega
set_option maxHeartbeats 1000000 in
set_option maxRecDepth 100000 in
/-- A nil table has no fields. -/
theorem fieldsT_nil (w : World) : Calls Tryz.prog 67 #[.map none] w fun e w' => e = .returned (.tuple #[.slice none 0 0, .bool true]) ∧ Kept [] w w' := by
  have hsn := fun w => sort_nil (.func (.func 152) #[] #[]) w
  have HS := Lib.hid hsn; clear hsn
  go_enter Tryz.func67, Tryz.ntmps67
  go_wp2_with (at_range; refine wpList_range_nil rfl _ 96 rfl 9 20 Tryz.underlying96 rfl ?_; intro w1 hw1; have HW := Lib.hid hw1; have hnx : ∀ ty, (Instr.next (.pointer (some ⟨w.heap.size, 0, none⟩)) false ty).run Tryz.prog w1 = .ok (.tuple #[.bool false]) w1 := by { intro ty; rw [hw1]; exact run_next_nilMap w ty 0 0 #[] }; clear hw1)
  refine wp_loop_rounds 1 ?_
  rw [rounds_succ]
  go_wp2_with (go_at_call 151; refine (HS.out _).mono ?_; rintro e w5 ⟨rfl, hk5⟩; have H5 := Lib.hid hk5; clear hk5)
  go_ret2
  have hk1 : Kept [] w w1 := by rw [HW.out]; exact (Kept.refl [] w).alloc _
  exact ⟨rfl, hk1.trans H5.out (by simp)⟩
end Go.Proofs.YtkcdakohmfodjaaGreat
