/-
  ParseFrame: what it answers where the frame cannot be read.
-/
import Derived.Test.YtkcdakohmfodjaaGreatZz
import Derived.Test.YtkcdakohmfodjaaGreatQuiet
import Derived.Test.YtkcdakohmfodjaaGreatRow
namespace Go.Proofs.YtkcdakohmfodjaaGreat
open Go.RowKit
set_option linter.unusedVariables false
set_option linter.unusedSimpArgs false

/-- The zero of a frame's methods, properties and all: its forty cells. -/
def frame0 : List Value :=
  [.int .i64 0, .int .i64 0, .int .i64 0, .int .i64 0, .slice none 0 0, .int .i64 0, .int .u64 0,
   .bool false, .bool false, .bool false, .bool false, .bool false, .bool false, .bool false, .bool false, .bool false, .bool false, .bool false, .bool false, .bool false, .bool false,
   .string .empty, .string .empty, .string .empty, .string .empty, .string .empty, .string .empty, .string .empty, .string .empty, .string .empty, .string .empty, .string .empty, .string .empty, .string .empty, .string .empty,
   .int .i64 0, .int .i64 0, .int .i64 0, .slice none 0 0, .slice none 0 0]

theorem frame_size : (Tryz.prog.info? 35).map (·.size) = some 40 := by kernel_rfl
theorem frame_zero : (Tryz.prog.info? 35).map (·.zero) = some (some (.agg frame0.toArray)) := by kernel_rfl
theorem frame0_one : ∀ u ∈ frame0, u.oneCell' = true := by decide +kernel

theorem zero_frame (w : World) : (zeroValue 35).run Tryz.prog w = .ok (.agg frame0.toArray) w := by kernel_rfl
theorem alloc_frame (w : World) : (Instr.alloc 35 true (.tuple #[])).run Tryz.prog w = .ok (.pointer (some ⟨w.heap.size, 0, none⟩)) (w.alloc (.cells frame0.toArray 35)) := by kernel_rfl
theorem build_frame (w : World) : (Instr.build 35 #[]).run Tryz.prog w = .ok (.agg frame0.toArray) w := by kernel_rfl

set_option maxHeartbeats 400000 in
theorem parse1_bad (dt f ok re : Nat) (s : Value) (w : World) (hd : w.cell? ⟨dt, 0, none⟩ = some s) (hs : ∃ ao n c, s = .slice ao n c)
    (hp : Calls Tryz.prog 24 #[s, .int .u32 0] w fun e w' => ∃ (F v : Value) (n : Nat), e = .returned (.tuple #[F, .int .i64 (n : Int), v]) ∧ Err' v ∧ Kept [] w w') :
    Calls Tryz.prog 23 #[.pointer (some ⟨dt, 0, none⟩), .pointer (some ⟨f, 0, none⟩), .pointer (some ⟨ok, 0, none⟩), .pointer (some ⟨re, 0, none⟩)] w fun e w' =>
      e = .returned (.tuple #[]) ∧ Kept [] w w' := by
  obtain ⟨ao, n, c, rfl⟩ := hs
  have HP := Lib.hid hp; clear hp
  go_enter Tryz.func23, Tryz.ntmps23
  go_wp2_with (go_at_call 24; refine HP.out.mono ?_; rintro e w' ⟨F, v, n, rfl, hv, hk⟩; have HK := Lib.hid hk; clear hk; rcases hv with (rfl | rfl) | ⟨p, rfl⟩)
  all_goals
    go_end0
    exact ⟨rfl, HK.out⟩

theorem results_parse {tmps : Array Value} {f re ok : Nat} {cs : Array Value} {x y : Value} {w : World} (h1 : tmps.getD 2 undef = .pointer (some ⟨f, 0, none⟩)) (h2 : tmps.getD 3 undef = .pointer (some ⟨re, 0, none⟩)) (h3 : tmps.getD 4 undef = .pointer (some ⟨ok, 0, none⟩))
    (hf : Blk w f cs 35) (hs : cs.size = 40) (hr : w.cell? ⟨re, 0, none⟩ = some x) (ho : w.cell? ⟨ok, 0, none⟩ = some y) :
    (results Tryz.f9 tmps).run Tryz.prog w = .ok (.tuple #[.agg cs, x, y]) w := by
  have hl := run_loadVar_row (P := Tryz.prog) w f 35 35 cs (0, 0) _ hf Tryz.underlying35 rfl (by rw [hs]; exact frame_size)
  simp only [Array.getD_eq_getD_getElem?] at h1 h2 h3
  have hl3 : (loadVar 3 ⟨re, 0, none⟩).run Tryz.prog w = .ok x w := by simp [go_sem, loadVar, hr]
  have hl4 : (loadVar 4 ⟨ok, 0, none⟩).run Tryz.prog w = .ok y w := by simp [go_sem, loadVar, ho]
  simp [results, Tryz.results9, h1, h2, h3, asAddr, hl, hl3, hl4]

set_option maxHeartbeats 1000000 in
theorem parse_bad (s : Value) (w : World) (hs : ∃ ao n c, s = .slice ao n c)
    (hp : ∀ w1, Kept [] w w1 → Calls Tryz.prog 24 #[s, .int .u32 0] w1 fun e w' => ∃ (F v : Value) (n : Nat), e = .returned (.tuple #[F, .int .i64 (n : Int), v]) ∧ Err' v ∧ Kept [] w1 w') :
    Calls Tryz.prog 9 #[s] w fun e w' => e = .returned (.tuple #[.agg frame0.toArray, .int .i64 0, .bool false]) ∧ Kept [] w w' := by
  obtain ⟨ao, n, c, rfl⟩ := hs
  have ha := alloc_frame
  have hbf := build_frame
  have hmf := mf_any
  obtain ⟨wa, hwa⟩ : ∃ wa, wa = (((w.alloc (.cells #[.slice ao n c] 22)).alloc (.cells frame0.toArray 35)).alloc (.cells #[.int .i64 0] 3)).alloc (.cells #[.bool false] 4) := ⟨_, rfl⟩
  have hka : Kept [] w wa := by subst hwa; exact ((((Kept.refl [] w).alloc _).alloc _).alloc _).alloc _
  have hb0 : Blk wa w.heap.size #[.slice ao n c] 22 := by subst hwa; exact (((Blk.new w _ _).alloc _).alloc _).alloc _
  have hb1 : Blk wa (w.heap.size + 1) frame0.toArray 35 := by subst hwa; exact ((Blk.new_at (by simp)).alloc _).alloc _
  have hb2 : Blk wa (w.heap.size + 1 + 1) #[.int .i64 0] 3 := by subst hwa; exact (Blk.new_at (by simp)).alloc _
  have hb3 : Blk wa (w.heap.size + 1 + 1 + 1) #[.bool false] 4 := by subst hwa; exact Blk.new_at (by simp)
  have hsz : wa.heap.size = w.heap.size + 1 + 1 + 1 + 1 := by subst hwa; simp
  have hkq : Kept [] wa (wa.alloc (.cells #[.bool false] 4)) := (Kept.refl [] wa).alloc _
  have hc1 := parse1_bad w.heap.size (w.heap.size + 1) (w.heap.size + 1 + 1 + 1) (w.heap.size + 1 + 1) (.slice ao n c) (wa.alloc (.cells #[.bool false] 4)) (hb0.kept hkq (by simp)).cell0 ⟨ao, n, c, rfl⟩ (hp _ (hka.trans hkq (by simp)))
  have hq := quietly_parse _ _ _ _ wa (fun w' => Kept [] (wa.alloc (.cells #[.bool false] 4)) w') (fun w' hk => (Blk.new wa _ _).kept hk (by simp)) hc1
  have HQ := Lib.hid hq; have HA := Lib.hid (And.intro hka (And.intro hkq (And.intro hb1 (And.intro hb2 hb3)))); have HZ := Lib.hid hsz
  have HW := Lib.hid hwa
  clear hq hc1 hka hkq hb0 hb1 hb2 hb3 hsz hp hwa
  go_enter Tryz.func9, Tryz.ntmps9
  go_wp2_with fail
  have hq := HQ.out
  rw [HW.out] at hq
  refine hq.mono ?_
  clear hq
  rintro e w' ⟨rfl, w1, hk1, rfl⟩
  rw [← HW.out] at hk1
  rw [← HW.out, HZ.out]
  obtain ⟨a1, a2, a3, a4, a5⟩ := HA.out
  have hkw : Kept [] wa w1 := a2.trans hk1 (by simp)
  have hks : Kept [wa.heap.size] w1 (w1.setCell ⟨wa.heap.size, 0, none⟩ (.bool true)) := (Kept.refl _ w1).setCell (by simp) _
  rw [HZ.out] at hks
  have b1 := (a3.kept hkw (by simp)).kept hks (by simp)
  have b2 := (a4.kept hkw (by simp)).kept hks (by simp)
  have b3 := (a5.kept hkw (by simp)).kept hks (by simp)
  have hkf : Kept [] w (w1.setCell ⟨w.heap.size + 1 + 1 + 1 + 1, 0, none⟩ (.bool true)) := (a1.trans hkw (by simp)).setCell (by simp; omega) _
  generalize w1.setCell ⟨w.heap.size + 1 + 1 + 1 + 1, 0, none⟩ (.bool true) = w2 at b1 b2 b3 hkf ⊢
  have q2 := b2.cell0
  have q3 := b3.cell0
  have f2 := b2.free 0
  have f3 := b3.free 0
  have HB := Lib.hid (And.intro b1 (And.intro b2 (And.intro b3 hkf)))
  clear b1 b2 b3 hkf hks hkw a1 a2 a3 a4 a5 hk1
  go_wp2_with (refine wpList_store_row rfl rfl 35 (.tmp 2) (.tmp 14) rfl (w.heap.size + 1) rfl 35 frame0 frame0 HB.out.1 rfl rfl frame0_one frame_size ?_; intro w3 g1 g2; have q2 := (HB.out.2.1.kept g2 (nin1 (by omega))).cell0; have q3 := (HB.out.2.2.1.kept g2 (nin1 (by omega))).cell0; have f2 := (HB.out.2.1.kept g2 (nin1 (by omega))).free 0; have f3 := (HB.out.2.2.1.kept g2 (nin1 (by omega))).free 0; have HG := Lib.hid (And.intro g1 g2); clear g1 g2)
  have r2 := HB.out.2.1.kept HG.out.2 (nin1 (by omega))
  have r3 := HB.out.2.2.1.kept HG.out.2 (nin1 (by omega))
  have r1 := HG.out.1
  have hk3 : Kept [] w w3 := HB.out.2.2.2.trans HG.out.2 (by simp)
  refine bodyPost_ret (v := .tuple #[.agg frame0.toArray, .int .i64 0, .bool false]) (results_parse (f := w.heap.size + 1) (re := w.heap.size + 1 + 1) (ok := w.heap.size + 1 + 1 + 1) rfl rfl rfl ?_ rfl ?_ ?_) rfl ⟨rfl, ?_⟩
  · exact (r1.setCell_other (by simp only []; omega) _).setCell_other (by simp only []; omega) _
  · exact ((r2.setCell 0 (.int .i64 0)).setCell_other (by simp only []; omega) _).cell0
  · exact ((r3.setCell_other (by simp only []; omega) _).setCell 0 (.bool false)).cell0
  · exact (hk3.setCell (by simp; omega) _).setCell (by simp; omega) _

end Go.Proofs.YtkcdakohmfodjaaGreat
