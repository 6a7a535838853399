/-
  Lemmas on the way to the statement of YtkcdakohmfodjaaGreatMethodRead, joined out of these texts: Pw7. No condition.
-/
import Derived.Test.YtkcdakohmfodjaaGreatNPw
namespace Go.Proofs.YtkcdakohmfodjaaGreat
open Go.RowKit
set_option linter.unusedVariables false
set_option linter.unusedSimpArgs false
set_option maxHeartbeats 16000000 in
set_option maxRecDepth 100000 in
theorem pmw_7 : PmW 90 10 135 350 349 [] ∧
    PmW 90 11 136 352 351 [] ∧
    PmW 90 20 137 354 353 [] ∧
    PmW 90 21 138 356 355 [] ∧
    PmW 90 30 139 358 357 [] ∧
    PmW 90 31 140 360 359 [] ∧
    PmW 85 10 141 363 361 [.bool false] ∧
    PmW 85 11 142 365 364 [] := by
  refine ⟨?_, ?_, ?_, ?_, ?_, ?_, ?_, ?_⟩ <;>
    (refine pmw_mk fun c m hc hm => ?_
     have HC := Lib.hid (And.intro hc hm); clear hc hm
     intro bs rest L Q ch sz w rr mb b d hread hmsg h hl
     have hm0 := pm_start h hl [.int .u16 (ch : Int), .int .u16 0, .int .u16 0, .nilIface] 130
     obtain ⟨w1, hw1⟩ : ∃ w1, w1 = w.alloc (.cells [.int .u16 (ch : Int), .int .u16 0, .int .u16 0, .nilIface].toArray 130) := ⟨_, rfl⟩
     have q1 : w1.cell? ⟨rr, 0, none⟩ = some (bufR b) := by rw [hw1]; exact pm_rr h hm0
     have HH := Lib.hid (And.intro h hm0); have HW := Lib.hid hw1; have HR := Lib.hid (And.intro hread hmsg)
     clear h hl hm0 hw1 hread hmsg
     go_enter Tryz.func60, Tryz.ntmps60
     go_wp2_with fail
     rw [show w.alloc _ = w1 from HW.out.symm]
     go_still_tail 8, (by kernel_rfl)
     change wpList _ _ _ _ _ w1.drew
     go_upto_region 4 with (go_at_call 77; have hq := ms_u16 c (by rw [HC.out.1]; decide) _ (by have := HH.out.2; rw [← HW.out] at this; exact this.drew) 1 _ rfl; refine hq.mono ?_; clear hq; rintro e w2 ⟨rfl, hm⟩; have q2 : w2.cell? ⟨rr, 0, none⟩ = some (bufR b) := by { rw [HW.out] at hm; exact pm_rr HH.out.1 hm }; have HM2 := Lib.hid hm; clear hm)
     go_still_tail 8, (by kernel_rfl)
     change wpList _ _ _ _ _ w2.drew
     go_upto_region 6 with (go_at_call 77; have hq := ms_u16 m (by rw [HC.out.2]; decide) _ HM2.out.drew 2 _ rfl; refine hq.mono ?_; clear hq; rintro e w3 ⟨rfl, hm⟩; have q3 : w3.cell? ⟨rr, 0, none⟩ = some (bufR b) := by { rw [HW.out] at hm; exact pm_rr HH.out.1 hm }; have c1 := hm.cell (i := 1) rfl; have c2 := hm.cell (i := 2) rfl; rw [HC.out.1, Int.cast_ofNat_Int] at c1; rw [HC.out.2, Int.cast_ofNat_Int] at c2; have q4 := fun (Z : Array Value) T => ((Kept.refl [] w3).alloc (.cells Z T)).cell q3 (by simp); have HM3 := Lib.hid hm; clear hm)
     go_wp2_with (have hq := HR.out.1 _ _ (pm_msg HH.out.1 (by have := HM3.out; rw [HW.out] at this; exact this) _); (with_reducible refine hq.mono ?_); clear hq; rintro e w5 ⟨rfl, loc, tabs, cells, hQ, hm⟩; have hfr := pm_frame HH.out.1 (by have := HM3.out; rw [HW.out] at this; exact this) hm; have z3 : w5.cell? ⟨w.heap.size, 3, none⟩ = some .nilIface := hfr.1.cell 3; have y3 := hfr.1.free 3; have H5 := Lib.hid (And.intro hm hQ); clear hm hfr hQ)
     go_ret2
     exact ⟨_, rfl, pm_end HH.out.1 (by have := HM3.out; rw [HW.out] at this; exact this) H5.out.1 (HR.out.2 _ _ H5.out.2)⟩)
end Go.Proofs.YtkcdakohmfodjaaGreat
