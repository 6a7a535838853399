/-
  Lemmas on the way to the statement of YtkcdakohmfodjaaGreatMethodRead, joined out of these texts: Parg. No condition.
-/
import Derived.Test.YtkcdakohmfodjaaGreatMAJ
import Derived.Test.YtkcdakohmfodjaaGreatMAL
namespace Go.Proofs.YtkcdakohmfodjaaGreat
open Go.RowKit
set_option linter.unusedVariables false
set_option linter.unusedSimpArgs false
theorem bstr_ne (l : List UInt8) (h : l ≠ []) : ¬ bstr l = ⟨#[]⟩ := fun e => h (by have := congrArg (fun s => s.data) e; simpa [bstr] using this)
set_option maxHeartbeats 4000000 in
set_option maxRecDepth 100000 in
theorem parg_111 (B : Nat → Prop) (a : MArg) (tv : Value) (w : World) (h : FSl B w tv a.tab) (hwf : WfA a) :
    Calls Tryz.prog 28 #[.int .u8 111, .agg #[.int .i64 a.kind, .int .u64 (a.n : Int), .string (bstr a.text), tv]] w fun e w' => e = .returned (.bool (properArgB 111 a)) ∧ Kept [] w w' := by
  have HF := Lib.hid h
  obtain ⟨fa, fc, rfl, hfc, _⟩ := id h
  obtain ⟨kd, n, text, tab⟩ := a
  dsimp only at HF ⊢ hfc
  obtain ⟨hw1, hw2, hw3, hw4, hw5, hw6⟩ := hwf
  dsimp only at hw1 hw2 hw3 hw4 hw5 hw6
  have HW := Lib.hid (And.intro hw2 hw3); clear hw2 h hfc
  have hcall := (fits_any _ _ tab (w.alloc (.cells #[.int .i64 kd, .int .u64 (n : Int), .string (bstr text), .slice fa tab.length fc] 77)) (HF.out.kept ((Kept.refl [] w).alloc _) (by simp)) HW.out.1 HW.out.2)
  have HC := Lib.hid hcall; clear hcall
  have hxl : ((bstr text).data.size : Int) = text.length := by simp [bstr]
  by_cases ht : tab.length = 0
  · have ht1 : ¬ (0 : Int) < tab.length := (by omega)
    by_cases hx : text = []
    · by_cases hn0 : n = 0
      · by_cases hk : kd = 0
        · 
          have hm : n ≤ 255 := by omega
          have hm1 : (n : Int) ≤ 255 := by omega
          go_enter Tryz.func28, Tryz.ntmps28
          go_wp2_with fail
          go_ret
          exact ⟨by simp [properArgB, ht, hx, hn0, hk, hm], (Kept.refl [] w).alloc _⟩
        · go_enter Tryz.func28, Tryz.ntmps28
          go_wp2_with fail
          go_ret
          exact ⟨by simp [properArgB, ht, hx, hn0, hk], (Kept.refl [] w).alloc _⟩
      · have hn1 : ¬ (n : Int) = 0 := by omega
        by_cases hk : kd = 0
        · by_cases hm : n ≤ 255
          · have hm1 : (n : Int) ≤ 255 := by omega
            go_enter Tryz.func28, Tryz.ntmps28
            go_wp2_with fail
            go_ret
            exact ⟨by simp [properArgB, ht, hx, hn0, hk, hm], (Kept.refl [] w).alloc _⟩
          · have hm1 : ¬ (n : Int) ≤ 255 := by omega
            go_enter Tryz.func28, Tryz.ntmps28
            go_wp2_with fail
            go_ret
            exact ⟨by simp [properArgB, ht, hx, hn0, hk, hm], (Kept.refl [] w).alloc _⟩
        · go_enter Tryz.func28, Tryz.ntmps28
          go_wp2_with fail
          go_ret
          exact ⟨by simp [properArgB, ht, hx, hn0, hk], (Kept.refl [] w).alloc _⟩
    · have hx1 := bstr_ne text hx
      go_enter Tryz.func28, Tryz.ntmps28
      go_wp2_with fail
      go_ret
      exact ⟨by simp [properArgB, ht, hx], (Kept.refl [] w).alloc _⟩
  · have ht1 : (0 : Int) < tab.length := (by omega)
    go_enter Tryz.func28, Tryz.ntmps28
    go_wp2_with fail
    go_ret
    exact ⟨by simp [properArgB, ht], (Kept.refl [] w).alloc _⟩
set_option maxHeartbeats 4000000 in
set_option maxRecDepth 100000 in
theorem parg_115 (B : Nat → Prop) (a : MArg) (tv : Value) (w : World) (h : FSl B w tv a.tab) (hwf : WfA a) :
    Calls Tryz.prog 28 #[.int .u8 115, .agg #[.int .i64 a.kind, .int .u64 (a.n : Int), .string (bstr a.text), tv]] w fun e w' => e = .returned (.bool (properArgB 115 a)) ∧ Kept [] w w' := by
  have HF := Lib.hid h
  obtain ⟨fa, fc, rfl, hfc, _⟩ := id h
  obtain ⟨kd, n, text, tab⟩ := a
  dsimp only at HF ⊢ hfc
  obtain ⟨hw1, hw2, hw3, hw4, hw5, hw6⟩ := hwf
  dsimp only at hw1 hw2 hw3 hw4 hw5 hw6
  have HW := Lib.hid (And.intro hw2 hw3); clear hw2 h hfc
  have hcall := (fits_any _ _ tab (w.alloc (.cells #[.int .i64 kd, .int .u64 (n : Int), .string (bstr text), .slice fa tab.length fc] 77)) (HF.out.kept ((Kept.refl [] w).alloc _) (by simp)) HW.out.1 HW.out.2)
  have HC := Lib.hid hcall; clear hcall
  have hxl : ((bstr text).data.size : Int) = text.length := by simp [bstr]
  by_cases ht : tab.length = 0
  · have ht1 : ¬ (0 : Int) < tab.length := (by omega)
    by_cases hx : text = []
    · by_cases hn0 : n = 0
      · by_cases hk : kd = 1
        · 
          have hm : n ≤ 65535 := by omega
          have hm1 : (n : Int) ≤ 65535 := by omega
          go_enter Tryz.func28, Tryz.ntmps28
          go_wp2_with fail
          go_ret
          exact ⟨by simp [properArgB, ht, hx, hn0, hk, hm], (Kept.refl [] w).alloc _⟩
        · go_enter Tryz.func28, Tryz.ntmps28
          go_wp2_with fail
          go_ret
          exact ⟨by simp [properArgB, ht, hx, hn0, hk], (Kept.refl [] w).alloc _⟩
      · have hn1 : ¬ (n : Int) = 0 := by omega
        by_cases hk : kd = 1
        · by_cases hm : n ≤ 65535
          · have hm1 : (n : Int) ≤ 65535 := by omega
            go_enter Tryz.func28, Tryz.ntmps28
            go_wp2_with fail
            go_ret
            exact ⟨by simp [properArgB, ht, hx, hn0, hk, hm], (Kept.refl [] w).alloc _⟩
          · have hm1 : ¬ (n : Int) ≤ 65535 := by omega
            go_enter Tryz.func28, Tryz.ntmps28
            go_wp2_with fail
            go_ret
            exact ⟨by simp [properArgB, ht, hx, hn0, hk, hm], (Kept.refl [] w).alloc _⟩
        · go_enter Tryz.func28, Tryz.ntmps28
          go_wp2_with fail
          go_ret
          exact ⟨by simp [properArgB, ht, hx, hn0, hk], (Kept.refl [] w).alloc _⟩
    · have hx1 := bstr_ne text hx
      go_enter Tryz.func28, Tryz.ntmps28
      go_wp2_with fail
      go_ret
      exact ⟨by simp [properArgB, ht, hx], (Kept.refl [] w).alloc _⟩
  · have ht1 : (0 : Int) < tab.length := (by omega)
    go_enter Tryz.func28, Tryz.ntmps28
    go_wp2_with fail
    go_ret
    exact ⟨by simp [properArgB, ht], (Kept.refl [] w).alloc _⟩
set_option maxHeartbeats 4000000 in
set_option maxRecDepth 100000 in
theorem parg_108 (B : Nat → Prop) (a : MArg) (tv : Value) (w : World) (h : FSl B w tv a.tab) (hwf : WfA a) :
    Calls Tryz.prog 28 #[.int .u8 108, .agg #[.int .i64 a.kind, .int .u64 (a.n : Int), .string (bstr a.text), tv]] w fun e w' => e = .returned (.bool (properArgB 108 a)) ∧ Kept [] w w' := by
  have HF := Lib.hid h
  obtain ⟨fa, fc, rfl, hfc, _⟩ := id h
  obtain ⟨kd, n, text, tab⟩ := a
  dsimp only at HF ⊢ hfc
  obtain ⟨hw1, hw2, hw3, hw4, hw5, hw6⟩ := hwf
  dsimp only at hw1 hw2 hw3 hw4 hw5 hw6
  have HW := Lib.hid (And.intro hw2 hw3); clear hw2 h hfc
  have hcall := (fits_any _ _ tab (w.alloc (.cells #[.int .i64 kd, .int .u64 (n : Int), .string (bstr text), .slice fa tab.length fc] 77)) (HF.out.kept ((Kept.refl [] w).alloc _) (by simp)) HW.out.1 HW.out.2)
  have HC := Lib.hid hcall; clear hcall
  have hxl : ((bstr text).data.size : Int) = text.length := by simp [bstr]
  by_cases ht : tab.length = 0
  · have ht1 : ¬ (0 : Int) < tab.length := (by omega)
    by_cases hx : text = []
    · by_cases hn0 : n = 0
      · by_cases hk : kd = 2
        · 
          have hm : n < 4294967296 := by omega
          have hm1 : (n : Int) < 4294967296 := by omega
          go_enter Tryz.func28, Tryz.ntmps28
          go_wp2_with fail
          go_ret
          exact ⟨by simp [properArgB, ht, hx, hn0, hk, hm], (Kept.refl [] w).alloc _⟩
        · go_enter Tryz.func28, Tryz.ntmps28
          go_wp2_with fail
          go_ret
          exact ⟨by simp [properArgB, ht, hx, hn0, hk], (Kept.refl [] w).alloc _⟩
      · have hn1 : ¬ (n : Int) = 0 := by omega
        by_cases hk : kd = 2
        · by_cases hm : n < 4294967296
          · have hm1 : (n : Int) < 4294967296 := by omega
            go_enter Tryz.func28, Tryz.ntmps28
            go_wp2_with fail
            go_ret
            exact ⟨by simp [properArgB, ht, hx, hn0, hk, hm], (Kept.refl [] w).alloc _⟩
          · have hm1 : ¬ (n : Int) < 4294967296 := by omega
            go_enter Tryz.func28, Tryz.ntmps28
            go_wp2_with fail
            go_ret
            exact ⟨by simp [properArgB, ht, hx, hn0, hk, hm], (Kept.refl [] w).alloc _⟩
        · go_enter Tryz.func28, Tryz.ntmps28
          go_wp2_with fail
          go_ret
          exact ⟨by simp [properArgB, ht, hx, hn0, hk], (Kept.refl [] w).alloc _⟩
    · have hx1 := bstr_ne text hx
      go_enter Tryz.func28, Tryz.ntmps28
      go_wp2_with fail
      go_ret
      exact ⟨by simp [properArgB, ht, hx], (Kept.refl [] w).alloc _⟩
  · have ht1 : (0 : Int) < tab.length := (by omega)
    go_enter Tryz.func28, Tryz.ntmps28
    go_wp2_with fail
    go_ret
    exact ⟨by simp [properArgB, ht], (Kept.refl [] w).alloc _⟩
set_option maxHeartbeats 4000000 in
set_option maxRecDepth 100000 in
theorem parg_113 (B : Nat → Prop) (a : MArg) (tv : Value) (w : World) (h : FSl B w tv a.tab) (hwf : WfA a) :
    Calls Tryz.prog 28 #[.int .u8 113, .agg #[.int .i64 a.kind, .int .u64 (a.n : Int), .string (bstr a.text), tv]] w fun e w' => e = .returned (.bool (properArgB 113 a)) ∧ Kept [] w w' := by
  have HF := Lib.hid h
  obtain ⟨fa, fc, rfl, hfc, _⟩ := id h
  obtain ⟨kd, n, text, tab⟩ := a
  dsimp only at HF ⊢ hfc
  obtain ⟨hw1, hw2, hw3, hw4, hw5, hw6⟩ := hwf
  dsimp only at hw1 hw2 hw3 hw4 hw5 hw6
  have HW := Lib.hid (And.intro hw2 hw3); clear hw2 h hfc
  have hcall := (fits_any _ _ tab (w.alloc (.cells #[.int .i64 kd, .int .u64 (n : Int), .string (bstr text), .slice fa tab.length fc] 77)) (HF.out.kept ((Kept.refl [] w).alloc _) (by simp)) HW.out.1 HW.out.2)
  have HC := Lib.hid hcall; clear hcall
  have hxl : ((bstr text).data.size : Int) = text.length := by simp [bstr]
  by_cases ht : tab.length = 0
  · have ht1 : ¬ (0 : Int) < tab.length := (by omega)
    by_cases hx : text = []
    · by_cases hn0 : n = 0
      · by_cases hk : kd = 3
        · go_enter Tryz.func28, Tryz.ntmps28
          go_wp2_with fail
          go_ret
          exact ⟨by simp [properArgB, ht, hx, hn0, hk], (Kept.refl [] w).alloc _⟩
        · go_enter Tryz.func28, Tryz.ntmps28
          go_wp2_with fail
          go_ret
          exact ⟨by simp [properArgB, ht, hx, hn0, hk], (Kept.refl [] w).alloc _⟩
      · have hn1 : ¬ (n : Int) = 0 := by omega
        by_cases hk : kd = 3
        · go_enter Tryz.func28, Tryz.ntmps28
          go_wp2_with fail
          go_ret
          exact ⟨by simp [properArgB, ht, hx, hn0, hk], (Kept.refl [] w).alloc _⟩
        · go_enter Tryz.func28, Tryz.ntmps28
          go_wp2_with fail
          go_ret
          exact ⟨by simp [properArgB, ht, hx, hn0, hk], (Kept.refl [] w).alloc _⟩
    · have hx1 := bstr_ne text hx
      go_enter Tryz.func28, Tryz.ntmps28
      go_wp2_with fail
      go_ret
      exact ⟨by simp [properArgB, ht, hx], (Kept.refl [] w).alloc _⟩
  · have ht1 : (0 : Int) < tab.length := (by omega)
    go_enter Tryz.func28, Tryz.ntmps28
    go_wp2_with fail
    go_ret
    exact ⟨by simp [properArgB, ht], (Kept.refl [] w).alloc _⟩
set_option maxHeartbeats 4000000 in
set_option maxRecDepth 100000 in
theorem parg_83 (B : Nat → Prop) (a : MArg) (tv : Value) (w : World) (h : FSl B w tv a.tab) (hwf : WfA a) :
    Calls Tryz.prog 28 #[.int .u8 83, .agg #[.int .i64 a.kind, .int .u64 (a.n : Int), .string (bstr a.text), tv]] w fun e w' => e = .returned (.bool (properArgB 83 a)) ∧ Kept [] w w' := by
  have HF := Lib.hid h
  obtain ⟨fa, fc, rfl, hfc, _⟩ := id h
  obtain ⟨kd, n, text, tab⟩ := a
  dsimp only at HF ⊢ hfc
  obtain ⟨hw1, hw2, hw3, hw4, hw5, hw6⟩ := hwf
  dsimp only at hw1 hw2 hw3 hw4 hw5 hw6
  have HW := Lib.hid (And.intro hw2 hw3); clear hw2 h hfc
  have hcall := (fits_any _ _ tab (w.alloc (.cells #[.int .i64 kd, .int .u64 (n : Int), .string (bstr text), .slice fa tab.length fc] 77)) (HF.out.kept ((Kept.refl [] w).alloc _) (by simp)) HW.out.1 HW.out.2)
  have HC := Lib.hid hcall; clear hcall
  have hxl : ((bstr text).data.size : Int) = text.length := by simp [bstr]
  by_cases ht : tab.length = 0
  · have ht1 : ¬ (0 : Int) < tab.length := (by omega)
    by_cases hx : text = []
    · by_cases hn0 : n = 0
      · by_cases hk : kd = 4
        · 
          have hm : text.length ≤ 255 := by simp [hx]
          have hm1 : (text.length : Int) ≤ 255 := by omega
          go_enter Tryz.func28, Tryz.ntmps28
          go_wp2_with fail
          go_ret
          exact ⟨by simp [properArgB, ht, hx, hn0, hk, hm], (Kept.refl [] w).alloc _⟩
        · go_enter Tryz.func28, Tryz.ntmps28
          go_wp2_with fail
          go_ret
          exact ⟨by simp [properArgB, ht, hx, hn0, hk], (Kept.refl [] w).alloc _⟩
      · have hn1 : ¬ (n : Int) = 0 := by omega
        go_enter Tryz.func28, Tryz.ntmps28
        go_wp2_with fail
        go_ret
        exact ⟨by simp [properArgB, ht, hx, hn0], (Kept.refl [] w).alloc _⟩
    · have hx1 := bstr_ne text hx
      by_cases hn0 : n = 0
      · by_cases hk : kd = 4
        · by_cases hm : text.length ≤ 255
          · have hm1 : (text.length : Int) ≤ 255 := by omega
            go_enter Tryz.func28, Tryz.ntmps28
            go_wp2_with fail
            go_ret
            exact ⟨by simp [properArgB, ht, hx, hn0, hk, hm], (Kept.refl [] w).alloc _⟩
          · have hm1 : ¬ (text.length : Int) ≤ 255 := by omega
            go_enter Tryz.func28, Tryz.ntmps28
            go_wp2_with fail
            go_ret
            exact ⟨by simp [properArgB, ht, hx, hn0, hk, hm], (Kept.refl [] w).alloc _⟩
        · go_enter Tryz.func28, Tryz.ntmps28
          go_wp2_with fail
          go_ret
          exact ⟨by simp [properArgB, ht, hx, hn0, hk], (Kept.refl [] w).alloc _⟩
      · have hn1 : ¬ (n : Int) = 0 := by omega
        go_enter Tryz.func28, Tryz.ntmps28
        go_wp2_with fail
        go_ret
        exact ⟨by simp [properArgB, ht, hx, hn0], (Kept.refl [] w).alloc _⟩
  · have ht1 : (0 : Int) < tab.length := (by omega)
    go_enter Tryz.func28, Tryz.ntmps28
    go_wp2_with fail
    go_ret
    exact ⟨by simp [properArgB, ht], (Kept.refl [] w).alloc _⟩
set_option maxHeartbeats 4000000 in
set_option maxRecDepth 100000 in
theorem parg_76 (B : Nat → Prop) (a : MArg) (tv : Value) (w : World) (h : FSl B w tv a.tab) (hwf : WfA a) :
    Calls Tryz.prog 28 #[.int .u8 76, .agg #[.int .i64 a.kind, .int .u64 (a.n : Int), .string (bstr a.text), tv]] w fun e w' => e = .returned (.bool (properArgB 76 a)) ∧ Kept [] w w' := by
  have HF := Lib.hid h
  obtain ⟨fa, fc, rfl, hfc, _⟩ := id h
  obtain ⟨kd, n, text, tab⟩ := a
  dsimp only at HF ⊢ hfc
  obtain ⟨hw1, hw2, hw3, hw4, hw5, hw6⟩ := hwf
  dsimp only at hw1 hw2 hw3 hw4 hw5 hw6
  have HW := Lib.hid (And.intro hw2 hw3); clear hw2 h hfc
  have hcall := (fits_any _ _ tab (w.alloc (.cells #[.int .i64 kd, .int .u64 (n : Int), .string (bstr text), .slice fa tab.length fc] 77)) (HF.out.kept ((Kept.refl [] w).alloc _) (by simp)) HW.out.1 HW.out.2)
  have HC := Lib.hid hcall; clear hcall
  have hxl : ((bstr text).data.size : Int) = text.length := by simp [bstr]
  by_cases ht : tab.length = 0
  · have ht1 : ¬ (0 : Int) < tab.length := (by omega)
    by_cases hx : text = []
    · by_cases hn0 : n = 0
      · by_cases hk : kd = 5
        · 
          have hm : text.length ≤ 1000 := by simp [hx]
          have hm1 : (text.length : Int) ≤ 1000 := by omega
          go_enter Tryz.func28, Tryz.ntmps28
          go_wp2_with fail
          go_ret
          exact ⟨by simp [properArgB, ht, hx, hn0, hk, hm], (Kept.refl [] w).alloc _⟩
        · go_enter Tryz.func28, Tryz.ntmps28
          go_wp2_with fail
          go_ret
          exact ⟨by simp [properArgB, ht, hx, hn0, hk], (Kept.refl [] w).alloc _⟩
      · have hn1 : ¬ (n : Int) = 0 := by omega
        go_enter Tryz.func28, Tryz.ntmps28
        go_wp2_with fail
        go_ret
        exact ⟨by simp [properArgB, ht, hx, hn0], (Kept.refl [] w).alloc _⟩
    · have hx1 := bstr_ne text hx
      by_cases hn0 : n = 0
      · by_cases hk : kd = 5
        · by_cases hm : text.length ≤ 1000
          · have hm1 : (text.length : Int) ≤ 1000 := by omega
            go_enter Tryz.func28, Tryz.ntmps28
            go_wp2_with fail
            go_ret
            exact ⟨by simp [properArgB, ht, hx, hn0, hk, hm], (Kept.refl [] w).alloc _⟩
          · have hm1 : ¬ (text.length : Int) ≤ 1000 := by omega
            go_enter Tryz.func28, Tryz.ntmps28
            go_wp2_with fail
            go_ret
            exact ⟨by simp [properArgB, ht, hx, hn0, hk, hm], (Kept.refl [] w).alloc _⟩
        · go_enter Tryz.func28, Tryz.ntmps28
          go_wp2_with fail
          go_ret
          exact ⟨by simp [properArgB, ht, hx, hn0, hk], (Kept.refl [] w).alloc _⟩
      · have hn1 : ¬ (n : Int) = 0 := by omega
        go_enter Tryz.func28, Tryz.ntmps28
        go_wp2_with fail
        go_ret
        exact ⟨by simp [properArgB, ht, hx, hn0], (Kept.refl [] w).alloc _⟩
  · have ht1 : (0 : Int) < tab.length := (by omega)
    go_enter Tryz.func28, Tryz.ntmps28
    go_wp2_with fail
    go_ret
    exact ⟨by simp [properArgB, ht], (Kept.refl [] w).alloc _⟩
set_option maxHeartbeats 4000000 in
set_option maxRecDepth 100000 in
theorem parg_98 (B : Nat → Prop) (a : MArg) (tv : Value) (w : World) (h : FSl B w tv a.tab) (hwf : WfA a) :
    Calls Tryz.prog 28 #[.int .u8 98, .agg #[.int .i64 a.kind, .int .u64 (a.n : Int), .string (bstr a.text), tv]] w fun e w' => e = .returned (.bool (properArgB 98 a)) ∧ Kept [] w w' := by
  have HF := Lib.hid h
  obtain ⟨fa, fc, rfl, hfc, _⟩ := id h
  obtain ⟨kd, n, text, tab⟩ := a
  dsimp only at HF ⊢ hfc
  obtain ⟨hw1, hw2, hw3, hw4, hw5, hw6⟩ := hwf
  dsimp only at hw1 hw2 hw3 hw4 hw5 hw6
  have HW := Lib.hid (And.intro hw2 hw3); clear hw2 h hfc
  have hcall := (fits_any _ _ tab (w.alloc (.cells #[.int .i64 kd, .int .u64 (n : Int), .string (bstr text), .slice fa tab.length fc] 77)) (HF.out.kept ((Kept.refl [] w).alloc _) (by simp)) HW.out.1 HW.out.2)
  have HC := Lib.hid hcall; clear hcall
  have hxl : ((bstr text).data.size : Int) = text.length := by simp [bstr]
  by_cases ht : tab.length = 0
  · have ht1 : ¬ (0 : Int) < tab.length := (by omega)
    by_cases hx : text = []
    · by_cases hn0 : n = 0
      · by_cases hk : kd = 6
        · 
          have hm : n ≤ 1 := by omega
          have hm1 : (n : Int) ≤ 1 := by omega
          go_enter Tryz.func28, Tryz.ntmps28
          go_wp2_with fail
          go_ret
          exact ⟨by simp [properArgB, ht, hx, hn0, hk, hm], (Kept.refl [] w).alloc _⟩
        · go_enter Tryz.func28, Tryz.ntmps28
          go_wp2_with fail
          go_ret
          exact ⟨by simp [properArgB, ht, hx, hn0, hk], (Kept.refl [] w).alloc _⟩
      · have hn1 : ¬ (n : Int) = 0 := by omega
        by_cases hk : kd = 6
        · by_cases hm : n ≤ 1
          · have hm1 : (n : Int) ≤ 1 := by omega
            go_enter Tryz.func28, Tryz.ntmps28
            go_wp2_with fail
            go_ret
            exact ⟨by simp [properArgB, ht, hx, hn0, hk, hm], (Kept.refl [] w).alloc _⟩
          · have hm1 : ¬ (n : Int) ≤ 1 := by omega
            go_enter Tryz.func28, Tryz.ntmps28
            go_wp2_with fail
            go_ret
            exact ⟨by simp [properArgB, ht, hx, hn0, hk, hm], (Kept.refl [] w).alloc _⟩
        · go_enter Tryz.func28, Tryz.ntmps28
          go_wp2_with fail
          go_ret
          exact ⟨by simp [properArgB, ht, hx, hn0, hk], (Kept.refl [] w).alloc _⟩
    · have hx1 := bstr_ne text hx
      go_enter Tryz.func28, Tryz.ntmps28
      go_wp2_with fail
      go_ret
      exact ⟨by simp [properArgB, ht, hx], (Kept.refl [] w).alloc _⟩
  · have ht1 : (0 : Int) < tab.length := (by omega)
    go_enter Tryz.func28, Tryz.ntmps28
    go_wp2_with fail
    go_ret
    exact ⟨by simp [properArgB, ht], (Kept.refl [] w).alloc _⟩
set_option maxHeartbeats 4000000 in
set_option maxRecDepth 100000 in
theorem parg_116 (B : Nat → Prop) (a : MArg) (tv : Value) (w : World) (h : FSl B w tv a.tab) (hwf : WfA a) :
    Calls Tryz.prog 28 #[.int .u8 116, .agg #[.int .i64 a.kind, .int .u64 (a.n : Int), .string (bstr a.text), tv]] w fun e w' => e = .returned (.bool (properArgB 116 a)) ∧ Kept [] w w' := by
  have HF := Lib.hid h
  obtain ⟨fa, fc, rfl, hfc, _⟩ := id h
  obtain ⟨kd, n, text, tab⟩ := a
  dsimp only at HF ⊢ hfc
  obtain ⟨hw1, hw2, hw3, hw4, hw5, hw6⟩ := hwf
  dsimp only at hw1 hw2 hw3 hw4 hw5 hw6
  have HW := Lib.hid (And.intro hw2 hw3); clear hw2 h hfc
  have hcall := (fits_any _ _ tab (w.alloc (.cells #[.int .i64 kd, .int .u64 (n : Int), .string (bstr text), .slice fa tab.length fc] 77)) (HF.out.kept ((Kept.refl [] w).alloc _) (by simp)) HW.out.1 HW.out.2)
  have HC := Lib.hid hcall; clear hcall
  have hxl : ((bstr text).data.size : Int) = text.length := by simp [bstr]
  by_cases ht : tab.length = 0
  · have ht1 : ¬ (0 : Int) < tab.length := (by omega); have HT0 := Lib.hid ht; clear ht
    by_cases hx : text = []
    · by_cases hn0 : n = 0
      · by_cases hk : kd = 7
        · 
          subst hx hn0 hk
          go_enter Tryz.func28, Tryz.ntmps28
          go_wp2_with (go_at_call 37; refine HC.out.mono ?_; rintro e w1 ⟨rfl, hk1⟩; have HK := Lib.hid hk1; clear hk1)
          go_ret
          exact ⟨by simp [properArgB, HT0.out], ((Kept.refl [] w).alloc _).trans HK.out (by simp)⟩
        · go_enter Tryz.func28, Tryz.ntmps28
          go_wp2_with (go_at_call 37; refine HC.out.mono ?_; rintro e w1 ⟨rfl, hk1⟩; have HK := Lib.hid hk1; clear hk1)
          go_ret
          exact ⟨by simp [properArgB, HT0.out, hx, hn0, hk], (Kept.refl [] w).alloc _⟩
      · have hn1 : ¬ (n : Int) = 0 := by omega
        go_enter Tryz.func28, Tryz.ntmps28
        go_wp2_with (go_at_call 37; refine HC.out.mono ?_; rintro e w1 ⟨rfl, hk1⟩; have HK := Lib.hid hk1; clear hk1)
        go_ret
        exact ⟨by simp [properArgB, HT0.out, hx, hn0], (Kept.refl [] w).alloc _⟩
    · have hx1 := bstr_ne text hx
      go_enter Tryz.func28, Tryz.ntmps28
      go_wp2_with (go_at_call 37; refine HC.out.mono ?_; rintro e w1 ⟨rfl, hk1⟩; have HK := Lib.hid hk1; clear hk1)
      go_ret
      exact ⟨by simp [properArgB, HT0.out, hx], (Kept.refl [] w).alloc _⟩
  · have ht1 : (0 : Int) < tab.length := (by omega); have HT0 := Lib.hid ht; clear ht
    by_cases hx : text = []
    · by_cases hn0 : n = 0
      · by_cases hk : kd = 7
        · 
          subst hx hn0 hk
          go_enter Tryz.func28, Tryz.ntmps28
          go_wp2_with (go_at_call 37; refine HC.out.mono ?_; rintro e w1 ⟨rfl, hk1⟩; have HK := Lib.hid hk1; clear hk1)
          go_ret
          exact ⟨by simp [properArgB, HT0.out], ((Kept.refl [] w).alloc _).trans HK.out (by simp)⟩
        · go_enter Tryz.func28, Tryz.ntmps28
          go_wp2_with (go_at_call 37; refine HC.out.mono ?_; rintro e w1 ⟨rfl, hk1⟩; have HK := Lib.hid hk1; clear hk1)
          go_ret
          exact ⟨by simp [properArgB, HT0.out, hx, hn0, hk], (Kept.refl [] w).alloc _⟩
      · have hn1 : ¬ (n : Int) = 0 := by omega
        go_enter Tryz.func28, Tryz.ntmps28
        go_wp2_with (go_at_call 37; refine HC.out.mono ?_; rintro e w1 ⟨rfl, hk1⟩; have HK := Lib.hid hk1; clear hk1)
        go_ret
        exact ⟨by simp [properArgB, HT0.out, hx, hn0], (Kept.refl [] w).alloc _⟩
    · have hx1 := bstr_ne text hx
      go_enter Tryz.func28, Tryz.ntmps28
      go_wp2_with (go_at_call 37; refine HC.out.mono ?_; rintro e w1 ⟨rfl, hk1⟩; have HK := Lib.hid hk1; clear hk1)
      go_ret
      exact ⟨by simp [properArgB, HT0.out, hx], (Kept.refl [] w).alloc _⟩
end Go.Proofs.YtkcdakohmfodjaaGreat
