/-
  Lemmas on the way to the statement of YtkcdakohmfodjaaGreatHeader, joined out of these texts: PropV. No condition.
-/
import Derived.Test.YtkcdakohmfodjaaGreatNProp
namespace Go.Proofs.YtkcdakohmfodjaaGreat
open Go.RowKit
set_option linter.unusedVariables false
set_option linter.unusedSimpArgs false
theorem u8_cast_ne {k : UInt8} {c : Nat} (hc : c < 256) (h : k ≠ UInt8.ofNat c) : ((k.toNat : Int) == (c : Int)) = false := by
  simp only [beq_eq_false_iff_ne, ne_eq]
  intro e
  apply h
  apply UInt8.toNat_inj.1
  simp
  omega
/-- The bits of the letters, as a map. -/
def bitsMap : List (Value × Value) := [(.int .u8 98, .int .u64 8), (.int .u8 115, .int .u64 16), (.int .u8 73, .int .u64 32), (.int .u8 68, .int .u64 32)]
theorem zero_uint : ∀ w : World, (zeroValue 195).run Tryz.prog w = .ok (.int .u64 0) w := fun w => by kernel_rfl
theorem sameNow_u8 (k c : Int) : Instr.sameNow (.int .u8) (.int .u8 k) (.int .u8 c) = some (k == c) := by simp [Instr.sameNow]
theorem run_bits (k : UInt8) (b : Nat) (w : World) (h : MapAt w b bitsMap) : (Instr.lookup 388 (.map (some b)) (.int .u8 (k.toNat : Int)) false).run Tryz.prog w = .ok (.int .u64 (bitsOf k : Int)) w := by
  by_cases h1 : k = 98
  · subst h1
    exact run_lookup_at (pre := []) (k' := .int .u8 98) (v := .int .u64 8) h Tryz.underlying388 Tryz.underlying5 rfl rfl (by simp) false
  by_cases h2 : k = 115
  · subst h2
    exact run_lookup_at (pre := [(.int .u8 98, .int .u64 8)]) (k' := .int .u8 115) (v := .int .u64 16) h Tryz.underlying388 Tryz.underlying5 rfl rfl (by simp [Instr.sameNow]) false
  by_cases h3 : k = 73
  · subst h3
    exact run_lookup_at (pre := [(.int .u8 98, .int .u64 8), (.int .u8 115, .int .u64 16)]) (k' := .int .u8 73) (v := .int .u64 32) h Tryz.underlying388 Tryz.underlying5 rfl rfl (by simp [Instr.sameNow]) false
  by_cases h4 : k = 68
  · subst h4
    exact run_lookup_at (pre := [(.int .u8 98, .int .u64 8), (.int .u8 115, .int .u64 16), (.int .u8 73, .int .u64 32)]) (k' := .int .u8 68) (v := .int .u64 32) h Tryz.underlying388 Tryz.underlying5 rfl rfl (by simp [Instr.sameNow]) false
  have hb : bitsOf k = 0 := by unfold bitsOf; rw [if_neg h1, if_neg h2, if_neg h3, if_neg h4]
  rw [hb]
  refine run_lookup_none h Tryz.underlying388 Tryz.underlying5 rfl ?_ _ (zero_uint w) false
  intro e he
  simp only [bitsMap, List.mem_cons, List.not_mem_nil, or_false] at he
  rcases he with rfl | rfl | rfl | rfl
  · rw [sameNow_u8]; have := u8_cast_ne (c := 98) (by omega) h1; simpa using this
  · rw [sameNow_u8]; have := u8_cast_ne (c := 115) (by omega) h2; simpa using this
  · rw [sameNow_u8]; have := u8_cast_ne (c := 73) (by omega) h3; simpa using this
  · rw [sameNow_u8]; have := u8_cast_ne (c := 68) (by omega) h4; simpa using this
theorem leaf_frac (k : UInt8) (n : Int) (f : Nat) (sc : Int) (hk : k = 102 ∨ k = 100) : leafOk k n f sc = fracB f := by
  unfold leafOk
  rcases hk with rfl | rfl <;> rfl
theorem fracB_true {f : Nat} (h1 : FloatKind.f64.format.order f 13920209183539462144 = some .gt) (h2 : FloatKind.f64.format.order f 4696837146684686336 = some .lt) (h3 : FloatKind.f64.format.order (Flt.mul8 f) (Flt.ofI (Flt.toI (Flt.mul8 f))) = some .eq)
    (h4 : ¬ FloatKind.f64.format.order f 0 = some .eq ∨ f = 0) : fracB f = true := by
  have h1 : Ieee.double.order f 13920209183539462144 = some .gt := h1
  have h2 : Ieee.double.order f 4696837146684686336 = some .lt := h2
  have h3 : Ieee.double.order (Flt.mul8 f) (Flt.ofI (Flt.toI (Flt.mul8 f))) = some .eq := h3
  have h4 : ¬ Ieee.double.order f 0 = some .eq ∨ f = 0 := h4
  unfold fracB
  rw [h1, h2, h3]
  rcases h4 with h4 | h4
  · simp [h4]
  · simp [h4]
theorem fracB_false {f : Nat} (h : ¬ FloatKind.f64.format.order f 13920209183539462144 = some .gt ∨ ¬ FloatKind.f64.format.order f 4696837146684686336 = some .lt ∨ ¬ FloatKind.f64.format.order (Flt.mul8 f) (Flt.ofI (Flt.toI (Flt.mul8 f))) = some .eq) : fracB f = false := by
  have h : ¬ Ieee.double.order f 13920209183539462144 = some .gt ∨ ¬ Ieee.double.order f 4696837146684686336 = some .lt ∨ ¬ Ieee.double.order (Flt.mul8 f) (Flt.ofI (Flt.toI (Flt.mul8 f))) = some .eq := h
  unfold fracB
  rcases h with h | h | h <;> simp [h]
theorem frac_zero : fracB 0 = true := by decide +kernel
theorem frac_mzero : fracB 9223372036854775808 = false := by decide +kernel
theorem fracB_at (f : Nat) : fracB f = fracB f := rfl
theorem run_mul8 (f : Nat) (h1 : FloatKind.f64.format.order f 13920209183539462144 = some .gt) (h2 : FloatKind.f64.format.order f 4696837146684686336 = some .lt) (hf : f < 18446744073709551616) (w : World) :
    (binOp .mul 138 (.float .f64 f) (.float .f64 4620693217682128896)).run Tryz.prog w = .ok (.float .f64 (Flt.mul8 f)) w := by
  obtain ⟨hm, _⟩ := Flt.lim_mul h1 h2 hf
  have hm : FloatKind.f64.format.mul f 4620693217682128896 = some (Flt.mul8 f) := hm
  simp [binOp, Op.floatArith, hm]
theorem run_toI (f : Nat) (h1 : FloatKind.f64.format.order f 13920209183539462144 = some .gt) (h2 : FloatKind.f64.format.order f 4696837146684686336 = some .lt) (hf : f < 18446744073709551616) (w : World) :
    (convert 138 2 (.float .f64 (Flt.mul8 f))).run Tryz.prog w = .ok (.int .i64 (Flt.toI (Flt.mul8 f))) w := by
  obtain ⟨_, neg, m1, p1, T, hr, hi, hT⟩ := Flt.lim_mul h1 h2 hf
  have hi' : (FloatKind.f64.decode (Flt.mul8 f)).toInt .zero = some (Ieee.signed neg T 0) := hi
  have ht : Flt.toI (Flt.mul8 f) = Ieee.signed neg T 0 := by unfold Flt.toI; rw [hi]
  rw [ht]
  have hb : IntKind.i64.min ≤ Ieee.signed neg T 0 ∧ Ieee.signed neg T 0 ≤ IntKind.i64.max := by
    have := Flt.signed_abs neg T 0
    simp only [Nat.pow_zero, Nat.mul_one] at this
    simp only [IntKind.min, IntKind.max, IntKind.bits, IntKind.signed]
    simp
    omega
  simp [convert, run_underlying Tryz.underlying138, run_underlying Tryz.underlying2, Conv.floatToInt, hi', hb.1, hb.2]
  intro h
  have := Flt.signed_abs neg T 0
  simp only [Nat.pow_zero, Nat.mul_one] at this
  omega
theorem run_ofI (f : Nat) (w : World) :
    (convert 2 138 (.int .i64 (Flt.toI (Flt.mul8 f)))).run Tryz.prog w = .ok (.float .f64 (Flt.ofI (Flt.toI (Flt.mul8 f)))) w := by
  simp [convert, run_underlying Tryz.underlying138, run_underlying Tryz.underlying2, Conv.intToFloat, FloatKind.nearest, FloatKind.encode, FloatKind.format, Flt.ofI]
theorem run_quo0 (w : World) : (binOp .quo 138 (.float .f64 4607182418800017408) (.float .f64 0)).run Tryz.prog w = .ok (.float .f64 9218868437227405312) w := by kernel_rfl
theorem run_quo1 (w : World) : (binOp .quo 138 (.float .f64 4607182418800017408) (.float .f64 9223372036854775808)).run Tryz.prog w = .ok (.float .f64 18442240474082181120) w := by kernel_rfl
set_option maxHeartbeats 4000000 in
set_option maxRecDepth 100000 in
theorem properValue_of (k : UInt8) (n : Int) (f : Nat) (sc : Int) (text : List UInt8) (kids : List Val) (flds : List Fld) (hF : PropFC flds) (hK : ∀ v, v ∈ kids → PropVC v) : PropVC (.mk k n f sc text kids flds) := by
  intro B cs deep r rm w hs hwf hrm hB hd hr0 hr1
  unfold VHeld at hs
  obtain ⟨ka, kc, fa, fc, rfl, hkc, hfc, hks, hfs, hkat, hfat⟩ := hs
  have hksl : KSl B w (.slice ka kids.length kc) kids := ⟨ka, kc, rfl, hkc, hks, hkat⟩
  have hfsl : FSl B w (.slice fa flds.length fc) flds := ⟨fa, fc, rfl, hfc, hfs, hfat⟩
  unfold WfV at hwf
  obtain ⟨wt, wk, wf, wkl, wfs, _, _, wff⟩ := hwf
  have ht : (text.length : Int) ≤ 140737488355328 := by omega
  have hd' : (deep : Int) ≤ 10 := by omega
  have hw1 : IntKind.i64.wrap (1 + (text.length : Int)) = 1 + text.length := by rw [IntKind.wrap_i64]; omega
  have hw2 : IntKind.i64.wrap (r - (1 + (text.length : Int))) = r - (1 + text.length) := by rw [IntKind.wrap_i64]; omega
  have H := Lib.hid (And.intro hksl (And.intro hfsl (And.intro hrm (And.intro hB (And.intro wkl (And.intro wfs (And.intro hF hK)))))))
  have HWF := Lib.hid (And.intro wk wf)
  have hrlt : rm < w.heap.size := hrm.lt
  clear hksl hfsl hrm hB wkl wfs hF hK hkc hfc hks hfs hkat hfat wk wf
  go_enter Tryz.func76, Tryz.ntmps76
  go_wp2_with fail
  generalize hW1 : w.alloc _ = W1
  have hb0 : Blk W1 w.heap.size #[.int .u8 (k.toNat : Int), .int .i64 n, .float .f64 f, .int .i64 sc, .string (bstr text), .slice ka kids.length kc, .slice fa flds.length fc] 141 := by rw [← hW1]; exact Blk.new w _ _
  have hkw1 : Kept [] w W1 := by rw [← hW1]; exact (Kept.refl [] w).alloc _
  have hsz1 : W1.heap.size = w.heap.size + 1 := by rw [← hW1]; simp
  have hrm1 := H.out.2.2.1.kept hkw1 (by simp)
  clear hW1
  have c1 := hrm1.cell0
  have f1 := hrm1.free 0
  have c4 : W1.cell? ⟨w.heap.size, 4, none⟩ = some (.string (bstr text)) := hb0.cell 4
  have H1 := Lib.hid (And.intro hb0 (And.intro hkw1 (And.intro hrm1 hsz1))); clear hb0 hkw1 hrm1 hsz1
  go_still_tail 9, (by kernel_rfl)
  change wpList _ _ _ _ _ W1.drew
  by_cases hcut : r - (1 + (text.length : Int)) < 0 ∨ deep = 0
  · have hp : propV (.mk k n f sc text kids flds) deep r = (false, r - (1 + (text.length : Int))) := by
      unfold propV
      rw [if_pos hcut]
    have HP := Lib.hid hp; clear hp
    have hrz : Blk (W1.setCell ⟨rm, 0, none⟩ (.int .i64 (r - (1 + (text.length : Int))))).drew rm #[.int .i64 (r - (1 + (text.length : Int)))] 3 := (H1.out.2.2.1.setCell 0 _).drew
    have hkz : Kept [rm] w (W1.setCell ⟨rm, 0, none⟩ (.int .i64 (r - (1 + (text.length : Int))))).drew := ((H1.out.2.1.mono (by simp)).setCell (by simp) _).drew
    have HZ := Lib.hid (And.intro hrz hkz); clear hrz hkz
    by_cases h1 : r - (1 + (text.length : Int)) < 0
    · clear hcut
      go_wp2_with fail
      go_ret
      rw [HP.out]
      exact ⟨rfl, HZ.out.1, HZ.out.2⟩
    · obtain rfl : deep = 0 := by rcases hcut with h | h; exact absurd h h1; exact h
      clear hcut
      go_wp2_with fail
      go_ret
      rw [HP.out]
      exact ⟨rfl, HZ.out.1, HZ.out.2⟩
  · have hn1 : ¬ r - (1 + (text.length : Int)) < 0 := fun e => hcut (.inl e)
    have hn2 : ¬ (deep : Int) = 0 := fun e => hcut (.inr (by omega))
    have HCUT := Lib.hid hcut
    clear hcut
    go_upto_region 4 with fail
    obtain ⟨W2, hW2⟩ : ∃ W2, W2 = (W1.setCell ⟨rm, 0, none⟩ (.int .i64 (r - (1 + (text.length : Int))))).drew := ⟨_, rfl⟩
    rw [← hW2]
    have hq : rm ≠ w.heap.size := by omega
    have hb0 : Blk W2 w.heap.size #[.int .u8 (k.toNat : Int), .int .i64 n, .float .f64 f, .int .i64 sc, .string (bstr text), .slice ka kids.length kc, .slice fa flds.length fc] 141 := by rw [hW2]; exact (H1.out.1.setCell_other (by simpa using Ne.symm hq) _).drew
    have hrm2 : Blk W2 rm #[.int .i64 (r - (1 + (text.length : Int)))] 3 := by rw [hW2]; exact (H1.out.2.2.1.setCell 0 _).drew
    have hk2 : Kept [rm] w W2 := by rw [hW2]; exact ((H1.out.2.1.mono (by simp)).setCell (by simp) _).drew
    clear hW2
    have HB := Lib.hid (And.intro hb0 (And.intro hrm2 (And.intro hk2 hq))); clear hb0 hrm2 hk2 hq
    have hmk : ∀ w : World, (Instr.makeMap 388 none).run Tryz.prog w = .ok (.map (some w.heap.size)) (w.alloc (.map #[] 0)) := fun w => run_makeMap _ w
    go_upto_region 5 with (first
      | (refine wpList_insert_new rfl rfl 388 (.tmp 27) (.const (.int .u8 98)) (.const (.int .u64 8)) rfl W2.heap.size [] (MapAt.new W2) rfl _ _ _ Tryz.underlying388 Tryz.underlying5 rfl (.int .u8 98) (.int .u64 8) rfl rfl (by simp) ?_; intro w5 m5 k5)
      | (refine wpList_insert_new rfl rfl 388 (.tmp 27) (.const (.int .u8 115)) (.const (.int .u64 16)) rfl W2.heap.size _ m5 rfl _ _ _ Tryz.underlying388 Tryz.underlying5 rfl (.int .u8 115) (.int .u64 16) rfl rfl (by simp [Instr.sameNow]) ?_; intro w6 m6 k6)
      | (refine wpList_insert_new rfl rfl 388 (.tmp 27) (.const (.int .u8 73)) (.const (.int .u64 32)) rfl W2.heap.size _ m6 rfl _ _ _ Tryz.underlying388 Tryz.underlying5 rfl (.int .u8 73) (.int .u64 32) rfl rfl (by simp [Instr.sameNow]) ?_; intro w7 m7 k7)
      | (refine wpList_insert_new rfl rfl 388 (.tmp 27) (.const (.int .u8 68)) (.const (.int .u64 32)) rfl W2.heap.size _ m7 rfl _ _ _ Tryz.underlying388 Tryz.underlying5 rfl (.int .u8 68) (.int .u64 32) rfl rfl (by simp [Instr.sameNow]) ?_; intro w8 m8 k8; have hkm : Kept [] W2 w8 := ((((Kept.refl [] W2).alloc _).trans k5 (S' := [W2.heap.size]) (by simp)).trans k6 (by simp)).trans (k7.trans k8 (S' := [W2.heap.size]) (fun x hx => .inl hx)) (by simp); have hb8 := HB.out.1.kept hkm (by simp); obtain ⟨z0, z1, z2, z3, z4, z5, z6⟩ := cells7 hb8; have hlk := run_bits k W2.heap.size w8 m8; have HM := Lib.hid (And.intro m8 (And.intro hkm hb8)); clear m5 m6 m7 m8 k5 k6 k7 k8 hkm hb8))
    have hpv : propV (.mk k n f sc text kids flds) deep r = if inBits k n = false then (false, r - (1 + (text.length : Int))) else if k = 65 then propL kids (deep - 1) (r - (1 + (text.length : Int))) else if k = 70 then propFs flds none (deep - 1) (r - (1 + (text.length : Int))) else (leafOk k n f sc, r - (1 + (text.length : Int))) := by
      unfold propV
      rw [if_neg HCUT.out]
    have hrm8 := HB.out.2.1.kept HM.out.2.1 (by simp)
    have hk8 : Kept [rm] w w8 := HB.out.2.2.1.trans HM.out.2.1 (by simp)
    have HE := Lib.hid (And.intro hpv (And.intro hrm8 hk8)); clear hpv hrm8 hk8 hmk hlk
    by_cases h98 : k = 98
    · subst h98
      have hbv : ((bitsOf 98 : Nat) : Int) = 8 := rfl
      by_cases hlo : n < -128
      · have hlo0 := hlo
        go_wp2_with fail
        go_ret
        rw [HE.out.1, if_pos (by simp [inBits, bitsOf]; omega)]
        exact ⟨by first | rfl | (simp [leafOk]; try omega), HE.out.2.1, HE.out.2.2⟩
      · by_cases hhi : 127 < n
        · have hhi0 := hhi
          go_wp2_with fail
          go_ret
          rw [HE.out.1, if_pos (by simp [inBits, bitsOf]; omega)]
          exact ⟨by first | rfl | (simp [leafOk]; try omega), HE.out.2.1, HE.out.2.2⟩
        · have hin := And.intro hlo hhi
          go_wp2_with fail
          go_ret
          rw [HE.out.1, if_neg (by simp [inBits, bitsOf]; try omega), if_neg (by decide), if_neg (by decide)]
          exact ⟨by first | rfl | (simp [leafOk]; try omega), HE.out.2.1, HE.out.2.2⟩
    by_cases h115 : k = 115
    · subst h115
      have hbv : ((bitsOf 115 : Nat) : Int) = 16 := rfl
      by_cases hlo : n < -32768
      · have hlo0 := hlo
        go_wp2_with fail
        go_ret
        rw [HE.out.1, if_pos (by simp [inBits, bitsOf]; omega)]
        exact ⟨by first | rfl | (simp [leafOk]; try omega), HE.out.2.1, HE.out.2.2⟩
      · by_cases hhi : 32767 < n
        · have hhi0 := hhi
          go_wp2_with fail
          go_ret
          rw [HE.out.1, if_pos (by simp [inBits, bitsOf]; omega)]
          exact ⟨by first | rfl | (simp [leafOk]; try omega), HE.out.2.1, HE.out.2.2⟩
        · have hin := And.intro hlo hhi
          go_wp2_with fail
          go_ret
          rw [HE.out.1, if_neg (by simp [inBits, bitsOf]; try omega), if_neg (by decide), if_neg (by decide)]
          exact ⟨by first | rfl | (simp [leafOk]; try omega), HE.out.2.1, HE.out.2.2⟩
    by_cases h73 : k = 73
    · subst h73
      have hbv : ((bitsOf 73 : Nat) : Int) = 32 := rfl
      by_cases hlo : n < -2147483648
      · have hlo0 := hlo
        go_wp2_with fail
        go_ret
        rw [HE.out.1, if_pos (by simp [inBits, bitsOf]; omega)]
        exact ⟨by first | rfl | (simp [leafOk]; try omega), HE.out.2.1, HE.out.2.2⟩
      · by_cases hhi : 2147483647 < n
        · have hhi0 := hhi
          go_wp2_with fail
          go_ret
          rw [HE.out.1, if_pos (by simp [inBits, bitsOf]; omega)]
          exact ⟨by first | rfl | (simp [leafOk]; try omega), HE.out.2.1, HE.out.2.2⟩
        · have hin := And.intro hlo hhi
          go_wp2_with fail
          go_ret
          rw [HE.out.1, if_neg (by simp [inBits, bitsOf]; try omega), if_neg (by decide), if_neg (by decide)]
          exact ⟨by first | rfl | (simp [leafOk]; try omega), HE.out.2.1, HE.out.2.2⟩
    by_cases h68 : k = 68
    · subst h68
      have hbv : ((bitsOf 68 : Nat) : Int) = 32 := rfl
      by_cases hlo : n < -2147483648
      · have hlo0 := hlo
        go_wp2_with fail
        go_ret
        rw [HE.out.1, if_pos (by simp [inBits, bitsOf]; omega)]
        exact ⟨by first | rfl | (simp [leafOk]; try omega), HE.out.2.1, HE.out.2.2⟩
      · by_cases hhi : 2147483647 < n
        · have hhi0 := hhi
          go_wp2_with fail
          go_ret
          rw [HE.out.1, if_pos (by simp [inBits, bitsOf]; omega)]
          exact ⟨by first | rfl | (simp [leafOk]; try omega), HE.out.2.1, HE.out.2.2⟩
        · have hin := And.intro hlo hhi
          by_cases hs1 : sc < 0
          · have hs0 := hs1
            go_wp2_with fail
            go_ret
            rw [HE.out.1, if_neg (by simp [inBits, bitsOf]; try omega), if_neg (by decide), if_neg (by decide)]
            exact ⟨by first | rfl | (simp [leafOk]; try omega), HE.out.2.1, HE.out.2.2⟩
          · by_cases hs2 : 255 < sc
            · have hs0 := hs2
              go_wp2_with fail
              go_ret
              rw [HE.out.1, if_neg (by simp [inBits, bitsOf]; try omega), if_neg (by decide), if_neg (by decide)]
              exact ⟨by first | rfl | (simp [leafOk]; try omega), HE.out.2.1, HE.out.2.2⟩
            · have hs0 := hs2
              go_wp2_with fail
              go_ret
              rw [HE.out.1, if_neg (by simp [inBits, bitsOf]; try omega), if_neg (by decide), if_neg (by decide)]
              exact ⟨by first | rfl | (simp [leafOk]; try omega), HE.out.2.1, HE.out.2.2⟩
    by_cases h116 : k = 116
    · subst h116
      have hbv : ((bitsOf 116 : Nat) : Int) = 0 := rfl
      by_cases hs1 : n = 0
      · subst hs1
        go_wp2_with fail
        go_ret
        rw [HE.out.1, if_neg (by simp [inBits, bitsOf]; try omega), if_neg (by decide), if_neg (by decide)]
        exact ⟨by first | rfl | (simp [leafOk]; try omega), HE.out.2.1, HE.out.2.2⟩
      · by_cases hs2 : n = 1
        · subst hs2
          go_wp2_with fail
          go_ret
          rw [HE.out.1, if_neg (by simp [inBits, bitsOf]; try omega), if_neg (by decide), if_neg (by decide)]
          exact ⟨by first | rfl | (simp [leafOk]; try omega), HE.out.2.1, HE.out.2.2⟩
        · have hs0 := hs2
          go_wp2_with fail
          go_ret
          rw [HE.out.1, if_neg (by simp [inBits, bitsOf]; try omega), if_neg (by decide), if_neg (by decide)]
          exact ⟨by first | rfl | (simp [leafOk]; try omega), HE.out.2.1, HE.out.2.2⟩
    by_cases h66 : k = 66
    · subst h66
      have hbv : ((bitsOf 66 : Nat) : Int) = 0 := rfl
      by_cases hs1 : n < 0
      · have hs0 := hs1
        go_wp2_with fail
        go_ret
        rw [HE.out.1, if_neg (by simp [inBits, bitsOf]; try omega), if_neg (by decide), if_neg (by decide)]
        exact ⟨by first | rfl | (simp [leafOk]; try omega), HE.out.2.1, HE.out.2.2⟩
      · by_cases hs2 : 255 < n
        · have hs0 := hs2
          go_wp2_with fail
          go_ret
          rw [HE.out.1, if_neg (by simp [inBits, bitsOf]; try omega), if_neg (by decide), if_neg (by decide)]
          exact ⟨by first | rfl | (simp [leafOk]; try omega), HE.out.2.1, HE.out.2.2⟩
        · have hs0 := hs2
          go_wp2_with fail
          go_ret
          rw [HE.out.1, if_neg (by simp [inBits, bitsOf]; try omega), if_neg (by decide), if_neg (by decide)]
          exact ⟨by first | rfl | (simp [leafOk]; try omega), HE.out.2.1, HE.out.2.2⟩
    by_cases h84 : k = 84
    · subst h84
      have hbv : ((bitsOf 84 : Nat) : Int) = 0 := rfl
      by_cases hs1 : n < 0
      · have hs0 := hs1
        go_wp2_with fail
        go_ret
        rw [HE.out.1, if_neg (by simp [inBits, bitsOf]; try omega), if_neg (by decide), if_neg (by decide)]
        exact ⟨by first | rfl | (simp [leafOk]; try omega), HE.out.2.1, HE.out.2.2⟩
      · by_cases hs2 : 1099511627775 < n
        · have hs0 := hs2
          go_wp2_with fail
          go_ret
          rw [HE.out.1, if_neg (by simp [inBits, bitsOf]; try omega), if_neg (by decide), if_neg (by decide)]
          exact ⟨by first | rfl | (simp [leafOk]; try omega), HE.out.2.1, HE.out.2.2⟩
        · have hs0 := hs2
          go_wp2_with fail
          go_ret
          rw [HE.out.1, if_neg (by simp [inBits, bitsOf]; try omega), if_neg (by decide), if_neg (by decide)]
          exact ⟨by first | rfl | (simp [leafOk]; try omega), HE.out.2.1, HE.out.2.2⟩
    by_cases h102 : k = 102
    · subst h102
      have hbv : ((bitsOf 102 : Nat) : Int) = 0 := rfl
      have WF := Lib.hid wff
      by_cases g1 : FloatKind.f64.format.order f 13920209183539462144 = some .gt
      · by_cases g2 : FloatKind.f64.format.order f 4696837146684686336 = some .lt
        · have hm1 := run_mul8 f g1 g2 wff
          have hm2 := run_toI f g1 g2 wff
          have hm3 := run_ofI f
          have HG := Lib.hid (And.intro g1 g2)
          by_cases g3 : FloatKind.f64.format.order (Flt.mul8 f) (Flt.ofI (Flt.toI (Flt.mul8 f))) = some .eq
          · have HG3 := Lib.hid g3
            by_cases g4 : FloatKind.f64.format.order f 0 = some .eq
            · rcases Flt.eq_zero g4 wff with rfl | rfl
              · have hm4 := run_quo0
                go_wp2_with fail
                all_goals
                  go_ret
                  rw [HE.out.1, if_neg (by simp [inBits, bitsOf]), if_neg (by decide), if_neg (by decide)]
                  exact ⟨by rw [leaf_frac 102 n _ sc (by simp), fracB_at]; exact (frac_zero.symm ▸ rfl), HE.out.2.1, HE.out.2.2⟩
              · have hm4 := run_quo1
                go_wp2_with fail
                all_goals
                  go_ret
                  rw [HE.out.1, if_neg (by simp [inBits, bitsOf]), if_neg (by decide), if_neg (by decide)]
                  exact ⟨by rw [leaf_frac 102 n _ sc (by simp), fracB_at]; exact (frac_mzero.symm ▸ rfl), HE.out.2.1, HE.out.2.2⟩
            · have HG4 := Lib.hid g4
              go_wp2_with fail
              go_ret
              rw [HE.out.1, if_neg (by simp [inBits, bitsOf]), if_neg (by decide), if_neg (by decide)]
              exact ⟨by rw [leaf_frac 102 n _ sc (by simp), fracB_true HG.out.1 HG.out.2 HG3.out (.inl HG4.out)]; try rfl, HE.out.2.1, HE.out.2.2⟩
          · have HG3 := Lib.hid g3
            go_wp2_with fail
            go_ret
            rw [HE.out.1, if_neg (by simp [inBits, bitsOf]), if_neg (by decide), if_neg (by decide)]
            exact ⟨by rw [leaf_frac 102 n _ sc (by simp), fracB_false (.inr (.inr HG3.out))]; try rfl, HE.out.2.1, HE.out.2.2⟩
        · have HG3 := Lib.hid g2
          go_wp2_with fail
          go_ret
          rw [HE.out.1, if_neg (by simp [inBits, bitsOf]), if_neg (by decide), if_neg (by decide)]
          exact ⟨by rw [leaf_frac 102 n _ sc (by simp), fracB_false (.inr (.inl HG3.out))]; try rfl, HE.out.2.1, HE.out.2.2⟩
      · have HG3 := Lib.hid g1
        go_wp2_with fail
        go_ret
        rw [HE.out.1, if_neg (by simp [inBits, bitsOf]), if_neg (by decide), if_neg (by decide)]
        exact ⟨by rw [leaf_frac 102 n _ sc (by simp), fracB_false (.inl HG3.out)]; try rfl, HE.out.2.1, HE.out.2.2⟩
    by_cases h100 : k = 100
    · subst h100
      have hbv : ((bitsOf 100 : Nat) : Int) = 0 := rfl
      have WF := Lib.hid wff
      by_cases g1 : FloatKind.f64.format.order f 13920209183539462144 = some .gt
      · by_cases g2 : FloatKind.f64.format.order f 4696837146684686336 = some .lt
        · have hm1 := run_mul8 f g1 g2 wff
          have hm2 := run_toI f g1 g2 wff
          have hm3 := run_ofI f
          have HG := Lib.hid (And.intro g1 g2)
          by_cases g3 : FloatKind.f64.format.order (Flt.mul8 f) (Flt.ofI (Flt.toI (Flt.mul8 f))) = some .eq
          · have HG3 := Lib.hid g3
            by_cases g4 : FloatKind.f64.format.order f 0 = some .eq
            · rcases Flt.eq_zero g4 wff with rfl | rfl
              · have hm4 := run_quo0
                go_wp2_with fail
                all_goals
                  go_ret
                  rw [HE.out.1, if_neg (by simp [inBits, bitsOf]), if_neg (by decide), if_neg (by decide)]
                  exact ⟨by rw [leaf_frac 100 n _ sc (by simp), fracB_at]; exact (frac_zero.symm ▸ rfl), HE.out.2.1, HE.out.2.2⟩
              · have hm4 := run_quo1
                go_wp2_with fail
                all_goals
                  go_ret
                  rw [HE.out.1, if_neg (by simp [inBits, bitsOf]), if_neg (by decide), if_neg (by decide)]
                  exact ⟨by rw [leaf_frac 100 n _ sc (by simp), fracB_at]; exact (frac_mzero.symm ▸ rfl), HE.out.2.1, HE.out.2.2⟩
            · have HG4 := Lib.hid g4
              go_wp2_with fail
              go_ret
              rw [HE.out.1, if_neg (by simp [inBits, bitsOf]), if_neg (by decide), if_neg (by decide)]
              exact ⟨by rw [leaf_frac 100 n _ sc (by simp), fracB_true HG.out.1 HG.out.2 HG3.out (.inl HG4.out)]; try rfl, HE.out.2.1, HE.out.2.2⟩
          · have HG3 := Lib.hid g3
            go_wp2_with fail
            go_ret
            rw [HE.out.1, if_neg (by simp [inBits, bitsOf]), if_neg (by decide), if_neg (by decide)]
            exact ⟨by rw [leaf_frac 100 n _ sc (by simp), fracB_false (.inr (.inr HG3.out))]; try rfl, HE.out.2.1, HE.out.2.2⟩
        · have HG3 := Lib.hid g2
          go_wp2_with fail
          go_ret
          rw [HE.out.1, if_neg (by simp [inBits, bitsOf]), if_neg (by decide), if_neg (by decide)]
          exact ⟨by rw [leaf_frac 100 n _ sc (by simp), fracB_false (.inr (.inl HG3.out))]; try rfl, HE.out.2.1, HE.out.2.2⟩
      · have HG3 := Lib.hid g1
        go_wp2_with fail
        go_ret
        rw [HE.out.1, if_neg (by simp [inBits, bitsOf]), if_neg (by decide), if_neg (by decide)]
        exact ⟨by rw [leaf_frac 100 n _ sc (by simp), fracB_false (.inl HG3.out)]; try rfl, HE.out.2.1, HE.out.2.2⟩
    by_cases h65 : k = 65
    · subst h65
      have hbv : ((bitsOf 65 : Nat) : Int) = 0 := rfl
      have hwd : IntKind.i64.wrap ((deep : Int) - 1) = ((deep - 1 : Nat) : Int) := by rw [IntKind.wrap_i64]; omega
      have hkl : (kids.length : Int) ≤ 140737488355328 := by have := HWF.out.1; omega
      have hn0 : inBits 65 n = true := by simp [inBits, bitsOf]
      have HN0 := Lib.hid hn0; clear hn0
      obtain ⟨ka', kc', hka, _, _, hget⟩ := H.out.1.get
      obtain ⟨rfl, rfl⟩ : ka = ka' ∧ kc = kc' := by cases hka; exact ⟨rfl, rfl⟩
      have HG := Lib.hid hget; clear hka hget
      go_wp2_with fail
      go_loopw [131] (fun i W => ∃ (m : Nat) (rk : Int), m ≤ kids.length ∧ i = .int .i64 (m : Int) ∧ 0 ≤ rk ∧ rk ≤ 2000 ∧ Hid (propL kids (deep - 1) (r - (1 + (text.length : Int))) = propL (kids.drop m) (deep - 1) rk ∧ Blk W rm #[.int .i64 rk] 3 ∧ Kept [rm] w W)) (fun i _ => kids.length - (intOf i).toNat)
      case atStart => exact ⟨0, _, Nat.zero_le _, rfl, by omega, by omega, Lib.hid ⟨rfl, HE.out.2.1, HE.out.2.2⟩⟩
      case round =>
        obtain ⟨m, rk, hmk, rfl, hrk0, hrk1, HR⟩ := hrel
        by_cases hlt : m < kids.length
        · obtain ⟨v, hx⟩ : ∃ v, kids[m]? = some v := ⟨_, List.getElem?_eq_getElem hlt⟩
          obtain ⟨ad, cs, rfl, hca, hvh⟩ := HG.out m v hx
          have hBk : ∀ b, B b → b ∉ [rm] := fun b hb => by simpa using H.out.2.2.2.1 b hb
          have hca' := (hca.kept HR.out.2.2 hBk).2
          have hvh' := VHeld.kept HR.out.2.2 hBk v hvh
          have hlt' : (m : Int) < kids.length := by omega
          have hdrop : kids.drop m = v :: kids.drop (m + 1) := by
            rw [List.drop_eq_getElem_cons hlt]; congr 1
            rw [List.getElem?_eq_getElem hlt] at hx; simpa using hx
          have HX := Lib.hid (And.intro hx (And.intro hca' (And.intro hvh' (And.intro hBk hdrop)))); clear hx hca hvh hca' hvh' hBk hdrop
          obtain ⟨a0, a1, a2, a3, a4, a5, a6, rfl⟩ := HX.out.2.2.1.seven
          go_upto_region 23 with (first
            | (refine wpList_load_cells rfl 141 (.tmp 133) rfl _ rfl _ HX.out.2.1 _ Tryz.underlying141 rfl size_sVal ?_)
            | (refine wpList_store_row (P := Tryz.prog) rfl rfl 141 (.tmp 9) (.tmp 134) rfl wr.heap.size rfl 141 _ [a0, a1, a2, a3, a4, a5, a6] (Blk.new wr _ _) rfl rfl HX.out.2.2.1.one size_sVal ?_; intro w9 hb9 hk9; have HB9 := Lib.hid (And.intro hb9 (((Kept.refl [] wr).alloc _).trans hk9 (S' := [wr.heap.size]) (by simp))); clear hb9 hk9))
          obtain ⟨s0, s1, s2, s3, s4, s5, s6⟩ := cells7 HB9.out.1
          have hvc := H.out.2.2.2.2.2.2.2 v (List.mem_of_getElem? HX.out.1) B _ (deep - 1) rk rm w9 (VHeld.kept HB9.out.2 (by simp) v HX.out.2.2.1) (WfL.get kids H.out.2.2.2.2.1 m v HX.out.1) (HR.out.2.1.kept HB9.out.2 (by simp)) H.out.2.2.2.1 (by omega) hrk0 hrk1
          obtain ⟨X, hX⟩ : ∃ X, X = propV v (deep - 1) rk := ⟨_, rfl⟩
          have hvc' : Calls Tryz.prog 76 #[.agg [a0, a1, a2, a3, a4, a5, a6].toArray, .int .i64 ((deep - 1 : Nat) : Int), .pointer (some ⟨rm, 0, none⟩)] w9 fun e w' => e = .returned (.bool X.1) ∧ Blk w' rm #[.int .i64 X.2] 3 ∧ Kept [rm] w9 w' := by rw [hX]; exact hvc
          obtain ⟨bx, r1⟩ := X
          simp only at hvc'
          have HV := Lib.hid hvc'; have HX1 := Lib.hid hX.symm
          clear hvc hvc' hX
          have hpl : propL kids (deep - 1) (r - (1 + (text.length : Int))) = if bx = true then propL (kids.drop (m + 1)) (deep - 1) r1 else (false, r1) := by
            rw [HR.out.1, HX.out.2.2.2.2, propL, HX1.out]
          have HPL := Lib.hid hpl; clear hpl
          cases bx with
          | false =>
            go_wp2_with (go_at_call 76; refine HV.out.mono ?_; rintro e wB ⟨rfl, v2, v3⟩; have H3 := Lib.hid (And.intro v2 ((HR.out.2.2.trans HB9.out.2 (by simp)).trans v3 (fun x hx => .inl hx))); clear v2 v3)
            go_ret
            rw [HE.out.1, if_neg (by rw [HN0.out]; simp), if_pos (by first | rfl | trivial), HPL.out, if_neg (by simp)]
            exact ⟨rfl, H3.out.1, H3.out.2⟩
          | true =>
            go_wp2_with (go_at_call 76; refine HV.out.mono ?_; rintro e wB ⟨rfl, v2, v3⟩; have H3 := Lib.hid (And.intro v2 ((HR.out.2.2.trans HB9.out.2 (by simp)).trans v3 (fun x hx => .inl hx))); clear v2 v3)
            go_roundw
            case rel =>
              have hb := (propV_iff v (deep - 1) rk r1).1 HX1.out
              exact ⟨m + 1, r1, hlt, rfl, by omega, by omega, Lib.hid ⟨by rw [HPL.out, if_pos (by first | rfl | trivial)], H3.out.1, H3.out.2⟩⟩
            case measure => simp [intOf]; omega
        · have hkn : (m : Int) = kids.length := by omega
          have hpl : propL kids (deep - 1) (r - (1 + (text.length : Int))) = (true, rk) := by
            rw [HR.out.1, List.drop_of_length_le (by omega), propL]
          have HPL := Lib.hid hpl; clear hpl
          go_wp2_with fail
          go_ret
          rw [HE.out.1, if_neg (by rw [HN0.out]; simp), if_pos (by first | rfl | trivial), HPL.out]
          exact ⟨rfl, HR.out.2.1, HR.out.2.2⟩
    by_cases h70 : k = 70
    · subst h70
      have hbv : ((bitsOf 70 : Nat) : Int) = 0 := rfl
      have hc := H.out.2.2.2.2.2.2.1 B _ (deep - 1) (r - (1 + (text.length : Int))) rm w8 (H.out.2.1.kept HE.out.2.2 (fun b hb => by simpa using H.out.2.2.2.1 b hb)) H.out.2.2.2.2.2.1 HWF.out.2 HE.out.2.1 H.out.2.2.2.1 (by omega) (by omega) (by omega)
      have hwd : IntKind.i64.wrap ((deep : Int) - 1) = ((deep - 1 : Nat) : Int) := by rw [IntKind.wrap_i64]; omega
      have HC := Lib.hid hc; clear hc
      have hn0 : inBits 70 n = true := by simp [inBits, bitsOf]
      have HN0 := Lib.hid hn0; clear hn0
      go_wp2_with (go_at_call 53; refine HC.out.mono ?_; rintro e w9 ⟨rfl, v2, v3⟩; have H9 := Lib.hid (And.intro v2 v3); clear v2 v3)
      all_goals
        go_ret
        rw [HE.out.1, if_neg (by rw [HN0.out]; simp), if_neg (by decide), if_pos (by first | rfl | trivial)]
        exact ⟨rfl, H9.out.1, HE.out.2.2.trans H9.out.2 (fun x hx => .inl hx)⟩
    by_cases h108 : k = 108
    · subst h108
      have hbv : ((bitsOf 108 : Nat) : Int) = 0 := rfl
      go_wp2_with fail
      go_ret
      rw [HE.out.1, if_neg (by simp [inBits, bitsOf]; try omega), if_neg (by decide), if_neg (by decide)]
      exact ⟨by first | rfl | (simp [leafOk]; try omega), HE.out.2.1, HE.out.2.2⟩
    by_cases h83 : k = 83
    · subst h83
      have hbv : ((bitsOf 83 : Nat) : Int) = 0 := rfl
      go_wp2_with fail
      go_ret
      rw [HE.out.1, if_neg (by simp [inBits, bitsOf]; try omega), if_neg (by decide), if_neg (by decide)]
      exact ⟨by first | rfl | (simp [leafOk]; try omega), HE.out.2.1, HE.out.2.2⟩
    by_cases h120 : k = 120
    · subst h120
      have hbv : ((bitsOf 120 : Nat) : Int) = 0 := rfl
      go_wp2_with fail
      go_ret
      rw [HE.out.1, if_neg (by simp [inBits, bitsOf]; try omega), if_neg (by decide), if_neg (by decide)]
      exact ⟨by first | rfl | (simp [leafOk]; try omega), HE.out.2.1, HE.out.2.2⟩
    by_cases h86 : k = 86
    · subst h86
      have hbv : ((bitsOf 86 : Nat) : Int) = 0 := rfl
      go_wp2_with fail
      go_ret
      rw [HE.out.1, if_neg (by simp [inBits, bitsOf]; try omega), if_neg (by decide), if_neg (by decide)]
      exact ⟨by first | rfl | (simp [leafOk]; try omega), HE.out.2.1, HE.out.2.2⟩
    have e98 : ((k.toNat : Int) == 98) = false := u8_cast_ne (c := 98) (by omega) h98
    have e115 : ((k.toNat : Int) == 115) = false := u8_cast_ne (c := 115) (by omega) h115
    have e73 : ((k.toNat : Int) == 73) = false := u8_cast_ne (c := 73) (by omega) h73
    have e68 : ((k.toNat : Int) == 68) = false := u8_cast_ne (c := 68) (by omega) h68
    have e116 : ((k.toNat : Int) == 116) = false := u8_cast_ne (c := 116) (by omega) h116
    have e66 : ((k.toNat : Int) == 66) = false := u8_cast_ne (c := 66) (by omega) h66
    have e84 : ((k.toNat : Int) == 84) = false := u8_cast_ne (c := 84) (by omega) h84
    have e102 : ((k.toNat : Int) == 102) = false := u8_cast_ne (c := 102) (by omega) h102
    have e100 : ((k.toNat : Int) == 100) = false := u8_cast_ne (c := 100) (by omega) h100
    have e65 : ((k.toNat : Int) == 65) = false := u8_cast_ne (c := 65) (by omega) h65
    have e70 : ((k.toNat : Int) == 70) = false := u8_cast_ne (c := 70) (by omega) h70
    have e108 : ((k.toNat : Int) == 108) = false := u8_cast_ne (c := 108) (by omega) h108
    have e83 : ((k.toNat : Int) == 83) = false := u8_cast_ne (c := 83) (by omega) h83
    have e120 : ((k.toNat : Int) == 120) = false := u8_cast_ne (c := 120) (by omega) h120
    have e86 : ((k.toNat : Int) == 86) = false := u8_cast_ne (c := 86) (by omega) h86
    have hb0 : bitsOf k = 0 := by unfold bitsOf; rw [if_neg h98, if_neg h115, if_neg h73, if_neg h68]
    have hbv : ((bitsOf k : Nat) : Int) = 0 := by rw [hb0]; rfl
    have HB0 := Lib.hid hb0; clear hb0
    have hleaf : leafOk k n f sc = false := by simp [leafOk, h98, h115, h73, h68, h116, h66, h84, h102, h100, h65, h70, h108, h83, h120, h86]
    have HLF := Lib.hid (And.intro hleaf (And.intro h65 h70)); clear hleaf
    clear h98 h115 h73 h68 h116 h66 h84 h102 h100 h65 h70 h108 h83 h120 h86
    go_wp2_with fail
    go_ret
    rw [HE.out.1, if_neg (by unfold inBits; rw [HB0.out]; simp), if_neg HLF.out.2.1, if_neg HLF.out.2.2, HLF.out.1]
    exact ⟨rfl, HE.out.2.1, HE.out.2.2⟩
theorem properValue_any (v : Val) : PropVC v :=
  Val.held PropVC (fun k n f sc t kids flds hk hf => properValue_of k n f sc t kids flds (properTable_of flds hf) hk) v
theorem properTable_any (l : List Fld) : PropFC l := properTable_of l fun x _ => properValue_any x.val
set_option maxHeartbeats 400000 in
theorem fits_any (B : Nat → Prop) (s : Value) (l : List Fld) (w : World) (hs : FSl B w s l) (hwf : WfFs l) (hl : l.length ≤ 140737488355328) :
    Calls Tryz.prog 37 #[s] w fun e w' => e = .returned (.bool (fitsB l)) ∧ Kept [] w w' := by
  have hka : Kept [] w (w.alloc (.cells #[.int .i64 2000] 3)) := (Kept.refl [] w).alloc _
  have hc := properTable_any l (fun b => B b ∧ b < w.heap.size) s 6 2000 w.heap.size (w.alloc (.cells #[.int .i64 2000] 3)) ((hs.mono (fun b hb hl => ⟨hb, hl⟩)).kept hka (by simp)) hwf hl (Blk.new w _ _) (fun b hb => by omega) (by omega) (by omega) (by omega)
  obtain ⟨fa, fc, rfl, _⟩ := hs
  have HC := Lib.hid hc; clear hc
  go_enter Tryz.func37, Tryz.ntmps37
  go_wp2_with (go_at_call 53; refine HC.out.mono ?_; rintro e w1 ⟨rfl, v2, v3⟩)
  go_ret
  exact ⟨rfl, (hka.trans v3 (fun x hx => .inr (by simp at hx; omega)))⟩
end Go.Proofs.YtkcdakohmfodjaaGreat
