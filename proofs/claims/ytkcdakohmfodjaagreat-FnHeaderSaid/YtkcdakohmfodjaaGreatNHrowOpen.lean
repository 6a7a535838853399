/-
  Lemmas on the way to the statement of YtkcdakohmfodjaaGreatHeader, joined out of these texts: HrowOpen. No condition.
-/
import Derived.Test.YtkcdakohmfodjaaGreatNFrmOk
import Derived.Test.YtkcdakohmfodjaaGreatNHrow
namespace Go.Proofs.YtkcdakohmfodjaaGreat
open Go.RowKit
set_option linter.unusedVariables false
set_option linter.unusedSimpArgs false
theorem u64_w (n : Int) (h : (Lit.int .u64 n).wf = true) : ∃ k : Nat, n = (k : Int) ∧ k < 18446744073709551616 := by
  have hx : 0 ≤ n ∧ n ≤ 18446744073709551615 := by simpa [Lit.wf, IntKind.min, IntKind.max, IntKind.signed, IntKind.bits] using h
  exact ⟨n.toNat, by omega, by omega⟩
set_option maxHeartbeats 8000000 in
set_option maxRecDepth 100000 in
theorem hrow_any (a0 a1 a2 : Int) (p : HP) (hv : Value) (w : World) (w2 : (Lit.int .u64 a2).wf = true) (B : Nat → Prop) (h : FSl B w hv p.hdr) (hwf : WfP p) :
    Calls Tryz.prog 6 #[.int .i64 a0, .int .i64 a1, .int .u64 a2, .agg (hpC p hv).toArray] w fun e w' => e = .returned (.bool true) ∧ Below w.heap.size w w' := by
  obtain ⟨pb, hpb⟩ : ∃ pb, pb = properP p.conv := ⟨_, rfl⟩
  obtain ⟨fb, hfb⟩ : ∃ fb, fb = fits2 p := ⟨_, rfl⟩
  by_cases hmain : fb = true ∧ 0 ≤ a0 ∧ a0 ≤ 65535 ∧ 0 ≤ a1 ∧ a1 ≤ 65535 ∧ pb = true
  · obtain ⟨h1, h2, h3, h4, h5, h6⟩ := hmain
    obtain ⟨ch, rfl⟩ : ∃ n : Nat, a0 = (n : Int) := ⟨a0.toNat, by omega⟩
    obtain ⟨cl, rfl⟩ : ∃ n : Nat, a1 = (n : Int) := ⟨a1.toNat, by omega⟩
    obtain ⟨sz, rfl, hsz⟩ := u64_w a2 w2
    refine (hrow_main ch cl sz (by omega) (by omega) hsz p hwf (by rw [← hfb]; exact h1) (by rw [← hpb]; exact h6) B hv w h).mono fun e w' h => ?_
    exact ⟨h.1, h.2.below⟩
  · obtain ⟨va, vc, rfl, _⟩ := id h
    obtain ⟨A0, hA0⟩ : ∃ A0, A0 = (hpC p (.slice va p.hdr.length vc)) := ⟨_, rfl⟩
    have hA0l : A0.length = 32 := by rw [hA0]; rfl
    obtain ⟨zs, hzs⟩ : ∃ zs, zs = (hpC .zero (.slice none 0 0)) := ⟨_, rfl⟩
    have hzl : zs.length = 32 := by rw [hzs]; rfl
    have hall := alloc_sPr
    rw [← hzs] at hall
    rw [← hA0]
    have s33 : (Tryz.prog.info? 33).map (·.size) = some A0.length := by rw [hA0l]; exact size_iPr
    have cFit : ∀ W, Calls Tryz.prog 16 #[.agg A0.toArray] W fun e w' => e = .returned (.bool fb) ∧ Kept [] W w' := fun W => by rw [hA0, hfb]; exact zzFits2_any p hwf va vc W
    have cP1 : ∀ W, Kept [] w W → Calls Tryz.prog 17 #[.agg A0.toArray] W fun e w' => ∃ xa xc, e = .returned (.agg (hpC p.conv (.slice xa p.conv.hdr.length xc)).toArray) ∧ FSl (fun b => W.heap.size ≤ b) w' (.slice xa p.conv.hdr.length xc) p.conv.hdr ∧ Kept [] W w' := fun W hk => by
      rw [hA0]
      refine (hprop_any B p hwf _ W (h.kept hk (by simp))).mono ?_
      rintro e w' ⟨v, rfl, f1, f2⟩
      obtain ⟨xa, xc, rfl, _⟩ := id f1
      exact ⟨xa, xc, rfl, f1, f2⟩
    have cPP : ∀ W B xa xc, FSl B W (.slice xa p.conv.hdr.length xc) p.conv.hdr → Calls Tryz.prog 18 #[.agg (hpC p.conv (.slice xa p.conv.hdr.length xc)).toArray] W fun e w' => e = .returned (.bool pb) ∧ Kept [] W w' := fun W B xa xc hW => by
      rw [hpb]
      exact pprop_any B p.conv hwf.conv xa xc W hW
    obtain ⟨wA, hwA⟩ : ∃ wA, wA = w.alloc (.cells A0.toArray 33) := ⟨_, rfl⟩
    have hbA : Blk wA w.heap.size A0.toArray 33 := by rw [hwA]; exact Blk.new w _ _
    have hkA : Kept [] w wA := by rw [hwA]; exact (Kept.refl [] w).alloc _
    have C := Lib.hid (And.intro cFit (And.intro cP1 cPP))
    have HZ := Lib.hid (And.intro hall hzl); have S33 := Lib.hid s33
    have HA := Lib.hid (And.intro hbA (And.intro hkA hwA))
    have hcase : fb = false ∨ (fb = true ∧ (decide (a0 < 0) = true ∨ (decide (a0 < 0) = false ∧ decide (65535 < a0) = true) ∨ (decide (a0 < 0) = false ∧ decide (65535 < a0) = false ∧ decide (a1 < 0) = true) ∨ (decide (a0 < 0) = false ∧ decide (65535 < a0) = false ∧ decide (a1 < 0) = false ∧ decide (65535 < a1) = true) ∨ (decide (a0 < 0) = false ∧ decide (65535 < a0) = false ∧ decide (a1 < 0) = false ∧ decide (65535 < a1) = false ∧ pb = false))) := by
      simp only [decide_eq_true_eq, decide_eq_false_iff_not]
      cases fb
      · exact .inl rfl
      · refine .inr ⟨rfl, ?_⟩
        cases pb
        · simp
          omega
        · simp only [true_and, and_true] at hmain
          simp
          omega
    clear cFit cP1 cPP hA0 hA0l hall hzl hzs s33 h hwf hmain hpb hfb hbA hkA w2
    rcases hcase with rfl | ⟨rfl, hcase⟩
    · go_enter Tryz.func6, Tryz.ntmps6
      go_upto_region 1 with fail
      rw [← hwA]
      clear hwA
      obtain ⟨M0, hM0⟩ : ∃ b, b = w.heap.size := ⟨_, rfl⟩
      rw [← hM0] at HA ⊢
      clear hM0
      go_wp2_with (first
        | (refine wpList_load_cells rfl 33 (.tmp 7) rfl ⟨M0, 0, none⟩ rfl A0 HA.out.1.all _ Tryz.underlying33 rfl S33.out ?_)
        | (go_at_call 16; have hq := C.out.1 wA; (with_reducible refine hq.mono ?_); clear hq; rintro e w1 ⟨rfl, hk⟩; have HK := Lib.hid (HA.out.2.1.trans hk (by simp)); clear hk))
      go_ret
      exact ⟨rfl, HK.out.below⟩
    · rcases hcase with h0 | ⟨h0, h1⟩ | ⟨h0, h1, h2⟩ | ⟨h0, h1, h2, h3⟩ | ⟨h0, h1, h2, h3, rfl⟩ <;>
      (go_enter Tryz.func6, Tryz.ntmps6
       go_upto_region 1 with fail
       rw [← hwA]
       clear hwA
       obtain ⟨M0, hM0⟩ : ∃ b, b = w.heap.size := ⟨_, rfl⟩
       rw [← hM0] at HA ⊢
       clear hM0
       go_upto_region 3 with (first
        | (refine wpList_load_cells rfl 33 (.tmp 7) rfl ⟨M0, 0, none⟩ rfl A0 HA.out.1.all _ Tryz.underlying33 rfl S33.out ?_)
        | (go_at_call 16; have hq := C.out.1 wA; (with_reducible refine hq.mono ?_); clear hq; rintro e w1 ⟨rfl, hk⟩; have HA1 := Lib.hid (And.intro (HA.out.1.kept hk (by simp)) (HA.out.2.1.trans hk (by simp))); clear hk))
       go_upto_region 4 with (first
        | (refine wpList_load_cells rfl 33 (.tmp 7) rfl ⟨M0, 0, none⟩ rfl A0 HA1.out.1.all _ Tryz.underlying33 rfl S33.out ?_)
        | (go_at_call 17; have hq := C.out.2.1 w1 HA1.out.2; (with_reducible refine hq.mono ?_); clear hq; rintro e w2 ⟨xa, xc, rfl, hx, hk⟩; have H2 := Lib.hid (And.intro hx (HA1.out.2.trans hk (by simp))); clear hx hk)
        | (refine wpList_alloc rfl 9 rfl 54 rfl zs.toArray (HZ.out.1 _) ?_; intro w2a h1 h2 h3; have H2A := Lib.hid (And.intro h1 h2); clear h1 h2 h3)
        | (refine wpList_store_row (P := Tryz.prog) rfl rfl 54 (.tmp 9) (.tmp 21) rfl w2.heap.size rfl 54 zs (hpC p.conv (.slice xa p.conv.hdr.length xc)) H2A.out.1 rfl (by rw [HZ.out.2]; rfl) (hpC_one _ _ rfl) size_sPr ?_; intro w3 hb3 hk3; have hk3' := H2A.out.2.trans hk3 (S' := [w2.heap.size]) (fun x hx => .inr (by simp at hx; omega)); have H3 := Lib.hid (And.intro hb3 (And.intro (H2.out.1.kept hk3' (by simp)) (H2.out.2.trans hk3' (by simp)))); clear hb3 hk3 hk3'))
       obtain ⟨X0, hX0⟩ : ∃ b, b = w2.heap.size := ⟨_, rfl⟩
       rw [← hX0] at H3 ⊢
       clear hX0
       go_wp2_with (first
        | (refine wpList_load_cells_gh (by rfl) 54 (.tmp 9) rfl ⟨X0, 0, none⟩ rfl _ H3.out.1.all _ Tryz.underlying54 rfl size_sPr ?_)
        | (go_at_call 18; have hq := C.out.2.2 w3 _ _ _ H3.out.2.1; (with_reducible refine hq.mono ?_); clear hq; rintro e w4 ⟨rfl, hk⟩; have HG := Lib.hid (H3.out.2.2.trans hk (by simp)); clear hk)
        | (go_at_call 7; (with_reducible refine (works_any _).mono ?_); rintro e w5 ⟨rfl, hk⟩; have HK := Lib.hid hk; clear hk))
       go_ret
       exact ⟨rfl, by first | exact (HG.out.trans HK.out (by simp)).below | exact (H3.out.2.2.trans HK.out (by simp)).below⟩)
end Go.Proofs.YtkcdakohmfodjaaGreat
