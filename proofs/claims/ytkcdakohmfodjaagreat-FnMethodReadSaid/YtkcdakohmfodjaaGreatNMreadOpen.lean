/-
  Lemmas on the way to the statement of YtkcdakohmfodjaaGreatMethodRead, joined out of these texts: MreadOpen. No condition.
-/
import Derived.Test.YtkcdakohmfodjaaGreatNBrkWalk
import Derived.Test.YtkcdakohmfodjaaGreatNMread
namespace Go.Proofs.YtkcdakohmfodjaaGreat
open Go.RowKit
set_option linter.unusedVariables false
set_option linter.unusedSimpArgs false
theorem zzFits1_no (c m : Int) (aa : Option Addr) (n ac : Nat) (hn : 2147483647 < n) (w : World) : Calls Tryz.prog 10 #[.agg #[.int .i64 c, .int .i64 m, .slice aa n ac]] w fun e w' => e = .returned (.bool false) ∧ Kept [] w w' :=
  (zzFits1_any c m aa n ac w).mono fun e w' h => ⟨by rw [h.1, decide_eq_false (by omega)], h.2⟩
set_option maxHeartbeats 4000000 in
set_option maxRecDepth 100000 in
theorem mread_any (a0 c m : Int) (av : Value) (args : List MArg) (a2 : Option Addr) (len2 cap2 : Nat) (z2 : List Int) (w : World) (w0 : (Lit.int .i64 a0).wf = true) (h : ASl (There w) w av args) (hwf : ∀ a ∈ args, WfA a) (hal : args.length ≤ 140737488355328)
    (wc : (Lit.int .i64 c).wf = true) (wm : (Lit.int .i64 m).wf = true)
    (w2 : (a2 = none ∧ len2 = 0 ∧ cap2 = 0 ∧ z2 = []) ∨
      ∃ x, a2 = some x ∧ len2 ≤ cap2 ∧ cap2 ≤ maxLen ∧ z2.length = cap2 ∧ (∀ i, i < z2.length → w.cell? (x.add i) = some (.int .u8 (z2.getD i 0))) ∧ ∀ n ∈ z2, (Lit.int .u8 n).wf = true) :
    Calls Tryz.prog 4 #[.int .i64 a0, .agg #[.int .i64 c, .int .i64 m, av], .slice a2 len2 cap2] w fun e w' => e = .returned (.bool true) ∧ Below w.heap.size w w' := by
  obtain ⟨bl, d, hbl, hs, _⟩ := src_of w2
  clear w0 w2 wc wm
  obtain ⟨pb, hpb⟩ : ∃ pb, pb = properM c m (args.map convA) := ⟨_, rfl⟩
  by_cases hmain : args.length ≤ 2147483647 ∧ 0 ≤ a0 ∧ a0 ≤ 65535 ∧ pb = true ∧ len2 ≤ 100
  · obtain ⟨h1, h2, h3, h4, h5⟩ := hmain
    obtain ⟨ch, rfl⟩ : ∃ n : Nat, a0 = (n : Int) := ⟨a0.toNat, by omega⟩
    refine (mread_main ch c m av args w h hwf h1 (by omega) (by rw [← hpb]; exact h4) _ d bl len2 hbl hs ⟨_, _, rfl⟩ h5).mono fun e w' h => ?_
    exact ⟨h.1, h.2.below⟩
  · obtain ⟨aa, ac, rfl, _⟩ := id h
    obtain ⟨wA, hwA⟩ : ∃ wA, wA = w.alloc (.cells #[.int .i64 c, .int .i64 m, .slice aa args.length ac] 27) := ⟨_, rfl⟩
    have hbA : Blk wA w.heap.size #[.int .i64 c, .int .i64 m, .slice aa args.length ac] 27 := by rw [hwA]; exact Blk.new w _ _
    have hkA : Kept [] w wA := by rw [hwA]; exact (Kept.refl [] w).alloc _
    have HA := Lib.hid (And.intro hbA (And.intro hkA hwA)); clear hbA hkA
    by_cases hfit : args.length ≤ 2147483647
    · by_cases hlen : len2 ≤ 2147483647
      · have cM : ∀ W, ASl (There w) W (.slice aa args.length ac) args → Calls Tryz.prog 11 #[.agg #[.int .i64 c, .int .i64 m, .slice aa args.length ac]] W fun e w' => ∃ oa ob, e = .returned (.agg #[.int .i64 c, .int .i64 m, .slice oa args.length ob]) ∧ ASl (fun b => W.heap.size ≤ b) w' (.slice oa args.length ob) (args.map convA) ∧ Kept [] W w' := fun W hW => by
          refine (lmethod_any _ W c m _ args hW hwf hfit).mono ?_
          rintro e w' ⟨out, rfl, r1, r2⟩
          obtain ⟨oa, ob, rfl, _⟩ := id r1
          rw [List.length_map] at r1 ⊢
          exact ⟨oa, ob, rfl, r1, r2⟩
        have cP : ∀ (W : World) (B : Nat → Prop) (v : Value), ASl B W v (args.map convA) → Calls Tryz.prog 12 #[.agg #[.int .i64 c, .int .i64 m, v]] W fun e w' => e = .returned (.bool pb) ∧ Kept [] W w' := fun W B v hv => by
          rw [hpb]
          exact pmeth_any B W c m v _ hv (fun a ha => by obtain ⟨b, hb, rfl⟩ := List.mem_map.1 ha; exact wf_convA (hwf b hb)) (by rw [List.length_map]; exact hfit)
        have C := Lib.hid (And.intro cM (And.intro cP (And.intro h hfit)))
        have hl1 : decide ((2147483647 : Int) < len2) = false := decide_eq_false (by omega)
        have hcase : decide (a0 < 0) = true ∨ (decide (a0 < 0) = false ∧ decide (65535 < a0) = true) ∨ (decide (a0 < 0) = false ∧ decide (65535 < a0) = false ∧ pb = false) ∨ (decide (a0 < 0) = false ∧ decide (65535 < a0) = false ∧ pb = true ∧ decide ((100 : Int) < len2) = true) := by
          simp only [decide_eq_true_eq, decide_eq_false_iff_not]
          cases pb
          · simp
            omega
          · simp only [hfit, true_and] at hmain
            simp
            omega
        clear cM cP h hwf hmain hpb hs hbl hal hfit hlen
        rcases hcase with h0 | ⟨h0, h1⟩ | ⟨h0, h1, rfl⟩ | ⟨h0, h1, rfl, h2⟩ <;>
        (go_enter Tryz.func4, Tryz.ntmps4
         go_upto_region 1 with fail
         rw [← hwA]
         clear hwA
         go_upto_region 3 with (first
          | (refine wpList_load_cells rfl 27 (.tmp 4) rfl _ rfl _ HA.out.1.three _ Tryz.underlying27 rfl size_iMeth ?_)
          | (go_at_call 10; have hq := zzFits1_yes c m aa args.length ac C.out.2.2.2 wA; (with_reducible refine hq.mono ?_); clear hq; rintro e w1 ⟨rfl, hk⟩; have HA1 := Lib.hid (And.intro (HA.out.1.kept hk (by simp)) (HA.out.2.1.trans hk (by simp))); clear hk))
         go_upto_region 4 with (first
          | (refine wpList_load_cells rfl 27 (.tmp 4) rfl _ rfl _ HA1.out.1.three _ Tryz.underlying27 rfl size_iMeth ?_)
          | (go_at_call 11; have hq := C.out.1 w1 (C.out.2.2.1.kept HA1.out.2 (by simp)); (with_reducible refine hq.mono ?_); clear hq; rintro e w2 ⟨xa, xc, rfl, hx, hk⟩; have H2 := Lib.hid (And.intro hx (HA1.out.2.trans hk (by simp))); clear hx hk)
          | (refine wpList_store_row (P := Tryz.prog) rfl rfl 42 (.tmp 7) (.tmp 21) rfl w2.heap.size rfl 42 _ [.int .i64 c, .int .i64 m, .slice xa args.length xc] (Blk.new w2 _ _) rfl rfl (by intro u hu; simp only [List.mem_cons, List.mem_nil_iff, or_false] at hu; rcases hu with rfl | rfl | rfl <;> rfl) size_sMeth ?_; intro w3 hb3 hk3; have hk3' := ((Kept.refl [] w2).alloc _).trans hk3 (S' := [w2.heap.size]) (fun x hx => .inr (by simp at hx; omega)); have H3 := Lib.hid (And.intro hb3 (And.intro (H2.out.1.kept hk3' (by simp)) (H2.out.2.trans hk3' (by simp)))); clear hb3 hk3 hk3'))
         obtain ⟨X0, hX0⟩ : ∃ b, b = w2.heap.size := ⟨_, rfl⟩
         rw [← hX0] at H3 ⊢
         clear hX0
         obtain ⟨wf, hwf⟩ : ∃ wf, wf = w3 := ⟨_, rfl⟩
         have HF := Lib.hid (show Kept [] w wf by rw [hwf]; exact H3.out.2.2)
         clear hwf
         go_wp2_with (first
          | (refine wpList_load_cells_g (by rfl) 42 (.tmp 7) rfl _ rfl _ H3.out.1.three _ Tryz.underlying42 rfl size_sMeth ?_)
          | (go_at_call 12; have hq := C.out.2.1 w3 _ _ H3.out.2.1; (with_reducible refine hq.mono ?_); clear hq; rintro e w4 ⟨rfl, hk⟩; have HG := Lib.hid (H3.out.2.2.trans hk (by simp)); clear hk)
          | (go_at_call 7; (with_reducible refine (works_any _).mono ?_); rintro e w5 ⟨rfl, hk⟩; have HK := Lib.hid hk; clear hk))
         go_ret
         exact ⟨rfl, by first | exact (HG.out.trans HK.out (by simp)).below | exact (H3.out.2.2.trans HK.out (by simp)).below⟩)
      · have hl1 : decide ((2147483647 : Int) < len2) = true := decide_eq_true (by omega)
        have C := Lib.hid hfit
        clear h hwf hmain hpb hs hbl hal hfit hlen
        go_enter Tryz.func4, Tryz.ntmps4
        go_upto_region 1 with fail
        rw [← hwA]
        clear hwA
        go_wp2_with (first
          | (refine wpList_load_cells rfl 27 (.tmp 4) rfl _ rfl _ HA.out.1.three _ Tryz.underlying27 rfl size_iMeth ?_)
          | (go_at_call 10; have hq := zzFits1_yes c m aa args.length ac C.out wA; (with_reducible refine hq.mono ?_); clear hq; rintro e w1 ⟨rfl, hk⟩; have HK := Lib.hid (HA.out.2.1.trans hk (by simp)); clear hk))
        go_ret
        exact ⟨rfl, HK.out.below⟩
    · have C := Lib.hid hfit
      clear h hwf hmain hpb hs hbl hal hfit
      go_enter Tryz.func4, Tryz.ntmps4
      go_upto_region 1 with fail
      rw [← hwA]
      clear hwA
      go_wp2_with (first
        | (refine wpList_load_cells rfl 27 (.tmp 4) rfl _ rfl _ HA.out.1.three _ Tryz.underlying27 rfl size_iMeth ?_)
        | (go_at_call 10; have hq := zzFits1_no c m aa args.length ac (by have := C.out; omega) wA; (with_reducible refine hq.mono ?_); clear hq; rintro e w1 ⟨rfl, hk⟩; have HK := Lib.hid (HA.out.2.1.trans hk (by simp)); clear hk))
      go_ret
      exact ⟨rfl, HK.out.below⟩
end Go.Proofs.YtkcdakohmfodjaaGreat
