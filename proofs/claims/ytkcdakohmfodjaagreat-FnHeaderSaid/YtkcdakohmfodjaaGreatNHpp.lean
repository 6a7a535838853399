/-
  Lemmas on the way to the statement of YtkcdakohmfodjaaGreatHeader, joined out of these texts: Hpp. No condition.
-/
import Derived.Test.YtkcdakohmfodjaaGreatNHpl
import Derived.Test.YtkcdakohmfodjaaGreatNPropV
namespace Go.Proofs.YtkcdakohmfodjaaGreat
open Go.RowKit
set_option linter.unusedVariables false
set_option linter.unusedSimpArgs false
set_option maxHeartbeats 16000000 in
set_option maxRecDepth 100000 in
theorem pprop_any (B : Nat → Prop) (p : HP) (hwf : WfP p) (ha : Option Addr) (hc : Nat) (w : World) (h : FSl B w (.slice ha p.hdr.length hc) p.hdr) :
    Calls Tryz.prog 18 #[.agg (hpC p (.slice ha p.hdr.length hc)).toArray] w fun e w' => e = .returned (.bool (properP p)) ∧ Kept [] w w' := by
  obtain ⟨pb, hpb⟩ : ∃ pb, pb = properP p := ⟨_, rfl⟩
  rw [← hpb]
  obtain ⟨cs, hcs⟩ : ∃ cs, cs = (hpC p (.slice ha p.hdr.length hc)).toArray := ⟨_, rfl⟩
  rw [← hcs]
  obtain ⟨wA, hwA⟩ : ∃ wA, wA = w.alloc (.cells cs 54) := ⟨_, rfl⟩
  have hbA : Blk wA w.heap.size (hpC p (.slice ha p.hdr.length hc)).toArray 54 := by rw [hwA, ← hcs]; exact Blk.new w _ _
  have hkA : Kept [] w wA := by rw [hwA]; exact (Kept.refl [] w).alloc _
  obtain ⟨g, hg⟩ : ∃ g, g = w.heap.size := ⟨_, rfl⟩
  rw [← hg] at hbA
  obtain ⟨ts, hts⟩ : ∃ ts, ts = (hpB p).toArray := ⟨_, rfl⟩
  have hix := run_index_has p
  rw [← hts] at hix
  have hfit := fits_any B (.slice ha p.hdr.length hc) p.hdr wA (h.kept hkA (by simp)) hwf.hdr hwf.hlen
  have HA := Lib.hid (And.intro hbA (And.intro hkA (And.intro hix (And.intro hts (And.intro hwf (And.intro hfit hpb))))))
  have m0 := hp_mode hbA; have m1 := hp_prio hbA; have m2 := hp_time hbA; have m3 := hp_hdr hbA
  have hhl : (p.hdr.length : Int) ≤ 140737488355328 := by have := hwf.hlen; omega
  have HCS := Lib.hid (And.intro hcs hg)
  clear hbA hkA hix hts hwf hfit hpb h hcs
  go_enter Tryz.func18, Tryz.ntmps18
  go_upto_region 1 with fail
  rw [← hwA, ← hg]
  clear hwA hg
  go_wp2_with (refine wpList_load_cells rfl 29 (.tmp 5) rfl ⟨g, 0, none⟩ rfl (hpB p) (hp_bools HA.out.1) _ Tryz.underlying29 rfl size_14b ?_; rw [← HA.out.2.2.2.1])
  go_loopw [7] (fun i W => ∃ k : Nat, i = .int .i64 (k : Int) ∧ k ≤ 14 ∧ Hid ((∀ j, j < k → p.okAt j = true) ∧ W = wA)) (fun i _ => 14 - (intOf i).toNat)
  case atStart => exact ⟨0, rfl, Nat.zero_le _, Lib.hid ⟨fun j hj => absurd hj (by omega), rfl⟩⟩
  case round =>
    obtain ⟨k, rfl, hk, HR⟩ := hrel
    obtain rfl := HR.out.2
    by_cases hlt : k < 14
    · have hlt' : (k : Int) < 14 := by omega
      have hwk : IntKind.i64.wrap ((k : Int) + 1) = (k : Int) + 1 := by rw [IntKind.wrap_i64]; omega
      have htl : ((p.txt k).length : Int) ≤ 140737488355328 := by have := HA.out.2.2.2.2.1.txt k hlt; omega
      have htx := hp_txt HA.out.1 k hlt
      have hrb := HA.out.2.2.1 k hlt
      have hro := HR.out.1
      clear HR
      by_cases h2 : k = 2
      · have hte : p.okAt k = (p.has k == decide (p.hdr ≠ [])) := by unfold HP.okAt; rw [if_pos h2]
        subst h2
        by_cases he : p.hdr ≠ []
        · have hd : decide (p.hdr ≠ []) = true := decide_eq_true he
          rw [hd] at hte
          clear hd
          have hp1 : 0 < p.hdr.length := List.length_pos_iff.2 he
          have hp2 : (0 : Int) < p.hdr.length := by omega
          cases hh : p.has 2 <;> rw [hh] at hte hrb <;> (have HF := Lib.hid hte; have HRB := Lib.hid hrb; have HRO := Lib.hid hro; clear hte hrb hro hh htx hwk htl hlt hk)
          · go_wp2_with (refine wpList_index_arr rfl 29 (.tmp 6) (.tmp 7) rfl ts rfl 2 rfl _ (HRB.out _) ?_)
            go_ret
            exact ⟨by rw [HA.out.2.2.2.2.2.2, properP_at 2 (by omega) HF.out]; rfl, HA.out.2.1⟩
          · go_wp2_with (refine wpList_index_arr rfl 29 (.tmp 6) (.tmp 7) rfl ts rfl 2 rfl _ (HRB.out _) ?_)
            go_roundw
            case rel => exact ⟨2 + 1, rfl, by omega, Lib.hid ⟨upto_succ HRO.out HF.out, by trivial⟩⟩
            case measure => simp [intOf]
        · have hd : decide (p.hdr ≠ []) = false := decide_eq_false he
          rw [hd] at hte
          clear hd
          have hp1 : ¬ 0 < p.hdr.length := fun h => he (List.length_pos_iff.1 h)
          have hp2 : ¬ (0 : Int) < p.hdr.length := by omega
          cases hh : p.has 2 <;> rw [hh] at hte hrb <;> (have HF := Lib.hid hte; have HRB := Lib.hid hrb; have HRO := Lib.hid hro; clear hte hrb hro hh htx hwk htl hlt hk)
          · go_wp2_with (refine wpList_index_arr rfl 29 (.tmp 6) (.tmp 7) rfl ts rfl 2 rfl _ (HRB.out _) ?_)
            go_roundw
            case rel => exact ⟨2 + 1, rfl, by omega, Lib.hid ⟨upto_succ HRO.out HF.out, by trivial⟩⟩
            case measure => simp [intOf]
          · go_wp2_with (refine wpList_index_arr rfl 29 (.tmp 6) (.tmp 7) rfl ts rfl 2 rfl _ (HRB.out _) ?_)
            go_ret
            exact ⟨by rw [HA.out.2.2.2.2.2.2, properP_at 2 (by omega) HF.out]; rfl, HA.out.2.1⟩
      by_cases h3 : k = 3
      · have hte : p.okAt k = (p.has k == decide (0 < p.mode)) := by unfold HP.okAt; rw [if_neg h2, if_pos h3]
        subst h3
        by_cases he : 0 < p.mode
        · have hd : decide (0 < p.mode) = true := decide_eq_true he
          rw [hd] at hte
          clear hd
          cases hh : p.has 3 <;> rw [hh] at hte hrb <;> (have HF := Lib.hid hte; have HRB := Lib.hid hrb; have HRO := Lib.hid hro; clear hte hrb hro hh htx hwk htl hlt hk)
          · go_wp2_with (refine wpList_index_arr rfl 29 (.tmp 6) (.tmp 7) rfl ts rfl 3 rfl _ (HRB.out _) ?_)
            go_ret
            exact ⟨by rw [HA.out.2.2.2.2.2.2, properP_at 3 (by omega) HF.out]; rfl, HA.out.2.1⟩
          · go_wp2_with (refine wpList_index_arr rfl 29 (.tmp 6) (.tmp 7) rfl ts rfl 3 rfl _ (HRB.out _) ?_)
            go_roundw
            case rel => exact ⟨3 + 1, rfl, by omega, Lib.hid ⟨upto_succ HRO.out HF.out, by trivial⟩⟩
            case measure => simp [intOf]
        · have hd : decide (0 < p.mode) = false := decide_eq_false he
          rw [hd] at hte
          clear hd
          cases hh : p.has 3 <;> rw [hh] at hte hrb <;> (have HF := Lib.hid hte; have HRB := Lib.hid hrb; have HRO := Lib.hid hro; clear hte hrb hro hh htx hwk htl hlt hk)
          · go_wp2_with (refine wpList_index_arr rfl 29 (.tmp 6) (.tmp 7) rfl ts rfl 3 rfl _ (HRB.out _) ?_)
            go_roundw
            case rel => exact ⟨3 + 1, rfl, by omega, Lib.hid ⟨upto_succ HRO.out HF.out, by trivial⟩⟩
            case measure => simp [intOf]
          · go_wp2_with (refine wpList_index_arr rfl 29 (.tmp 6) (.tmp 7) rfl ts rfl 3 rfl _ (HRB.out _) ?_)
            go_ret
            exact ⟨by rw [HA.out.2.2.2.2.2.2, properP_at 3 (by omega) HF.out]; rfl, HA.out.2.1⟩
      by_cases h4 : k = 4
      · have hte : p.okAt k = (p.has k == decide (0 < p.prio)) := by unfold HP.okAt; rw [if_neg h2, if_neg h3, if_pos h4]
        subst h4
        by_cases he : 0 < p.prio
        · have hd : decide (0 < p.prio) = true := decide_eq_true he
          rw [hd] at hte
          clear hd
          cases hh : p.has 4 <;> rw [hh] at hte hrb <;> (have HF := Lib.hid hte; have HRB := Lib.hid hrb; have HRO := Lib.hid hro; clear hte hrb hro hh htx hwk htl hlt hk)
          · go_wp2_with (refine wpList_index_arr rfl 29 (.tmp 6) (.tmp 7) rfl ts rfl 4 rfl _ (HRB.out _) ?_)
            go_ret
            exact ⟨by rw [HA.out.2.2.2.2.2.2, properP_at 4 (by omega) HF.out]; rfl, HA.out.2.1⟩
          · go_wp2_with (refine wpList_index_arr rfl 29 (.tmp 6) (.tmp 7) rfl ts rfl 4 rfl _ (HRB.out _) ?_)
            go_roundw
            case rel => exact ⟨4 + 1, rfl, by omega, Lib.hid ⟨upto_succ HRO.out HF.out, by trivial⟩⟩
            case measure => simp [intOf]
        · have hd : decide (0 < p.prio) = false := decide_eq_false he
          rw [hd] at hte
          clear hd
          cases hh : p.has 4 <;> rw [hh] at hte hrb <;> (have HF := Lib.hid hte; have HRB := Lib.hid hrb; have HRO := Lib.hid hro; clear hte hrb hro hh htx hwk htl hlt hk)
          · go_wp2_with (refine wpList_index_arr rfl 29 (.tmp 6) (.tmp 7) rfl ts rfl 4 rfl _ (HRB.out _) ?_)
            go_roundw
            case rel => exact ⟨4 + 1, rfl, by omega, Lib.hid ⟨upto_succ HRO.out HF.out, by trivial⟩⟩
            case measure => simp [intOf]
          · go_wp2_with (refine wpList_index_arr rfl 29 (.tmp 6) (.tmp 7) rfl ts rfl 4 rfl _ (HRB.out _) ?_)
            go_ret
            exact ⟨by rw [HA.out.2.2.2.2.2.2, properP_at 4 (by omega) HF.out]; rfl, HA.out.2.1⟩
      by_cases h9 : k = 9
      · have hte : p.okAt k = (p.has k == decide (0 < p.time)) := by unfold HP.okAt; rw [if_neg h2, if_neg h3, if_neg h4, if_pos h9]
        subst h9
        by_cases he : 0 < p.time
        · have hd : decide (0 < p.time) = true := decide_eq_true he
          rw [hd] at hte
          clear hd
          cases hh : p.has 9 <;> rw [hh] at hte hrb <;> (have HF := Lib.hid hte; have HRB := Lib.hid hrb; have HRO := Lib.hid hro; clear hte hrb hro hh htx hwk htl hlt hk)
          · go_wp2_with (refine wpList_index_arr rfl 29 (.tmp 6) (.tmp 7) rfl ts rfl 9 rfl _ (HRB.out _) ?_)
            go_ret
            exact ⟨by rw [HA.out.2.2.2.2.2.2, properP_at 9 (by omega) HF.out]; rfl, HA.out.2.1⟩
          · go_wp2_with (refine wpList_index_arr rfl 29 (.tmp 6) (.tmp 7) rfl ts rfl 9 rfl _ (HRB.out _) ?_)
            go_roundw
            case rel => exact ⟨9 + 1, rfl, by omega, Lib.hid ⟨upto_succ HRO.out HF.out, by trivial⟩⟩
            case measure => simp [intOf]
        · have hd : decide (0 < p.time) = false := decide_eq_false he
          rw [hd] at hte
          clear hd
          cases hh : p.has 9 <;> rw [hh] at hte hrb <;> (have HF := Lib.hid hte; have HRB := Lib.hid hrb; have HRO := Lib.hid hro; clear hte hrb hro hh htx hwk htl hlt hk)
          · go_wp2_with (refine wpList_index_arr rfl 29 (.tmp 6) (.tmp 7) rfl ts rfl 9 rfl _ (HRB.out _) ?_)
            go_roundw
            case rel => exact ⟨9 + 1, rfl, by omega, Lib.hid ⟨upto_succ HRO.out HF.out, by trivial⟩⟩
            case measure => simp [intOf]
          · go_wp2_with (refine wpList_index_arr rfl 29 (.tmp 6) (.tmp 7) rfl ts rfl 9 rfl _ (HRB.out _) ?_)
            go_ret
            exact ⟨by rw [HA.out.2.2.2.2.2.2, properP_at 9 (by omega) HF.out]; rfl, HA.out.2.1⟩
      by_cases h13 : k = 13
      · have hte : p.okAt k = (!p.has k && decide (p.txt k = [])) := by unfold HP.okAt; rw [if_neg h2, if_neg h3, if_neg h4, if_neg h9, if_pos h13]
        subst h13
        simp only [Nat.reduceAdd] at htx
        by_cases he : p.txt 13 = []
        · rw [he] at htx hte htl
          rw [bstr_nilH] at htx
          cases hh : p.has 13 <;> rw [hh] at hte hrb <;> (have HF := Lib.hid hte; have HRB := Lib.hid hrb; have HRO := Lib.hid hro; clear hte hrb hro hh he)
          · go_wp2_with (first | (refine wpList_index_arr rfl 29 (.tmp 6) (.tmp 7) rfl ts rfl 13 rfl _ (HRB.out _) ?_) | (refine wpList_indexAt_g (by rfl) 30 (.tmp 61) (.tmp 60) rfl ⟨g, 14, none⟩ ⟨g, 27, none⟩ rfl 13 rfl (run_indexAt_txt g 13 (by omega) _) ?_))
            go_roundw
            case rel => exact ⟨13 + 1, rfl, by omega, Lib.hid ⟨upto_succ HRO.out HF.out, by trivial⟩⟩
            case measure => simp [intOf]
          · go_wp2_with (first | (refine wpList_index_arr rfl 29 (.tmp 6) (.tmp 7) rfl ts rfl 13 rfl _ (HRB.out _) ?_) | (refine wpList_indexAt_g (by rfl) 30 (.tmp 61) (.tmp 60) rfl ⟨g, 14, none⟩ ⟨g, 27, none⟩ rfl 13 rfl (run_indexAt_txt g 13 (by omega) _) ?_))
            go_ret
            exact ⟨by rw [HA.out.2.2.2.2.2.2, properP_at 13 (by omega) HF.out]; rfl, HA.out.2.1⟩
        · have hne := bstr_neH _ he
          have hie : (p.txt 13).isEmpty = false := List.isEmpty_eq_false_iff.2 he
          have hnt : decide (p.txt 13 = []) = false := decide_eq_false he
          rw [hnt] at hte
          cases hh : p.has 13 <;> rw [hh] at hte hrb <;> (have HF := Lib.hid hte; have HRB := Lib.hid hrb; have HRO := Lib.hid hro; clear hte hrb hro hh he hnt)
          · go_wp2_with (first | (refine wpList_index_arr rfl 29 (.tmp 6) (.tmp 7) rfl ts rfl 13 rfl _ (HRB.out _) ?_) | (refine wpList_indexAt_g (by rfl) 30 (.tmp 61) (.tmp 60) rfl ⟨g, 14, none⟩ ⟨g, 27, none⟩ rfl 13 rfl (run_indexAt_txt g 13 (by omega) _) ?_))
            go_ret
            exact ⟨by rw [HA.out.2.2.2.2.2.2, properP_at 13 (by omega) HF.out]; rfl, HA.out.2.1⟩
          · go_wp2_with (first | (refine wpList_index_arr rfl 29 (.tmp 6) (.tmp 7) rfl ts rfl 13 rfl _ (HRB.out _) ?_) | (refine wpList_indexAt_g (by rfl) 30 (.tmp 61) (.tmp 60) rfl ⟨g, 14, none⟩ ⟨g, 27, none⟩ rfl 13 rfl (run_indexAt_txt g 13 (by omega) _) ?_))
            go_ret
            exact ⟨by rw [HA.out.2.2.2.2.2.2, properP_at 13 (by omega) HF.out]; rfl, HA.out.2.1⟩
      · have d2 : ((k : Int) == 2) = false := by simp; omega
        have d3 : ((k : Int) == 3) = false := by simp; omega
        have d4 : ((k : Int) == 4) = false := by simp; omega
        have d9 : ((k : Int) == 9) = false := by simp; omega
        have d13 : ((k : Int) == 13) = false := by simp; omega
        have hte : p.okAt k = ((p.has k == decide (p.txt k ≠ [])) && decide ((p.txt k).length ≤ 255)) := by simp [HP.okAt, h2, h3, h4, h9, h13]
        clear h2 h3 h4 h9 h13
        by_cases he : p.txt k = []
        · rw [he] at htx hte htl
          rw [bstr_nilH] at htx
          cases hh : p.has k <;> rw [hh] at hte hrb <;> (have HF := Lib.hid hte; have HRB := Lib.hid hrb; have HRO := Lib.hid hro; clear hte hrb hro hh he)
          · have d255 : decide ((255 : Int) < 0) = false := rfl
            go_wp2_with (first | (refine wpList_index_arr rfl 29 (.tmp 6) (.tmp 7) rfl ts rfl k rfl _ (HRB.out _) ?_) | (refine wpList_indexAt_g (by rfl) 30 (.tmp 14) (.tmp 13) rfl ⟨g, 14, none⟩ ⟨g, 14 + k, none⟩ rfl k rfl (run_indexAt_txt g k hlt _) ?_) | (refine wpList_indexAt_g (by rfl) 30 (.tmp 21) (.tmp 20) rfl ⟨g, 14, none⟩ ⟨g, 14 + k, none⟩ rfl k rfl (run_indexAt_txt g k hlt _) ?_))
            go_roundw
            case rel => exact ⟨k + 1, rfl, by omega, Lib.hid ⟨upto_succ HRO.out HF.out, by trivial⟩⟩
            case measure => simp [intOf]; omega
          · go_wp2_with (first | (refine wpList_index_arr rfl 29 (.tmp 6) (.tmp 7) rfl ts rfl k rfl _ (HRB.out _) ?_) | (refine wpList_indexAt_g (by rfl) 30 (.tmp 14) (.tmp 13) rfl ⟨g, 14, none⟩ ⟨g, 14 + k, none⟩ rfl k rfl (run_indexAt_txt g k hlt _) ?_) | (refine wpList_indexAt_g (by rfl) 30 (.tmp 21) (.tmp 20) rfl ⟨g, 14, none⟩ ⟨g, 14 + k, none⟩ rfl k rfl (run_indexAt_txt g k hlt _) ?_))
            go_ret
            exact ⟨by rw [HA.out.2.2.2.2.2.2, properP_at k hlt HF.out]; rfl, HA.out.2.1⟩
        · have hne := bstr_neH _ he
          have hie : (p.txt k).isEmpty = false := List.isEmpty_eq_false_iff.2 he
          have hnt : decide (p.txt k ≠ []) = true := decide_eq_true he
          rw [hnt] at hte
          by_cases hl : (p.txt k).length ≤ 255
          · have dl : decide ((255 : Int) < (p.txt k).length) = false := decide_eq_false (by omega)
            have dll : decide ((p.txt k).length ≤ 255) = true := decide_eq_true hl
            rw [dll] at hte
            cases hh : p.has k <;> rw [hh] at hte hrb <;> (have HF := Lib.hid hte; have HRB := Lib.hid hrb; have HRO := Lib.hid hro; clear hte hrb hro hh he hnt hl dll)
            · go_wp2_with (first | (refine wpList_index_arr rfl 29 (.tmp 6) (.tmp 7) rfl ts rfl k rfl _ (HRB.out _) ?_) | (refine wpList_indexAt_g (by rfl) 30 (.tmp 14) (.tmp 13) rfl ⟨g, 14, none⟩ ⟨g, 14 + k, none⟩ rfl k rfl (run_indexAt_txt g k hlt _) ?_) | (refine wpList_indexAt_g (by rfl) 30 (.tmp 21) (.tmp 20) rfl ⟨g, 14, none⟩ ⟨g, 14 + k, none⟩ rfl k rfl (run_indexAt_txt g k hlt _) ?_))
              go_ret
              exact ⟨by rw [HA.out.2.2.2.2.2.2, properP_at k hlt HF.out]; rfl, HA.out.2.1⟩
            · go_wp2_with (first | (refine wpList_index_arr rfl 29 (.tmp 6) (.tmp 7) rfl ts rfl k rfl _ (HRB.out _) ?_) | (refine wpList_indexAt_g (by rfl) 30 (.tmp 14) (.tmp 13) rfl ⟨g, 14, none⟩ ⟨g, 14 + k, none⟩ rfl k rfl (run_indexAt_txt g k hlt _) ?_) | (refine wpList_indexAt_g (by rfl) 30 (.tmp 21) (.tmp 20) rfl ⟨g, 14, none⟩ ⟨g, 14 + k, none⟩ rfl k rfl (run_indexAt_txt g k hlt _) ?_))
              go_roundw
              case rel => exact ⟨k + 1, rfl, by omega, Lib.hid ⟨upto_succ HRO.out HF.out, by trivial⟩⟩
              case measure => simp [intOf]; omega
          · have dl : decide ((255 : Int) < (p.txt k).length) = true := decide_eq_true (by omega)
            have dll : decide ((p.txt k).length ≤ 255) = false := decide_eq_false hl
            rw [dll] at hte
            cases hh : p.has k <;> rw [hh] at hte hrb <;> (have HF := Lib.hid hte; have HRB := Lib.hid hrb; have HRO := Lib.hid hro; clear hte hrb hro hh he hnt hl dll)
            · go_wp2_with (first | (refine wpList_index_arr rfl 29 (.tmp 6) (.tmp 7) rfl ts rfl k rfl _ (HRB.out _) ?_) | (refine wpList_indexAt_g (by rfl) 30 (.tmp 14) (.tmp 13) rfl ⟨g, 14, none⟩ ⟨g, 14 + k, none⟩ rfl k rfl (run_indexAt_txt g k hlt _) ?_) | (refine wpList_indexAt_g (by rfl) 30 (.tmp 21) (.tmp 20) rfl ⟨g, 14, none⟩ ⟨g, 14 + k, none⟩ rfl k rfl (run_indexAt_txt g k hlt _) ?_))
              go_ret
              exact ⟨by rw [HA.out.2.2.2.2.2.2, properP_at k hlt HF.out]; rfl, HA.out.2.1⟩
            · go_wp2_with (first | (refine wpList_index_arr rfl 29 (.tmp 6) (.tmp 7) rfl ts rfl k rfl _ (HRB.out _) ?_) | (refine wpList_indexAt_g (by rfl) 30 (.tmp 14) (.tmp 13) rfl ⟨g, 14, none⟩ ⟨g, 14 + k, none⟩ rfl k rfl (run_indexAt_txt g k hlt _) ?_) | (refine wpList_indexAt_g (by rfl) 30 (.tmp 21) (.tmp 20) rfl ⟨g, 14, none⟩ ⟨g, 14 + k, none⟩ rfl k rfl (run_indexAt_txt g k hlt _) ?_))
              go_ret
              exact ⟨by rw [HA.out.2.2.2.2.2.2, properP_at k hlt HF.out]; rfl, HA.out.2.1⟩
    · obtain rfl : k = 14 := by omega
      have hend := properP_end HR.out.1
      clear HR
      unfold HP.okEnd at hend
      obtain ⟨b0, hb0⟩ : ∃ b, b = decide (0 ≤ p.mode) := ⟨_, rfl⟩
      obtain ⟨b1, hb1⟩ : ∃ b, b = decide (p.mode ≤ 255) := ⟨_, rfl⟩
      obtain ⟨b2, hb2⟩ : ∃ b, b = decide (0 ≤ p.prio) := ⟨_, rfl⟩
      obtain ⟨b3, hb3⟩ : ∃ b, b = decide (p.prio ≤ 255) := ⟨_, rfl⟩
      obtain ⟨b4, hb4⟩ : ∃ b, b = decide (0 ≤ p.time) := ⟨_, rfl⟩
      obtain ⟨b5, hb5⟩ : ∃ b, b = decide (p.time < 1099511627776) := ⟨_, rfl⟩
      rw [← hb0, ← hb1, ← hb2, ← hb3, ← hb4, ← hb5] at hend
      have e0 := hb0.symm
      have e1 := hb1.symm
      have e2 := hb2.symm
      have e3 := hb3.symm
      have e4 := hb4.symm
      have e5 := hb5.symm
      clear hb0 hb1 hb2 hb3 hb4 hb5
      obtain ⟨fb, hfb⟩ : ∃ fb, fb = fitsB p.hdr := ⟨_, rfl⟩
      have hfit := HA.out.2.2.2.2.2.1
      rw [← hfb] at hend hfit
      have HFT := Lib.hid hfit; clear hfit hfb
      cases b0
      · have HF := Lib.hid hend; clear hend
        go_wp2_with fail
        go_ret
        exact ⟨by rw [HA.out.2.2.2.2.2.2, HF.out]; simp, HA.out.2.1⟩
      · cases b1
        · have HF := Lib.hid hend; clear hend
          go_wp2_with fail
          go_ret
          exact ⟨by rw [HA.out.2.2.2.2.2.2, HF.out]; simp, HA.out.2.1⟩
        · cases b2
          · have HF := Lib.hid hend; clear hend
            go_wp2_with fail
            go_ret
            exact ⟨by rw [HA.out.2.2.2.2.2.2, HF.out]; simp, HA.out.2.1⟩
          · cases b3
            · have HF := Lib.hid hend; clear hend
              go_wp2_with fail
              go_ret
              exact ⟨by rw [HA.out.2.2.2.2.2.2, HF.out]; simp, HA.out.2.1⟩
            · cases b4
              · have HF := Lib.hid hend; clear hend
                go_wp2_with fail
                go_ret
                exact ⟨by rw [HA.out.2.2.2.2.2.2, HF.out]; simp, HA.out.2.1⟩
              · cases b5
                · have HF := Lib.hid hend; clear hend
                  go_wp2_with fail
                  go_ret
                  exact ⟨by rw [HA.out.2.2.2.2.2.2, HF.out]; simp, HA.out.2.1⟩
                · cases fb
                  · have HF := Lib.hid hend; clear hend
                    go_wp2_with (go_at_call 37; (with_reducible refine HFT.out.mono ?_); rintro e w1 ⟨rfl, hk⟩; have HK := Lib.hid hk; clear hk)
                    go_ret
                    exact ⟨by rw [HA.out.2.2.2.2.2.2, HF.out]; simp, HA.out.2.1.trans HK.out (by simp)⟩
                  · by_cases hx : p.txt 2 ++ p.txt 3 ++ p.txt 4 ++ p.txt 9 = []
                    · have hxd : decide (p.txt 2 ++ p.txt 3 ++ p.txt 4 ++ p.txt 9 = []) = true := decide_eq_true hx
                      rw [hxd] at hend
                      have x2 := hp_txt HA.out.1 2 (by omega); have x3 := hp_txt HA.out.1 3 (by omega); have x4 := hp_txt HA.out.1 4 (by omega); have x9 := hp_txt HA.out.1 9 (by omega)
                      simp only [Nat.reduceAdd] at x2 x3 x4 x9
                      simp only [List.append_eq_nil_iff] at hx
                      rw [hx.1.1.1, bstr_nilH] at x2; rw [hx.1.1.2, bstr_nilH] at x3; rw [hx.1.2, bstr_nilH] at x4; rw [hx.2, bstr_nilH] at x9
                      have hcc : ((⟨#[]⟩ : ByteArray) ++ ⟨#[]⟩) = ⟨#[]⟩ := bstr_cat [] []
                      clear hx hxd
                      have HF := Lib.hid hend; clear hend
                      go_wp2_with (first | (go_at_call 37; (with_reducible refine HFT.out.mono ?_); rintro e w1 ⟨rfl, hk⟩; have y2 := hk.cell x2 (by simp); have y3 := hk.cell x3 (by simp); have y4 := hk.cell x4 (by simp); have y9 := hk.cell x9 (by simp); have HK := Lib.hid hk; clear hk) | (refine wpList_indexAt_g (by rfl) 30 (.tmp 101) (.const (.int .i64 2)) rfl ⟨g, 14, none⟩ ⟨g, 14 + 2, none⟩ rfl 2 rfl (run_indexAt_txt g 2 (by omega) _) ?_) | (refine wpList_indexAt_g (by rfl) 30 (.tmp 104) (.const (.int .i64 3)) rfl ⟨g, 14, none⟩ ⟨g, 14 + 3, none⟩ rfl 3 rfl (run_indexAt_txt g 3 (by omega) _) ?_) | (refine wpList_indexAt_g (by rfl) 30 (.tmp 108) (.const (.int .i64 4)) rfl ⟨g, 14, none⟩ ⟨g, 14 + 4, none⟩ rfl 4 rfl (run_indexAt_txt g 4 (by omega) _) ?_) | (refine wpList_indexAt_g (by rfl) 30 (.tmp 112) (.const (.int .i64 9)) rfl ⟨g, 14, none⟩ ⟨g, 14 + 9, none⟩ rfl 9 rfl (run_indexAt_txt g 9 (by omega) _) ?_) | (refine wpList_cat_g (by rfl) (.tmp 103) (.tmp 106) _ rfl (p.txt 2) (p.txt 3) rfl rfl (by have h2 := HA.out.2.2.2.2.1.txt 2 (by omega); have h3 := HA.out.2.2.2.2.1.txt 3 (by omega); have h4 := HA.out.2.2.2.2.1.txt 4 (by omega); have h9 := HA.out.2.2.2.2.1.txt 9 (by omega); (try simp only [List.length_append]); omega) ?_) | (refine wpList_cat_g (by rfl) (.tmp 107) (.tmp 110) _ rfl (p.txt 2 ++ p.txt 3) (p.txt 4) rfl rfl (by have h2 := HA.out.2.2.2.2.1.txt 2 (by omega); have h3 := HA.out.2.2.2.2.1.txt 3 (by omega); have h4 := HA.out.2.2.2.2.1.txt 4 (by omega); have h9 := HA.out.2.2.2.2.1.txt 9 (by omega); (try simp only [List.length_append]); omega) ?_) | (refine wpList_cat_g (by rfl) (.tmp 111) (.tmp 114) _ rfl (p.txt 2 ++ p.txt 3 ++ p.txt 4) (p.txt 9) rfl rfl (by have h2 := HA.out.2.2.2.2.1.txt 2 (by omega); have h3 := HA.out.2.2.2.2.1.txt 3 (by omega); have h4 := HA.out.2.2.2.2.1.txt 4 (by omega); have h9 := HA.out.2.2.2.2.1.txt 9 (by omega); (try simp only [List.length_append]); omega) ?_))
                      go_ret
                      exact ⟨by rw [HA.out.2.2.2.2.2.2, HF.out]; simp, HA.out.2.1.trans HK.out (by simp)⟩
                    · have hxd : decide (p.txt 2 ++ p.txt 3 ++ p.txt 4 ++ p.txt 9 = []) = false := decide_eq_false hx
                      rw [hxd] at hend
                      have x2 := hp_txt HA.out.1 2 (by omega); have x3 := hp_txt HA.out.1 3 (by omega); have x4 := hp_txt HA.out.1 4 (by omega); have x9 := hp_txt HA.out.1 9 (by omega)
                      simp only [Nat.reduceAdd] at x2 x3 x4 x9
                      have hie : (p.txt 2 ++ p.txt 3 ++ p.txt 4 ++ p.txt 9).isEmpty = false := List.isEmpty_eq_false_iff.2 hx
                      have g2 := HA.out.2.2.2.2.1.txt 2 (by omega); have g3 := HA.out.2.2.2.2.1.txt 3 (by omega); have g4 := HA.out.2.2.2.2.1.txt 4 (by omega); have g9 := HA.out.2.2.2.2.1.txt 9 (by omega)
                      have hs1 : ¬ (9223372036854775807 : Int) < ((p.txt 2).length : Int) + (p.txt 3).length := by omega
                      have hs2 : ¬ (9223372036854775807 : Int) < ((p.txt 2).length : Int) + (p.txt 3).length + (p.txt 4).length := by omega
                      have hs3 : ¬ (9223372036854775807 : Int) < ((p.txt 2).length : Int) + (p.txt 3).length + (p.txt 4).length + (p.txt 9).length := by omega
                      have HIE := Lib.hid hie; clear hx hxd g2 g3 g4 g9 hie
                      have HF := Lib.hid hend; clear hend
                      go_wp2_with (first | (go_at_call 37; (with_reducible refine HFT.out.mono ?_); rintro e w1 ⟨rfl, hk⟩; have y2 := hk.cell x2 (by simp); have y3 := hk.cell x3 (by simp); have y4 := hk.cell x4 (by simp); have y9 := hk.cell x9 (by simp); have HK := Lib.hid hk; clear hk) | (refine wpList_indexAt_g (by rfl) 30 (.tmp 101) (.const (.int .i64 2)) rfl ⟨g, 14, none⟩ ⟨g, 14 + 2, none⟩ rfl 2 rfl (run_indexAt_txt g 2 (by omega) _) ?_) | (refine wpList_indexAt_g (by rfl) 30 (.tmp 104) (.const (.int .i64 3)) rfl ⟨g, 14, none⟩ ⟨g, 14 + 3, none⟩ rfl 3 rfl (run_indexAt_txt g 3 (by omega) _) ?_) | (refine wpList_indexAt_g (by rfl) 30 (.tmp 108) (.const (.int .i64 4)) rfl ⟨g, 14, none⟩ ⟨g, 14 + 4, none⟩ rfl 4 rfl (run_indexAt_txt g 4 (by omega) _) ?_) | (refine wpList_indexAt_g (by rfl) 30 (.tmp 112) (.const (.int .i64 9)) rfl ⟨g, 14, none⟩ ⟨g, 14 + 9, none⟩ rfl 9 rfl (run_indexAt_txt g 9 (by omega) _) ?_) | (refine wpList_cat_g (by rfl) (.tmp 103) (.tmp 106) _ rfl (p.txt 2) (p.txt 3) rfl rfl (by have h2 := HA.out.2.2.2.2.1.txt 2 (by omega); have h3 := HA.out.2.2.2.2.1.txt 3 (by omega); have h4 := HA.out.2.2.2.2.1.txt 4 (by omega); have h9 := HA.out.2.2.2.2.1.txt 9 (by omega); (try simp only [List.length_append]); omega) ?_) | (refine wpList_cat_g (by rfl) (.tmp 107) (.tmp 110) _ rfl (p.txt 2 ++ p.txt 3) (p.txt 4) rfl rfl (by have h2 := HA.out.2.2.2.2.1.txt 2 (by omega); have h3 := HA.out.2.2.2.2.1.txt 3 (by omega); have h4 := HA.out.2.2.2.2.1.txt 4 (by omega); have h9 := HA.out.2.2.2.2.1.txt 9 (by omega); (try simp only [List.length_append]); omega) ?_) | (refine wpList_cat_g (by rfl) (.tmp 111) (.tmp 114) _ rfl (p.txt 2 ++ p.txt 3 ++ p.txt 4) (p.txt 9) rfl rfl (by have h2 := HA.out.2.2.2.2.1.txt 2 (by omega); have h3 := HA.out.2.2.2.2.1.txt 3 (by omega); have h4 := HA.out.2.2.2.2.1.txt 4 (by omega); have h9 := HA.out.2.2.2.2.1.txt 9 (by omega); (try simp only [List.length_append]); omega) ?_))
                      go_ret
                      exact ⟨by rw [HA.out.2.2.2.2.2.2, HF.out]; have hz := HIE.out; simp at hz ⊢; rw [bstr_cat]; simp; exact hz, HA.out.2.1.trans HK.out (by simp)⟩
end Go.Proofs.YtkcdakohmfodjaaGreat
