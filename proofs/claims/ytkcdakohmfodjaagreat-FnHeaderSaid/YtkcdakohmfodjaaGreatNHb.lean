/-
  Lemmas on the way to the statement of YtkcdakohmfodjaaGreatHeader, joined out of these texts: Hb, FieldT, Given, Apr. No condition.
-/
import Derived.BigQuiet
import Derived.Deep.AppendSrc
import Derived.Deep.QuietTactic
import Derived.Laws.BitsAllLaws
import Derived.Test.YtkcdakohmfodjaaGreatNHpW
import Derived.Test.YtkcdakohmfodjaaGreatNHpl
import Derived.Test.YtkcdakohmfodjaaGreatNOwn
import Derived.Test.YtkcdakohmfodjaaGreatNRarr
import Derived.Test.YtkcdakohmfodjaaGreatNRstr
import Derived.Test.YtkcdakohmfodjaaGreatNSpVV
import Derived.Test.YtkcdakohmfodjaaGreatNTold
import Derived.Test.YtkcdakohmfodjaaGreatNValLaw
import Derived.Test.YtkcdakohmfodjaaGreatNWb
namespace Go.Proofs.YtkcdakohmfodjaaGreat
open Go.RowKit
set_option linter.unusedVariables false
set_option linter.unusedSimpArgs false
/-- The memory of HeaderBytes: the writer q, the properties' row g. -/
structure HbInv (w : World) (g q : Nat) (cs : Array Value) (W : World) (bs : List Nat) (L : List UInt8) : Prop where
  wr : Wr 61 W q bs L
  row : Blk W g cs 54
  kept : Kept [] w W
  gb : w.heap.size ≤ g ∧ g < q
  ob : ∀ b ∈ bs, g < b
theorem HbInv.adv {w : World} {g q : Nat} {cs : Array Value} {W W' : World} {bs bs' : List Nat} {L L' : List UInt8} (h : HbInv w g q cs W bs L) (hw : Wr 61 W' q bs' L') (ha : Adv q bs bs' W W') : HbInv w g q cs W' bs' L' := by
  have hg : g ∉ q :: bs := by
    simp only [List.mem_cons, not_or]
    exact ⟨by have := h.gb; omega, fun hb => by have := h.ob g hb; omega⟩
  refine ⟨hw, h.row.kept ha.kept hg, h.kept.trans ha.kept (fun x hx => .inr ?_), h.gb, fun b hb => ?_⟩
  · have := h.gb
    rcases List.mem_cons.1 hx with rfl | hx
    · omega
    · have := h.ob x hx; omega
  · rcases ha.own b hb with h1 | h1
    · exact h.ob b h1
    · have := h.row.lt; omega
theorem HbInv.out2 {w : World} {g q : Nat} {cs : Array Value} {W : World} {bs : List Nat} {L : List UInt8} (h : HbInv w g q cs W bs L) {b : Nat} (hb : b < w.heap.size) : b ≠ q ∧ b ∉ bs :=
  ⟨by have := h.gb; omega, fun hm => by have := h.ob b hm; have := h.gb; omega⟩
theorem pow_shift : ∀ k : Nat, k < 14 → ((2 ^ (15 - k) : Nat) : Int) = 32768 / 2 ^ k := by decide
theorem flag_or (p : HP) (k : Nat) (hk : k < 14) : Go.bits .or .u64 ((p.flags k : Nat) : Int) ((2 ^ (15 - k) : Nat) : Int) = ((p.flags k + 2 ^ (15 - k) : Nat) : Int) := by
  obtain ⟨h1, h2⟩ := p.flags_lt k (by omega)
  have h3 : 2 ^ (15 - k) < 2 ^ (16 - k) := Nat.pow_lt_pow_right (by omega) (by omega)
  have h4 : 2 ^ (15 - k) ≤ 2 ^ 15 := Nat.pow_le_pow_right (by omega) (by omega)
  rw [u64_or_nat _ _ (by omega) (by omega), nat_join (16 - k) _ _ h1 h3]
set_option maxHeartbeats 16000000 in
set_option maxRecDepth 100000 in
theorem hb_any (B : Nat → Prop) (p : HP) (hp : properP p = true) (hwf : WfP p) (ha : Option Addr) (hc : Nat) (w : World) (h : FSl B w (.slice ha p.hdr.length hc) p.hdr) (c size : Nat) (hcl : c < 65536) (hsz : size < 18446744073709551616) :
    Calls Tryz.prog 19 #[.int .i64 (c : Int), .int .u64 (size : Int), .agg (hpC p (.slice ha p.hdr.length hc)).toArray] w fun e w' => ∃ v g, e = .returned v ∧ Row w' v g (headerB c size p) ∧ w.heap.size ≤ g ∧ Kept [] w w' := by
  have hfit := proper_fit hp
  obtain ⟨mo, hmo⟩ : ∃ n : Nat, p.mode = (n : Int) := ⟨p.mode.toNat, by omega⟩
  obtain ⟨pr, hpr⟩ : ∃ n : Nat, p.prio = (n : Int) := ⟨p.prio.toNat, by omega⟩
  obtain ⟨ti, hti⟩ : ∃ n : Nat, p.time = (n : Int) := ⟨p.time.toNat, by omega⟩
  obtain ⟨cs, hcs⟩ : ∃ cs, cs = (hpC p (.slice ha p.hdr.length hc)).toArray := ⟨_, rfl⟩
  obtain ⟨ts, hts⟩ : ∃ ts, ts = (hpB p).toArray := ⟨_, rfl⟩
  have hix := run_index_has p
  rw [← hts] at hix
  rw [← hcs]
  have hFS := h.mono (B' := fun b => B b ∧ b < w.heap.size) (fun b hb hl => ⟨hb, hl⟩)
  have hwc : IntKind.u64.wrap (c : Int) = c := by rw [IntKind.wrap_u64]; omega
  have hwm : IntKind.u64.wrap (mo : Int) = mo := by rw [IntKind.wrap_u64]; omega
  have hwp : IntKind.u64.wrap (pr : Int) = pr := by rw [IntKind.wrap_u64]; omega
  have hwt : IntKind.u64.wrap (ti : Int) = ti := by rw [IntKind.wrap_u64]; omega
  have hil := HP.items_len hp
  have hat := proper_at hp
  have H := Lib.hid (And.intro hp (And.intro hwf (And.intro hFS (And.intro hfit (And.intro hix (And.intro hts (And.intro hcs (And.intro hil (And.intro hat (And.intro hmo (And.intro hpr hti)))))))))))
  have HC := Lib.hid (And.intro hcl (And.intro hsz (And.intro (show mo < 256 by omega) (And.intro (show pr < 256 by omega) (show ti < 1099511627776 by omega)))))
  clear hp hwf h hFS hfit hix hts hcs hil hat hmo hpr hti hcl hsz
  go_enter Tryz.func19, Tryz.ntmps19
  go_upto_region 2 with fail
  obtain ⟨wa, hwa⟩ : ∃ wa, wa = (((w.alloc (.cells cs 54)).alloc (.cells #[] 5)).alloc (.cells #[.slice (some ⟨w.heap.size + 1, 0, none⟩) 0 0] 61)) := ⟨_, rfl⟩
  have hi0 : HbInv w w.heap.size (w.heap.size + 1 + 1) cs wa [w.heap.size + 1] [] := by
    subst hwa
    refine ⟨⟨.slice (some ⟨w.heap.size + 1, 0, none⟩) 0 0, Blk.new_at (by simp), ⟨rfl, .inr ⟨w.heap.size + 1, 0, #[], rfl, Nat.zero_le _, ?_, Nat.le_refl _, by unfold maxLen; omega, rfl, rfl⟩⟩, rfl, by simp⟩, ((Blk.new w _ _).alloc _).alloc _, (((Kept.refl [] w).alloc _).alloc _).alloc _, ⟨Nat.le_refl _, by omega⟩, fun b hb => by simp at hb; omega⟩
    exact (Blk.new_at (by simp) : Blk _ (w.heap.size + 1) #[] 5).alloc _
  rw [← hwa]
  clear hwa
  obtain ⟨g, hg⟩ : ∃ g, g = w.heap.size := ⟨_, rfl⟩
  obtain ⟨q, hq⟩ : ∃ q, q = w.heap.size + 1 + 1 := ⟨_, rfl⟩
  obtain ⟨bs0, hbs⟩ : ∃ b, b = [w.heap.size + 1] := ⟨_, rfl⟩
  rw [← hq, ← hbs, ← hg] at hi0
  rw [← hq, ← hg]
  have HI0 := Lib.hid hi0; clear hi0 hg hq hbs
  go_upto_region 3 with (go_at_call 21; have hq := put_any q c 2 bs0 [] wa HI0.out.wr (by have := HC.out.1; omega) (by omega) (by simp); refine hq.mono ?_; clear hq; rintro e w1 ⟨rfl, bs1, hw1, ha1⟩; have HI1 := Lib.hid (HI0.out.adv hw1 ha1); clear hw1 ha1)
  go_upto_region 4 with (go_at_call 21; have hq := put_any q 0 2 bs1 ([] ++ Lib.beBytes 2 c) w1 HI1.out.wr (by omega) (by omega) (by simp [Lib.beBytes_length]); refine hq.mono ?_; clear hq; rintro e w2 ⟨rfl, bs2, hw2, ha2⟩; have HI2 := Lib.hid (HI1.out.adv hw2 ha2); clear hw2 ha2)
  go_upto_region 5 with (go_at_call 21; have hq := put_any q size 8 bs2 ([] ++ Lib.beBytes 2 c ++ Lib.beBytes 2 0) w2 HI2.out.wr HC.out.2.1 (by omega) (by simp [Lib.beBytes_length]); refine hq.mono ?_; clear hq; rintro e w3 ⟨rfl, bs3, hw3, ha3⟩; have HI3 := Lib.hid (HI2.out.adv hw3 ha3); clear hw3 ha3)
  obtain ⟨pre, hpre⟩ : ∃ pre, pre = [] ++ Lib.beBytes 2 c ++ Lib.beBytes 2 0 ++ Lib.beBytes 8 size := ⟨_, rfl⟩
  rw [← hpre] at HI3
  have HP0 := Lib.hid hpre; clear hpre
  have hrow3 := HI3.out.row
  rw [H.out.2.2.2.2.2.2.1] at hrow3
  have HR3 := Lib.hid hrow3; clear hrow3
  go_wp2_with (refine wpList_load_cells rfl 29 (.tmp 24) rfl ⟨g, 0, none⟩ rfl (hpB p) (hp_bools HR3.out) _ Tryz.underlying29 rfl size_14b ?_; rw [← H.out.2.2.2.2.2.1])
  go_loopw [8, 26] (fun fl i W => ∃ k : Nat, i = .int .i64 (k : Int) ∧ fl = .int .u64 ((p.flags k : Nat) : Int) ∧ k ≤ 14 ∧ Hid (W = w3)) (fun _ i _ => 14 - (intOf i).toNat)
  case atStart => exact ⟨0, rfl, rfl, Nat.zero_le _, Lib.hid rfl⟩
  case round =>
    obtain ⟨k, rfl, rfl, hk, HR⟩ := hrel
    obtain rfl := HR.out
    clear HR
    by_cases hlt : k < 14
    · have hlt' : (k : Int) < 14 := by omega
      have hwk : IntKind.i64.wrap ((k : Int) + 1) = (k : Int) + 1 := by rw [IntKind.wrap_i64]; omega
      have hrb := H.out.2.2.2.2.1 k hlt
      obtain ⟨fl, hfl⟩ : ∃ fl, fl = p.flags k := ⟨_, rfl⟩
      rw [← hfl]
      have hfo := flag_or p k hlt
      rw [← hfl] at hfo
      have hfs : p.flags (k + 1) = p.flags k + (if p.has k then 2 ^ (15 - k) else 0) := rfl
      rw [← hfl] at hfs
      cases hh : p.has k
      · rw [hh] at hrb hfs
        have HRB := Lib.hid hrb; have HFS := Lib.hid hfs; clear hrb hfs hfl hfo hh
        go_wp2_with (refine wpList_index_arr rfl 29 (.tmp 25) (.tmp 26) rfl ts rfl k rfl _ (HRB.out _) ?_)
        go_roundw
        case rel => exact ⟨k + 1, rfl, by rw [HFS.out]; rfl, by omega, Lib.hid (by trivial)⟩
        case measure => simp [intOf]; omega
      · rw [hh] at hrb hfs
        have HRB := Lib.hid hrb; have HFS := Lib.hid hfs; have HFO := Lib.hid hfo; clear hrb hfs hfl hfo hh
        rw [pow_shift k hlt] at HFO
        have hfo := HFO.out
        go_wp2_with (refine wpList_index_arr rfl 29 (.tmp 25) (.tmp 26) rfl ts rfl k rfl _ (HRB.out _) ?_)
        go_roundw
        case rel => exact ⟨k + 1, rfl, by rw [HFS.out]; rfl, by omega, Lib.hid (by trivial)⟩
        case measure => simp [intOf]; omega
    · obtain rfl : k = 14 := by omega
      obtain ⟨fl, hfl⟩ : ∃ fl, fl = p.flags 14 := ⟨_, rfl⟩
      rw [← hfl]
      have hfl2 : fl < 65536 := by rw [hfl]; exact (p.flags_lt 14 (by omega)).2
      have HFL := Lib.hid (And.intro hfl hfl2); clear hfl hfl2
      go_upto_region 13 with (go_at_call 21; have hq := put_any q fl 2 bs3 pre wr HI3.out.wr (by have := HFL.out.2; omega) (by omega) (by rw [HP0.out]; simp [Lib.beBytes_length]); refine hq.mono ?_; clear hq; rintro e w4 ⟨rfl, bs4, hw4, ha4⟩; have HI4 := Lib.hid (HI3.out.adv hw4 ha4); clear hw4 ha4)
      obtain ⟨pre2, hpre2⟩ : ∃ pre2, pre2 = pre ++ Lib.beBytes 2 fl := ⟨_, rfl⟩
      rw [← hpre2] at HI4
      have hpl : pre2.length = 14 := by rw [hpre2, HP0.out]; simp [Lib.beBytes_length]
      have HP2 := Lib.hid (And.intro hpre2 hpl); clear hpre2 hpl
      have hrow4 := HI4.out.row
      rw [H.out.2.2.2.2.2.2.1] at hrow4
      have HR4 := Lib.hid hrow4; clear hrow4
      go_wp2_with (refine wpList_load_cells rfl 29 (.tmp 39) rfl ⟨g, 0, none⟩ rfl (hpB p) (hp_bools HR4.out) _ Tryz.underlying29 rfl size_14b ?_; rw [← H.out.2.2.2.2.2.1])
      go_loopw [41] (fun i W => ∃ (k : Nat) (bs : List Nat), i = .int .i64 (k : Int) ∧ k ≤ 14 ∧ Hid (HbInv w g q cs W bs (pre2 ++ p.items k))) (fun i _ => 14 - (intOf i).toNat)
      case atStart => exact ⟨0, bs4, rfl, Nat.zero_le _, Lib.hid (by unfold HP.items; rw [List.append_nil]; exact HI4.out)⟩
      case round =>
        obtain ⟨k, bs, rfl, hk, HR⟩ := hrel
        by_cases hlt : k < 14
        · have hlt' : (k : Int) < 14 := by omega
          have hwk : IntKind.i64.wrap ((k : Int) + 1) = (k : Int) + 1 := by rw [IntKind.wrap_i64]; omega
          have hrb := H.out.2.2.2.2.1 k hlt
          have hrow := HR.out.row
          rw [H.out.2.2.2.2.2.2.1] at hrow
          have m0 := hp_mode hrow; have m1 := hp_prio hrow; have m2 := hp_time hrow; have m3 := hp_hdr hrow
          rw [H.out.2.2.2.2.2.2.2.2.2.1] at m0; rw [H.out.2.2.2.2.2.2.2.2.2.2.1] at m1; rw [H.out.2.2.2.2.2.2.2.2.2.2.2] at m2
          have htx := hp_txt hrow k hlt
          clear hrow
          have hil := H.out.2.2.2.2.2.2.2.1 k hk
          have hplen : (pre2 ++ p.items k).length ≤ 300000 := by rw [List.length_append, HP2.out.2]; omega
          have HPL := Lib.hid hplen; clear hil hplen
          have his : p.items (k + 1) = p.items k ++ p.item k := rfl
          have hitem : p.item k = if p.has k then (if k = 2 then encT p.hdr else if k = 3 then Lib.beBytes 1 p.mode.toNat else if k = 4 then Lib.beBytes 1 p.prio.toNat else if k = 9 then Lib.beBytes 8 p.time.toNat else Lib.beBytes 1 (p.txt k).length ++ p.txt k) else [] := rfl
          have hok := H.out.2.2.2.2.2.2.2.2.1 k hlt
          cases hh : p.has k
          · rw [hh] at hrb hitem
            have HIT := Lib.hid (And.intro his hitem); have HRB := Lib.hid hrb; clear his hitem hrb hh hok htx
            go_wp2_with (refine wpList_index_arr rfl 29 (.tmp 40) (.tmp 41) rfl ts rfl k rfl _ (HRB.out _) ?_)
            go_roundw
            case rel => exact ⟨k + 1, bs, rfl, by omega, Lib.hid (by rw [HIT.out.1, HIT.out.2]; simpa using HR.out)⟩
            case measure => simp [intOf]; omega
          · rw [hh] at hrb hitem
            rw [if_pos rfl] at hitem
            have HRB := Lib.hid hrb; clear hrb
            by_cases h2 : k = 2
            · rw [if_pos h2] at hitem
              subst h2
              have HIT := Lib.hid (And.intro his hitem); clear his hitem hh hok htx hwk hlt hk
              go_wp2_with (first | (refine wpList_index_arr rfl 29 (.tmp 40) (.tmp 41) rfl ts rfl 2 rfl _ (HRB.out _) ?_) | (go_at_call 32; have hq := wtable_any p.hdr (fun b => B b ∧ b < w.heap.size) (.slice ha p.hdr.length hc) none 6 q bs _ wr (H.out.2.2.1.kept HR.out.kept (by simp)) H.out.2.1.hdr H.out.2.1.hlen ((fitsB_iff _).1 H.out.2.2.2.1.1).1 ((fitsB_iff _).1 H.out.2.2.2.1.1).2 HR.out.wr (fun b hb => HR.out.out2 hb.2) (by have := HPL.out; omega) (by omega); refine hq.mono ?_; clear hq; rintro e w5 ⟨rfl, bs5, hw5, ha5⟩; have HI5 := Lib.hid (HR.out.adv hw5 ha5); clear hw5 ha5))
              go_roundw
              case rel => exact ⟨2 + 1, bs5, rfl, by omega, Lib.hid (by rw [HIT.out.1, HIT.out.2, ← List.append_assoc]; exact HI5.out)⟩
              case measure => simp [intOf]
            by_cases h3 : k = 3
            · rw [if_neg h2, if_pos h3, H.out.2.2.2.2.2.2.2.2.2.1, Int.toNat_natCast] at hitem
              subst h3
              have HIT := Lib.hid (And.intro his hitem); clear his hitem hh hok htx hwk hlt hk
              go_wp2_with (first | (refine wpList_index_arr rfl 29 (.tmp 40) (.tmp 41) rfl ts rfl 3 rfl _ (HRB.out _) ?_) | (go_at_call 21; have hq := put_any q mo 1 bs _ wr HR.out.wr (by have := HC.out.2.2.1; omega) (by omega) (by have := HPL.out; omega); refine hq.mono ?_; clear hq; rintro e w5 ⟨rfl, bs5, hw5, ha5⟩; have HI5 := Lib.hid (HR.out.adv hw5 ha5); clear hw5 ha5))
              go_roundw
              case rel => exact ⟨3 + 1, bs5, rfl, by omega, Lib.hid (by rw [HIT.out.1, HIT.out.2, ← List.append_assoc]; exact HI5.out)⟩
              case measure => simp [intOf]
            by_cases h4 : k = 4
            · rw [if_neg h2, if_neg h3, if_pos h4, H.out.2.2.2.2.2.2.2.2.2.2.1, Int.toNat_natCast] at hitem
              subst h4
              have HIT := Lib.hid (And.intro his hitem); clear his hitem hh hok htx hwk hlt hk
              go_wp2_with (first | (refine wpList_index_arr rfl 29 (.tmp 40) (.tmp 41) rfl ts rfl 4 rfl _ (HRB.out _) ?_) | (go_at_call 21; have hq := put_any q pr 1 bs _ wr HR.out.wr (by have := HC.out.2.2.2.1; omega) (by omega) (by have := HPL.out; omega); refine hq.mono ?_; clear hq; rintro e w5 ⟨rfl, bs5, hw5, ha5⟩; have HI5 := Lib.hid (HR.out.adv hw5 ha5); clear hw5 ha5))
              go_roundw
              case rel => exact ⟨4 + 1, bs5, rfl, by omega, Lib.hid (by rw [HIT.out.1, HIT.out.2, ← List.append_assoc]; exact HI5.out)⟩
              case measure => simp [intOf]
            by_cases h9 : k = 9
            · rw [if_neg h2, if_neg h3, if_neg h4, if_pos h9, H.out.2.2.2.2.2.2.2.2.2.2.2, Int.toNat_natCast] at hitem
              subst h9
              have HIT := Lib.hid (And.intro his hitem); clear his hitem hh hok htx hwk hlt hk
              go_wp2_with (first | (refine wpList_index_arr rfl 29 (.tmp 40) (.tmp 41) rfl ts rfl 9 rfl _ (HRB.out _) ?_) | (go_at_call 21; have hq := put_any q ti 8 bs _ wr HR.out.wr (by have := HC.out.2.2.2.2; omega) (by omega) (by have := HPL.out; omega); refine hq.mono ?_; clear hq; rintro e w5 ⟨rfl, bs5, hw5, ha5⟩; have HI5 := Lib.hid (HR.out.adv hw5 ha5); clear hw5 ha5))
              go_roundw
              case rel => exact ⟨9 + 1, bs5, rfl, by omega, Lib.hid (by rw [HIT.out.1, HIT.out.2, ← List.append_assoc]; exact HI5.out)⟩
              case measure => simp [intOf]
            · rw [if_neg h2, if_neg h3, if_neg h4, if_neg h9] at hitem
              have h13 : k ≠ 13 := fun e => by subst e; unfold HP.okAt at hok; rw [if_neg (by decide), if_neg (by decide), if_neg (by decide), if_neg (by decide), if_pos rfl, hh] at hok; simp at hok
              have d2 : ((k : Int) == 2) = false := by simp; omega
              have d3 : ((k : Int) == 3) = false := by simp; omega
              have d4 : ((k : Int) == 4) = false := by simp; omega
              have d9 : ((k : Int) == 9) = false := by simp; omega
              have htl : (p.txt k).length ≤ 255 := by
                unfold HP.okAt at hok; rw [if_neg h2, if_neg h3, if_neg h4, if_neg h9, if_neg h13] at hok
                simp only [Bool.and_eq_true, decide_eq_true_eq] at hok; exact hok.2
              have HIT := Lib.hid (And.intro his (And.intro hitem htl)); clear his hitem hh hok h2 h3 h4 h9 h13 htl
              go_wp2_with (first | (refine wpList_index_arr rfl 29 (.tmp 40) (.tmp 41) rfl ts rfl k rfl _ (HRB.out _) ?_) | (refine wpList_indexAt_g (by rfl) 30 (.tmp 50) (.tmp 49) rfl ⟨g, 14, none⟩ ⟨g, 14 + k, none⟩ rfl k rfl (run_indexAt_txt g k hlt _) ?_) | (go_at_call 30; have hq := short_any q (p.txt k) bs _ wr HR.out.wr (by have := HIT.out.2.2; omega) (by have := HPL.out; omega); refine hq.mono ?_; clear hq; rintro e w5 ⟨rfl, bs5, hw5, ha5⟩; have HI5 := Lib.hid (HR.out.adv hw5 ha5); clear hw5 ha5))
              go_roundw
              case rel => exact ⟨k + 1, bs5, rfl, by omega, Lib.hid (by rw [HIT.out.1, HIT.out.2.1, ← List.append_assoc]; exact HI5.out)⟩
              case measure => simp [intOf]; omega
        · obtain rfl : k = 14 := by omega
          have hfin : pre2 ++ p.items 14 = headerB c size p := by rw [HP2.out.1, HP0.out, HFL.out.1]; simp [headerB]
          have hw7 := HR.out.wr
          have hown7 := HR.out.ob
          rw [hfin] at hw7
          obtain ⟨v, p1, p2, p3, p4⟩ := hw7
          obtain ⟨g7, c7, rfl, hc7, ho7⟩ := own_form p2 (by simp [headerB, Lib.beBytes_length]; omega)
          have c0 := p1.cell0
          have hg7 : w.heap.size ≤ g7 := by have := hown7 g7 (by rw [p3, ho7]; simp); have := HR.out.gb; omega
          have H8 := Lib.hid (And.intro p2 (And.intro hg7 HR.out.kept)); clear p1 p2 p3 p4 hg7 hown7 ho7 hfin
          go_wp2_with fail
          go_ret
          exact ⟨_, g7, rfl, ⟨c7, rfl, H8.out.1⟩, H8.out.2.1, H8.out.2.2⟩
/-- impl.told of v. -/
def ToldC (v : Val) : Prop := ∀ (d : Nat) (B : Nat → Prop) (w : World) (x : Value), WfV v → OkV v d → costV v ≤ 2000 → PV B w x v →
  Calls Tryz.prog 150 #[x] w fun e w' => ∃ cs : List Value, e = .returned (.tuple #[.agg cs.toArray, .bool true]) ∧ VHeld (fun b => w.heap.size ≤ b) w' cs (normV v) ∧ Kept [] w w'
/-- impl.fields of a table. -/
def FieldsTC (fs : List Fld) : Prop := ∀ (p : Option (List UInt8)) (d : Nat) (B : Nat → Prop) (w : World) (b : Nat) (es : List (Value × Value)), WfFs fs → OkFs fs p d → costFs fs ≤ 2000 → MapAt w b es → PF B w es fs →
  Calls Tryz.prog 67 #[.map (some b)] w fun e w' => ∃ out, e = .returned (.tuple #[out, .bool true]) ∧ FSl (fun b => w.heap.size ≤ b) w' out (normFs fs) ∧ Kept [] w w'
theorem PF.len {B : Nat → Prop} {w : World} : ∀ (l : List Fld) (es : List (Value × Value)), PF B w es l → es.length = l.length
  | [], es, h => by unfold PF at h; subst h; rfl
  | .mk nm u :: l, es, h => by
    unfold PF at h
    obtain ⟨y, fs, rfl, _, h3⟩ := h
    simp [PF.len l fs h3]
theorem PF.get {B : Nat → Prop} {w : World} : ∀ (l : List Fld) (es : List (Value × Value)), PF B w es l → ∀ (i : Nat) (k u : Value), es[i]? = some (k, u) → ∃ name v, l[i]? = some (.mk name v) ∧ k = .string (bstr name) ∧ PV B w u v
  | [], es, h, i, k, u, hi => by unfold PF at h; subst h; simp at hi
  | .mk nm v :: l, es, h, i, k, u, hi => by
    unfold PF at h
    obtain ⟨y, fs, rfl, h2, h3⟩ := h
    cases i with
    | zero =>
      simp only [List.getElem?_cons_zero, Option.some.injEq, Prod.mk.injEq] at hi
      obtain ⟨rfl, rfl⟩ := hi
      exact ⟨nm, v, rfl, rfl, h2⟩
    | succ i =>
      obtain ⟨name, v', a, c, e⟩ := PF.get l fs h3 i k u (by simpa using hi)
      exact ⟨name, v', by simpa using a, c, e⟩
theorem normFs_get : ∀ (l : List Fld) (i : Nat) (name : List UInt8) (v : Val), l[i]? = some (.mk name v) → (normFs l)[i]? = some (.mk name (normV v))
  | [], i, name, v, h => by simp at h
  | .mk nm u :: l, i, name, v, h => by
    unfold normFs
    cases i with
    | zero => simp only [List.getElem?_cons_zero, Option.some.injEq, Fld.mk.injEq] at h ⊢; obtain ⟨rfl, rfl⟩ := h; exact ⟨rfl, rfl⟩
    | succ i => simpa using normFs_get l i name v (by simpa using h)
instance : Inhabited Fld := ⟨Fld.zero⟩
theorem normFs_lenF (l : List Fld) : (normFs l).length = l.length := by
  induction l with
  | nil => rfl
  | cons x l ih => cases x with | mk name v => simp [normFs, ih]
theorem ownIFld : (Tryz.prog.info? 153).map (fun i => (i.zero.map (·.cells.size), i.size, i.bytes)) = some (some 8, 8, 112) := by kernel_rfl
theorem nodup_len : ∀ (n : Nat) (l : List Nat), l.Nodup → (∀ i ∈ l, i < n) → l.length ≤ n
  | 0, l, _, h => by
    cases l with
    | nil => exact Nat.le_refl _
    | cons a l => exact absurd (h a (by simp)) (by omega)
  | n + 1, l, hd, h => by
    by_cases hm : n ∈ l
    · have := nodup_len n (l.erase n) (hd.erase n) fun i hi => by
        have h1 := (List.Nodup.mem_erase_iff hd).1 hi
        have := h i h1.2
        omega
      rw [List.length_erase_of_mem hm] at this
      omega
    · have := nodup_len n l hd fun i hi => by
        have := h i hi
        have : i ≠ n := fun e => hm (e ▸ hi)
        omega
      omega
theorem ItAt.seen {w : World} {r b n : Nat} {is : List Nat} (h : ItAt w r b n is) : (w.iterSeen r).size = is.length := by
  have h : w.heap[r]? = some (.mapIter (some b) n is.toArray n) := h
  unfold World.iterSeen
  rw [h]
  simp
/-- All entries have come: the fields that were told, in their order. -/
theorem told_all (fs : List Fld) (p : Option (List UInt8)) (d : Nat) (hok : OkFs fs p d) (n : Nat) (hn : n = fs.length) (is : List Nat) (h1 : is.Nodup) (h2 : ∀ i ∈ is, i < n) (h3 : ∀ i, i < n → i ∈ is) (l : List Fld) (hl : l.Perm (is.map (fun i => (normFs fs)[i]!))) (hs : l.Pairwise (fun x y => Op.bytesLess y.name x.name = false)) : l = normFs fs := by
  refine sorted_unique _ (OkFs.pairs _ _ _ (ok_normFs fs p d hok)) l ?_ hs
  refine hl.trans (((range_perm h1 h2 h3).map _).trans ?_)
  rw [hn, ← normFs_lenF fs, range_map]
set_option maxHeartbeats 1000000 in
set_option maxRecDepth 100000 in
theorem fieldsT_of (fs : List Fld) (hv : ∀ x, x ∈ fs → ToldC x.val) : FieldsTC fs := by
  intro p d B w b es hwf hok hcost hm hpf
  obtain ⟨n, hn⟩ : ∃ n, n = es.length := ⟨_, rfl⟩
  have hlen : es.length = fs.length := PF.len fs es hpf
  have hn2 : n ≤ 2000 := by have := costFs_len fs; omega
  obtain ⟨i, z, i1, i2, i3, i4, i5⟩ := info_own ownIFld
  have HI := Lib.hid (And.intro i1 (And.intro i2 (And.intro i3 (And.intro i4 i5)))); clear i1 i2 i3 i4 i5
  have H := Lib.hid (And.intro hwf (And.intro hok (And.intro hcost (And.intro hm (And.intro hpf (And.intro hv (And.intro hn hlen)))))))
  clear hwf hok hcost hm hpf hv hn hlen
  go_enter Tryz.func67, Tryz.ntmps67
  go_wp2_with (at_range; refine wpList_range_map rfl _ 96 rfl 9 20 Tryz.underlying96 b es rfl H.out.2.2.2.1 ?_; intro w1 hw1; have hk1 : Kept [] w w1 := by { rw [hw1]; exact (Kept.refl [] w).alloc _ }; have hi1 : ItAt w1 w.heap.size b n [] := by { rw [hw1, H.out.2.2.2.2.2.2.1]; exact heap_alloc_new w _ }; have hz1 : w1.heap.size = w.heap.size + 1 := by { rw [hw1]; simp }; have H1 := Lib.hid (And.intro hk1 (And.intro hi1 hz1)); clear hk1 hi1 hz1 hw1)
  go_frame
  go_loopw [4] (fun out W => ∃ (is : List Nat) (xs : List (FEl × Fld)), Hid (is.Nodup ∧ (∀ i ∈ is, i < n) ∧ xs.map Prod.snd = is.map (fun i => (normFs fs)[i]!) ∧ xs.length = is.length ∧ ItAt W w.heap.size b n is ∧
    OwnE 153 8 PF8 (w.heap.size + 1) W out xs ∧ Kept [] w W)) (fun _ W => n - (W.iterSeen w.heap.size).size)
  case atStart => exact ⟨[], [], Lib.hid ⟨List.nodup_nil, by simp, rfl, rfl, H1.out.2.1, OwnE.nil _ _ _ _ _, H1.out.1⟩⟩
  case round =>
    obtain ⟨is, xs, HR⟩ := hrel
    obtain ⟨cells, o1, o2, o3⟩ := HR.out.2.2.2.2.2.1
    obtain ⟨ao, oc, rfl, hoc, hoo⟩ := own_slice o1
    have hit : ItAt wr w.heap.size b es.length is := by have := HR.out.2.2.2.2.1; rwa [H.out.2.2.2.2.2.2.1] at this
    have hmr : MapAt wr b es := H.out.2.2.2.1.kept HR.out.2.2.2.2.2.2 (by simp)
    have HO := Lib.hid (And.intro o1 (And.intro o2 (And.intro o3 (And.intro hoc hoo)))); have HT := Lib.hid (And.intro hit hmr)
    clear o1 o2 o3 hoc hoo hit hmr
    go_wp2_with (at_next; refine wpList_next_map rfl _ rfl w.heap.size b es is rfl HT.out.1 HT.out.2 ?_ ?_)
    · intro hall
      have HALL := Lib.hid hall; clear hall
      rcases HO.out.2.2.2.2 with ⟨hx0, rfl, rfl, hob⟩ | ⟨g, rfl, hg, hcell⟩
      · have hxs : xs = [] := List.eq_nil_of_length_eq_zero hx0
        subst hxs
        have hsn := sort_nil (.func (.func 152) #[] #[]) wr
        have HS := Lib.hid hsn; clear hsn hx0 hob
        go_wp2_with (go_at_call 151; refine HS.out.mono ?_; rintro e w5 ⟨rfl, hk5⟩; have H5 := Lib.hid hk5; clear hk5)
        go_ret2
        have hfs : fs = [] := by
          have h4 := HR.out.2.2.2.1
          have h5 := HALL.out
          have h6 : is = [] := List.eq_nil_of_length_eq_zero (by simpa using h4.symm)
          rw [h6, H.out.2.2.2.2.2.2.2] at h5
          cases fs with
          | nil => rfl
          | cons x l => exact absurd (h5 0 (by simp)) (by simp)
        rw [hfs]
        refine ⟨_, rfl, ⟨none, 0, rfl, Nat.le_refl _, fun h => absurd rfl h, by unfold normFs FAt; trivial⟩, HR.out.2.2.2.2.2.2.trans H5.out (by simp)⟩
      · have hsa := sort_any xs (w.heap.size + 1) wr _ g hg HR.out.2.2.2.2.2.1 (by have := nodup_len n is HR.out.1 HR.out.2.1; have := HR.out.2.2.2.1; omega)
        have HS := Lib.hid hsa; have HG := Lib.hid hg; clear hsa hg hcell
        go_wp2_with (go_at_call 151; refine HS.out.mono ?_; rintro e w5 ⟨rfl, ys, y1, y2, y3, y4⟩; have H5 := Lib.hid (And.intro y1 (And.intro y2 (And.intro y3 y4))); clear y1 y2 y3 y4)
        go_ret2
        have hys : ys.map Prod.snd = normFs fs := told_all fs p d H.out.2.1 n (by rw [H.out.2.2.2.2.2.2.1, H.out.2.2.2.2.2.2.2]) is HR.out.1 HR.out.2.1 (fun i hi => HALL.out i (by rw [← H.out.2.2.2.2.2.2.1]; exact hi)) _ (by rw [← HR.out.2.2.1]; exact H5.out.1.map _) H5.out.2.1
        have hfin := H5.out.2.2.1
        rw [hys] at hfin
        have hgb := HO.out.2.2.1 g HG.out
        exact ⟨_, rfl, hfin.mono (fun b hb _ => by omega), HR.out.2.2.2.2.2.2.trans H5.out.2.2.2 (fun x hx => .inr (by simp at hx; omega))⟩
    · intro i0 k u w2 hni hei hit2 hk2 hs2 hen
      obtain ⟨name, v, hfv, rfl, hpv⟩ := PF.get fs es H.out.2.2.2.2.1 i0 k u hei
      have hkw2 : Kept [] w w2 := HR.out.2.2.2.2.2.2.trans hk2 (fun x hx => .inr (by simp at hx; omega))
      have htc := H.out.2.2.2.2.2.1 (.mk name v) (List.mem_of_getElem? hfv) d B w2 u (WfFs.get fs H.out.1 i0 name v hfv).2 (OkFs.get fs p d H.out.2.1 i0 name v hfv).2 (by show costV v ≤ 2000; have := costFs_get fs i0 name v hfv; have := H.out.2.2.1; omega) (PV.kept hkw2 (by simp) v hpv)
      have HTC := Lib.hid htc; have HE := Lib.hid (And.intro hni (And.intro hfv (And.intro hit2 (And.intro hk2 hkw2))))
      clear htc hni hfv hit2 hk2 hkw2 hs2 hei hpv
      have hol : ∀ g, Value.ownBlock (.slice ao xs.length oc) = some g → g < wr.heap.size := fun g hg => own_lt HO.out.1 hg
      have hxl : xs.length ≤ 2000 := by have := nodup_len n is HR.out.1 HR.out.2.1; have := HR.out.2.2.2.1; omega
      have HOL := Lib.hid hol; clear hol
      go_wp2_with (first
        | (go_at_call 150; refine HTC.out.mono ?_; rintro e w3 ⟨cs2, rfl, v1, v2⟩; obtain ⟨b0, b1, b2, b3, b4, b5, b6, rfl⟩ := v1.seven; have H3 := Lib.hid (And.intro v1 v2); clear v1 v2)
        | (refine wpList_store_row (P := Tryz.prog) rfl rfl 151 (.tmp 7) (.tmp 19) rfl w3.heap.size rfl 151 _ [b0, b1, b2, b3, b4, b5, b6] (Blk.new w3 _ _) rfl rfl H3.out.1.one size_iVal ?_; intro w4 hb4 hk4; obtain ⟨c0, c1, c2, c3, c4, c5, c6⟩ := cells7 hb4;
           have hkB : Kept [] w2 (w4.alloc (.cells #[.string (bstr name), b0, b1, b2, b3, b4, b5, b6] 153)) := (((H3.out.2.alloc _).trans hk4 (fun x hx => .inr (by have := H3.out.2.size; simp at hx; omega)))).alloc _;
           have hkA : Kept [w.heap.size] wr (w4.alloc (.cells #[.string (bstr name), b0, b1, b2, b3, b4, b5, b6] 153)) := HE.out.2.2.2.1.trans hkB (by simp);
           have hmv := own_move bears_pf8 HO.out.1 HO.out.2.1 HO.out.2.2.1 (S := [w.heap.size]) (fun b hb => by simp; omega) hkA;
           have H4 := Lib.hid (And.intro hb4 (And.intro hk4 (And.intro hkB (And.intro hkA hmv)))); clear hb4 hk4 hkB hkA hmv)
        | (at_builtin; refine wpList_append2 _ rfl _ _ 31 31 rfl 153 153 Tryz.underlying31 i z 8 112 Tryz.underlying31 HI.out.1 HI.out.2.1 HI.out.2.2.1 HI.out.2.2.2.1 HI.out.2.2.2.2 (by decide) (.slice ao xs.length oc) xs.length cells rfl H4.out.2.2.2.2.1 ⟨w4.heap.size, 0, none⟩ 1 1 [.string (bstr name), b0, b1, b2, b3, b4, b5, b6] rfl rfl (cells_new w4 _ _) (by intro u hu; rcases List.mem_cons.1 hu with rfl | hu; rfl; exact H3.out.1.one u hu) (by omega) (by omega) ?_; intro v' w8 g1 g2 g3; have H8 := Lib.hid (And.intro g1 (And.intro g2 g3)); clear g1 g2 g3))
      go_roundw
      case rel =>
        have hsz2 := HE.out.2.2.2.1.size
        have hszA := H4.out.2.2.1.size
        have hszr := HR.out.2.2.2.2.2.2.size
        have hitl := HT.out.1.lt
        have hpx : PF8 (fun b => w.heap.size + 1 ≤ b ∧ Value.ownBlock (.slice ao xs.length oc) ≠ some b) (w4.alloc (.cells #[.string (bstr name), b0, b1, b2, b3, b4, b5, b6] 153)) [.string (bstr name), b0, b1, b2, b3, b4, b5, b6] (⟨name, [b0, b1, b2, b3, b4, b5, b6], rfl, H3.out.1.one⟩, .mk name (normV v)) :=
          ⟨rfl, rfl, VHeld.kept (S := []) (((Kept.refl [] w3).alloc _).trans H4.out.2.1 (fun x hx => .inr (by simp at hx; omega)) |>.alloc _) (by simp) _ (VHeld.mono (fun b hb _ => ⟨by omega, fun e => by have := HOL.out b e; omega⟩) _ H3.out.1)⟩
        obtain ⟨p1, p2⟩ := OwnE.push bears_pf8 H4.out.2.2.2.2.2 HO.out.2.2.1 (by omega) hpx H8.out.1 H8.out.2.1 H8.out.2.2
        have hgr : w.heap.size ∉ (Value.ownBlock (.slice ao xs.length oc)).toList := fun hm => by have := HO.out.2.2.1 _ (by simpa using hm); omega
        refine ⟨is ++ [i0], _, Lib.hid ⟨?_, ?_, ?_, by simp [HR.out.2.2.2.1], ?_, p1, ?_⟩⟩
        · rw [List.nodup_append]
          refine ⟨HR.out.1, by simp, fun a ha b hb e => ?_⟩
          simp at hb
          subst hb; subst e
          exact HE.out.1 ha
        · intro j hj
          rcases List.mem_append.1 hj with hj | hj
          · exact HR.out.2.1 j hj
          · simp at hj
            subst hj
            rw [H.out.2.2.2.2.2.2.1, H.out.2.2.2.2.2.2.2]
            exact (List.getElem?_eq_some_iff.1 HE.out.2.1).1
        · rw [List.map_append, List.map_append, HR.out.2.2.1]
          have := normFs_get fs i0 name v HE.out.2.1
          simp [this]
        · have := (HE.out.2.2.1.kept H4.out.2.2.1 (by simp)).kept p2 hgr
          rwa [← H.out.2.2.2.2.2.2.1] at this
        · exact (HE.out.2.2.2.2.trans H4.out.2.2.1 (by simp)).trans p2 (fun x hx => .inr (by have := HO.out.2.2.1 x (by simpa using hx); omega))
      case measure =>
        have hsz2 := HE.out.2.2.2.1.size
        have hitl := HT.out.1.lt
        have hgr : w.heap.size ∉ (Value.ownBlock (.slice ao xs.length oc)).toList := fun hm => by have := HO.out.2.2.1 _ (by simpa using hm); omega
        have hk8 : Kept (Value.ownBlock (.slice ao xs.length oc)).toList (w4.alloc (.cells #[.string (bstr name), b0, b1, b2, b3, b4, b5, b6] 153)) w8 := (Kept.refl _ _).grown H8.out.2.1 (fun k hk => .inl (by simp [hk]))
        rw [((HE.out.2.2.1.kept H4.out.2.2.1 (by simp)).kept hk8 hgr).seen, HT.out.1.seen]
        have := nodup_len n (is ++ [i0]) (by
          rw [List.nodup_append]
          refine ⟨HR.out.1, by simp, fun a ha b hb e => ?_⟩
          simp at hb
          subst hb; subst e
          exact HE.out.1 ha) (by
          intro j hj
          rcases List.mem_append.1 hj with hj | hj
          · exact HR.out.2.1 j hj
          · simp at hj
            subst hj
            rw [H.out.2.2.2.2.2.2.1, H.out.2.2.2.2.2.2.2]
            exact (List.getElem?_eq_some_iff.1 HE.out.2.1).1)
        simp at this ⊢
        omega
set_option maxHeartbeats 1000000 in
set_option maxRecDepth 100000 in
/-- A nil table has no fields. -/
theorem fieldsT_nil (w : World) : Calls Tryz.prog 67 #[.map none] w fun e w' => e = .returned (.tuple #[.slice none 0 0, .bool true]) ∧ Kept [] w w' := by
  have hsn := fun w => sort_nil (.func (.func 152) #[] #[]) w
  have HS := Lib.hid hsn; clear hsn
  go_enter Tryz.func67, Tryz.ntmps67
  go_wp2_with (at_range; refine wpList_range_nil rfl _ 96 rfl 9 20 Tryz.underlying96 rfl ?_; intro w1 hw1; have HW := Lib.hid hw1; have hnx : ∀ ty, (Instr.next (.pointer (some ⟨w.heap.size, 0, none⟩)) false ty).run Tryz.prog w1 = .ok (.tuple #[.bool false]) w1 := by { intro ty; rw [hw1]; exact run_next_nilMap w ty 0 0 #[] }; clear hw1)
  refine wp_loop_rounds 1 ?_
  rw [rounds_succ]
  go_wp2_with (go_at_call 151; refine (HS.out _).mono ?_; rintro e w5 ⟨rfl, hk5⟩; have H5 := Lib.hid hk5; clear hk5)
  go_ret2
  have hk1 : Kept [] w w1 := by rw [HW.out]; exact (Kept.refl [] w).alloc _
  exact ⟨rfl, hk1.trans H5.out (by simp)⟩
theorem Kept.drewN {S : List Nat} {w w' : World} (h : Kept S w w') (n : Nat) : Kept S w (w'.drewN n) := ⟨h.os, h.tape, h.output, h.size, h.block⟩
set_option maxHeartbeats 2000000 in
set_option maxRecDepth 100000 in
theorem given_98 (n : Int) (f : Nat) (sc : Int) (text : List UInt8) (x5 x6 : Value) (h1 : -128 ≤ n) (h2 : n ≤ 127) (w : World) :
    Calls Tryz.prog 54 #[.agg #[.int .u8 98, .int .i64 n, .float .f64 f, .int .i64 sc, .string (bstr text), x5, x6]] w fun e w' => e = .returned (.tuple #[.iface 188 (.int .i8 n), .bool true]) ∧ Kept [] w w' := by
  have e1 : IntKind.i8.wrap n = n := by simp [IntKind.wrap, IntKind.bits, IntKind.signed]; omega
  have e2 : IntKind.i64.wrap n = n := by rw [IntKind.wrap_i64]; omega
  obtain ⟨wA, hwA⟩ : ∃ wA, wA = w.alloc (.cells #[.int .u8 98, .int .i64 n, .float .f64 f, .int .i64 sc, .string (bstr text), x5, x6] 151) := ⟨_, rfl⟩
  have hbA : Blk wA w.heap.size #[.int .u8 98, .int .i64 n, .float .f64 f, .int .i64 sc, .string (bstr text), x5, x6] 151 := by rw [hwA]; exact Blk.new w _ _
  have hkA : Kept [] w wA := by rw [hwA]; exact (Kept.refl [] w).alloc _
  obtain ⟨g, hg⟩ : ∃ g, g = w.heap.size := ⟨_, rfl⟩
  rw [← hg] at hbA
  have c0 := hbA.cell 0; have c1 := hbA.cell 1; have c2 := hbA.cell 2; have c3 := hbA.cell 3; have c4 := hbA.cell 4
  simp only [List.getElem?_toArray, List.getElem?_cons_zero, List.getElem?_cons_succ] at c0 c1 c2 c3 c4
  have HA := Lib.hid (And.intro hbA hkA); clear hbA hkA
  go_enter Tryz.func54, Tryz.ntmps54
  go_upto_region 1 with fail
  rw [← hwA, ← hg]
  clear hwA hg
  go_wp2_with fail
  go_quiet (fail)
  go_wp2
  go_ret2
  exact ⟨rfl, HA.out.2.drewN _⟩
set_option maxHeartbeats 2000000 in
set_option maxRecDepth 100000 in
theorem given_115 (n : Int) (f : Nat) (sc : Int) (text : List UInt8) (x5 x6 : Value) (h1 : -32768 ≤ n) (h2 : n ≤ 32767) (w : World) :
    Calls Tryz.prog 54 #[.agg #[.int .u8 115, .int .i64 n, .float .f64 f, .int .i64 sc, .string (bstr text), x5, x6]] w fun e w' => e = .returned (.tuple #[.iface 189 (.int .i16 n), .bool true]) ∧ Kept [] w w' := by
  have e1 : IntKind.i16.wrap n = n := by simp [IntKind.wrap, IntKind.bits, IntKind.signed]; omega
  have e2 : IntKind.i64.wrap n = n := by rw [IntKind.wrap_i64]; omega
  obtain ⟨wA, hwA⟩ : ∃ wA, wA = w.alloc (.cells #[.int .u8 115, .int .i64 n, .float .f64 f, .int .i64 sc, .string (bstr text), x5, x6] 151) := ⟨_, rfl⟩
  have hbA : Blk wA w.heap.size #[.int .u8 115, .int .i64 n, .float .f64 f, .int .i64 sc, .string (bstr text), x5, x6] 151 := by rw [hwA]; exact Blk.new w _ _
  have hkA : Kept [] w wA := by rw [hwA]; exact (Kept.refl [] w).alloc _
  obtain ⟨g, hg⟩ : ∃ g, g = w.heap.size := ⟨_, rfl⟩
  rw [← hg] at hbA
  have c0 := hbA.cell 0; have c1 := hbA.cell 1; have c2 := hbA.cell 2; have c3 := hbA.cell 3; have c4 := hbA.cell 4
  simp only [List.getElem?_toArray, List.getElem?_cons_zero, List.getElem?_cons_succ] at c0 c1 c2 c3 c4
  have HA := Lib.hid (And.intro hbA hkA); clear hbA hkA
  go_enter Tryz.func54, Tryz.ntmps54
  go_upto_region 1 with fail
  rw [← hwA, ← hg]
  clear hwA hg
  go_wp2_with fail
  go_quiet (fail)
  go_wp2
  go_ret2
  exact ⟨rfl, HA.out.2.drewN _⟩
set_option maxHeartbeats 2000000 in
set_option maxRecDepth 100000 in
theorem given_73 (n : Int) (f : Nat) (sc : Int) (text : List UInt8) (x5 x6 : Value) (h1 : -2147483648 ≤ n) (h2 : n ≤ 2147483647) (w : World) :
    Calls Tryz.prog 54 #[.agg #[.int .u8 73, .int .i64 n, .float .f64 f, .int .i64 sc, .string (bstr text), x5, x6]] w fun e w' => e = .returned (.tuple #[.iface 21 (.int .i32 n), .bool true]) ∧ Kept [] w w' := by
  have e1 : IntKind.i32.wrap n = n := by simp [IntKind.wrap, IntKind.bits, IntKind.signed]; omega
  have e2 : IntKind.i64.wrap n = n := by rw [IntKind.wrap_i64]; omega
  obtain ⟨wA, hwA⟩ : ∃ wA, wA = w.alloc (.cells #[.int .u8 73, .int .i64 n, .float .f64 f, .int .i64 sc, .string (bstr text), x5, x6] 151) := ⟨_, rfl⟩
  have hbA : Blk wA w.heap.size #[.int .u8 73, .int .i64 n, .float .f64 f, .int .i64 sc, .string (bstr text), x5, x6] 151 := by rw [hwA]; exact Blk.new w _ _
  have hkA : Kept [] w wA := by rw [hwA]; exact (Kept.refl [] w).alloc _
  obtain ⟨g, hg⟩ : ∃ g, g = w.heap.size := ⟨_, rfl⟩
  rw [← hg] at hbA
  have c0 := hbA.cell 0; have c1 := hbA.cell 1; have c2 := hbA.cell 2; have c3 := hbA.cell 3; have c4 := hbA.cell 4
  simp only [List.getElem?_toArray, List.getElem?_cons_zero, List.getElem?_cons_succ] at c0 c1 c2 c3 c4
  have HA := Lib.hid (And.intro hbA hkA); clear hbA hkA
  go_enter Tryz.func54, Tryz.ntmps54
  go_upto_region 1 with fail
  rw [← hwA, ← hg]
  clear hwA hg
  go_wp2_with fail
  go_quiet (fail)
  go_wp2
  go_ret2
  exact ⟨rfl, HA.out.2.drewN _⟩
set_option maxHeartbeats 2000000 in
set_option maxRecDepth 100000 in
theorem given_66 (n : Int) (f : Nat) (sc : Int) (text : List UInt8) (x5 x6 : Value) (h1 : 0 ≤ n) (h2 : n ≤ 255) (w : World) :
    Calls Tryz.prog 54 #[.agg #[.int .u8 66, .int .i64 n, .float .f64 f, .int .i64 sc, .string (bstr text), x5, x6]] w fun e w' => e = .returned (.tuple #[.iface 5 (.int .u8 n), .bool true]) ∧ Kept [] w w' := by
  have e1 : IntKind.u8.wrap n = n := by simp [IntKind.wrap, IntKind.bits, IntKind.signed]; omega
  have e2 : IntKind.i64.wrap n = n := by rw [IntKind.wrap_i64]; omega
  obtain ⟨wA, hwA⟩ : ∃ wA, wA = w.alloc (.cells #[.int .u8 66, .int .i64 n, .float .f64 f, .int .i64 sc, .string (bstr text), x5, x6] 151) := ⟨_, rfl⟩
  have hbA : Blk wA w.heap.size #[.int .u8 66, .int .i64 n, .float .f64 f, .int .i64 sc, .string (bstr text), x5, x6] 151 := by rw [hwA]; exact Blk.new w _ _
  have hkA : Kept [] w wA := by rw [hwA]; exact (Kept.refl [] w).alloc _
  obtain ⟨g, hg⟩ : ∃ g, g = w.heap.size := ⟨_, rfl⟩
  rw [← hg] at hbA
  have c0 := hbA.cell 0; have c1 := hbA.cell 1; have c2 := hbA.cell 2; have c3 := hbA.cell 3; have c4 := hbA.cell 4
  simp only [List.getElem?_toArray, List.getElem?_cons_zero, List.getElem?_cons_succ] at c0 c1 c2 c3 c4
  have HA := Lib.hid (And.intro hbA hkA); clear hbA hkA
  go_enter Tryz.func54, Tryz.ntmps54
  go_upto_region 1 with fail
  rw [← hwA, ← hg]
  clear hwA hg
  go_wp2_with fail
  go_quiet (fail)
  go_wp2
  go_ret2
  exact ⟨rfl, HA.out.2.drewN _⟩
set_option maxHeartbeats 2000000 in
set_option maxRecDepth 100000 in
theorem given_108 (n : Int) (f : Nat) (sc : Int) (text : List UInt8) (x5 x6 : Value)  (w : World) :
    Calls Tryz.prog 54 #[.agg #[.int .u8 108, .int .i64 n, .float .f64 f, .int .i64 sc, .string (bstr text), x5, x6]] w fun e w' => e = .returned (.tuple #[.iface 2 (.int .i64 n), .bool true]) ∧ Kept [] w w' := by
  obtain ⟨wA, hwA⟩ : ∃ wA, wA = w.alloc (.cells #[.int .u8 108, .int .i64 n, .float .f64 f, .int .i64 sc, .string (bstr text), x5, x6] 151) := ⟨_, rfl⟩
  have hbA : Blk wA w.heap.size #[.int .u8 108, .int .i64 n, .float .f64 f, .int .i64 sc, .string (bstr text), x5, x6] 151 := by rw [hwA]; exact Blk.new w _ _
  have hkA : Kept [] w wA := by rw [hwA]; exact (Kept.refl [] w).alloc _
  obtain ⟨g, hg⟩ : ∃ g, g = w.heap.size := ⟨_, rfl⟩
  rw [← hg] at hbA
  have c0 := hbA.cell 0; have c1 := hbA.cell 1; have c2 := hbA.cell 2; have c3 := hbA.cell 3; have c4 := hbA.cell 4
  simp only [List.getElem?_toArray, List.getElem?_cons_zero, List.getElem?_cons_succ] at c0 c1 c2 c3 c4
  have HA := Lib.hid (And.intro hbA hkA); clear hbA hkA
  go_enter Tryz.func54, Tryz.ntmps54
  go_upto_region 1 with fail
  rw [← hwA, ← hg]
  clear hwA hg
  go_wp2_with fail
  go_ret2
  exact ⟨rfl, HA.out.2⟩
set_option maxHeartbeats 2000000 in
set_option maxRecDepth 100000 in
theorem given_100 (n : Int) (f : Nat) (sc : Int) (text : List UInt8) (x5 x6 : Value)  (w : World) :
    Calls Tryz.prog 54 #[.agg #[.int .u8 100, .int .i64 n, .float .f64 f, .int .i64 sc, .string (bstr text), x5, x6]] w fun e w' => e = .returned (.tuple #[.iface 138 (.float .f64 f), .bool true]) ∧ Kept [] w w' := by
  obtain ⟨wA, hwA⟩ : ∃ wA, wA = w.alloc (.cells #[.int .u8 100, .int .i64 n, .float .f64 f, .int .i64 sc, .string (bstr text), x5, x6] 151) := ⟨_, rfl⟩
  have hbA : Blk wA w.heap.size #[.int .u8 100, .int .i64 n, .float .f64 f, .int .i64 sc, .string (bstr text), x5, x6] 151 := by rw [hwA]; exact Blk.new w _ _
  have hkA : Kept [] w wA := by rw [hwA]; exact (Kept.refl [] w).alloc _
  obtain ⟨g, hg⟩ : ∃ g, g = w.heap.size := ⟨_, rfl⟩
  rw [← hg] at hbA
  have c0 := hbA.cell 0; have c1 := hbA.cell 1; have c2 := hbA.cell 2; have c3 := hbA.cell 3; have c4 := hbA.cell 4
  simp only [List.getElem?_toArray, List.getElem?_cons_zero, List.getElem?_cons_succ] at c0 c1 c2 c3 c4
  have HA := Lib.hid (And.intro hbA hkA); clear hbA hkA
  go_enter Tryz.func54, Tryz.ntmps54
  go_upto_region 1 with fail
  rw [← hwA, ← hg]
  clear hwA hg
  go_wp2_with fail
  go_ret2
  exact ⟨rfl, HA.out.2⟩
set_option maxHeartbeats 2000000 in
set_option maxRecDepth 100000 in
theorem given_83 (n : Int) (f : Nat) (sc : Int) (text : List UInt8) (x5 x6 : Value)  (w : World) :
    Calls Tryz.prog 54 #[.agg #[.int .u8 83, .int .i64 n, .float .f64 f, .int .i64 sc, .string (bstr text), x5, x6]] w fun e w' => e = .returned (.tuple #[.iface 9 (.string (bstr text)), .bool true]) ∧ Kept [] w w' := by
  obtain ⟨wA, hwA⟩ : ∃ wA, wA = w.alloc (.cells #[.int .u8 83, .int .i64 n, .float .f64 f, .int .i64 sc, .string (bstr text), x5, x6] 151) := ⟨_, rfl⟩
  have hbA : Blk wA w.heap.size #[.int .u8 83, .int .i64 n, .float .f64 f, .int .i64 sc, .string (bstr text), x5, x6] 151 := by rw [hwA]; exact Blk.new w _ _
  have hkA : Kept [] w wA := by rw [hwA]; exact (Kept.refl [] w).alloc _
  obtain ⟨g, hg⟩ : ∃ g, g = w.heap.size := ⟨_, rfl⟩
  rw [← hg] at hbA
  have c0 := hbA.cell 0; have c1 := hbA.cell 1; have c2 := hbA.cell 2; have c3 := hbA.cell 3; have c4 := hbA.cell 4
  simp only [List.getElem?_toArray, List.getElem?_cons_zero, List.getElem?_cons_succ] at c0 c1 c2 c3 c4
  have HA := Lib.hid (And.intro hbA hkA); clear hbA hkA
  go_enter Tryz.func54, Tryz.ntmps54
  go_upto_region 1 with fail
  rw [← hwA, ← hg]
  clear hwA hg
  go_wp2_with fail
  go_ret2
  exact ⟨rfl, HA.out.2⟩
set_option maxHeartbeats 2000000 in
set_option maxRecDepth 100000 in
theorem given_86 (n : Int) (f : Nat) (sc : Int) (text : List UInt8) (x5 x6 : Value)  (w : World) :
    Calls Tryz.prog 54 #[.agg #[.int .u8 86, .int .i64 n, .float .f64 f, .int .i64 sc, .string (bstr text), x5, x6]] w fun e w' => e = .returned (.tuple #[.nilIface, .bool true]) ∧ Kept [] w w' := by
  obtain ⟨wA, hwA⟩ : ∃ wA, wA = w.alloc (.cells #[.int .u8 86, .int .i64 n, .float .f64 f, .int .i64 sc, .string (bstr text), x5, x6] 151) := ⟨_, rfl⟩
  have hbA : Blk wA w.heap.size #[.int .u8 86, .int .i64 n, .float .f64 f, .int .i64 sc, .string (bstr text), x5, x6] 151 := by rw [hwA]; exact Blk.new w _ _
  have hkA : Kept [] w wA := by rw [hwA]; exact (Kept.refl [] w).alloc _
  obtain ⟨g, hg⟩ : ∃ g, g = w.heap.size := ⟨_, rfl⟩
  rw [← hg] at hbA
  have c0 := hbA.cell 0; have c1 := hbA.cell 1; have c2 := hbA.cell 2; have c3 := hbA.cell 3; have c4 := hbA.cell 4
  simp only [List.getElem?_toArray, List.getElem?_cons_zero, List.getElem?_cons_succ] at c0 c1 c2 c3 c4
  have HA := Lib.hid (And.intro hbA hkA); clear hbA hkA
  go_enter Tryz.func54, Tryz.ntmps54
  go_upto_region 1 with fail
  rw [← hwA, ← hg]
  clear hwA hg
  go_wp2_with fail
  go_quiet (fail)
  go_wp2
  go_ret2
  exact ⟨rfl, HA.out.2.drewN _⟩
set_option maxHeartbeats 2000000 in
set_option maxRecDepth 100000 in
theorem given_102 (n : Int) (f : Nat) (sc : Int) (text : List UInt8) (x5 x6 : Value) (hf : fracB f = true) (hl : f < 18446744073709551616) (w : World) :
    Calls Tryz.prog 54 #[.agg #[.int .u8 102, .int .i64 n, .float .f64 f, .int .i64 sc, .string (bstr text), x5, x6]] w fun e w' => e = .returned (.tuple #[.iface 178 (.float .f32 (Flt.toS f)), .bool true]) ∧ Kept [] w w' := by
  have hcv := run_f32 f hf hl
  obtain ⟨wA, hwA⟩ : ∃ wA, wA = w.alloc (.cells #[.int .u8 102, .int .i64 n, .float .f64 f, .int .i64 sc, .string (bstr text), x5, x6] 151) := ⟨_, rfl⟩
  have hbA : Blk wA w.heap.size #[.int .u8 102, .int .i64 n, .float .f64 f, .int .i64 sc, .string (bstr text), x5, x6] 151 := by rw [hwA]; exact Blk.new w _ _
  have hkA : Kept [] w wA := by rw [hwA]; exact (Kept.refl [] w).alloc _
  obtain ⟨g, hg⟩ : ∃ g, g = w.heap.size := ⟨_, rfl⟩
  rw [← hg] at hbA
  have c0 := hbA.cell 0; have c1 := hbA.cell 1; have c2 := hbA.cell 2; have c3 := hbA.cell 3; have c4 := hbA.cell 4
  simp only [List.getElem?_toArray, List.getElem?_cons_zero, List.getElem?_cons_succ] at c0 c1 c2 c3 c4
  have HA := Lib.hid (And.intro hbA hkA); clear hbA hkA
  go_enter Tryz.func54, Tryz.ntmps54
  go_upto_region 1 with fail
  rw [← hwA, ← hg]
  clear hwA hg
  go_wp2_with fail
  go_ret2
  exact ⟨rfl, HA.out.2⟩
set_option maxHeartbeats 2000000 in
set_option maxRecDepth 100000 in
theorem given_116 (n : Int) (f : Nat) (sc : Int) (text : List UInt8) (x5 x6 : Value) (h : n = 0 ∨ n = 1) (w : World) :
    Calls Tryz.prog 54 #[.agg #[.int .u8 116, .int .i64 n, .float .f64 f, .int .i64 sc, .string (bstr text), x5, x6]] w fun e w' => e = .returned (.tuple #[.iface 4 (.bool (decide (n ≠ 0))), .bool true]) ∧ Kept [] w w' := by
  obtain ⟨wA, hwA⟩ : ∃ wA, wA = w.alloc (.cells #[.int .u8 116, .int .i64 n, .float .f64 f, .int .i64 sc, .string (bstr text), x5, x6] 151) := ⟨_, rfl⟩
  have hbA : Blk wA w.heap.size #[.int .u8 116, .int .i64 n, .float .f64 f, .int .i64 sc, .string (bstr text), x5, x6] 151 := by rw [hwA]; exact Blk.new w _ _
  have hkA : Kept [] w wA := by rw [hwA]; exact (Kept.refl [] w).alloc _
  obtain ⟨g, hg⟩ : ∃ g, g = w.heap.size := ⟨_, rfl⟩
  rw [← hg] at hbA
  have c0 := hbA.cell 0; have c1 := hbA.cell 1; have c2 := hbA.cell 2; have c3 := hbA.cell 3; have c4 := hbA.cell 4
  simp only [List.getElem?_toArray, List.getElem?_cons_zero, List.getElem?_cons_succ] at c0 c1 c2 c3 c4
  have HA := Lib.hid (And.intro hbA hkA); clear hbA hkA
  go_enter Tryz.func54, Tryz.ntmps54
  go_upto_region 1 with fail
  rw [← hwA, ← hg]
  clear hwA hg
  rcases h with rfl | rfl
  · go_wp2_with fail
    go_quiet (fail)
    go_wp2
    go_ret2
    exact ⟨by simp, HA.out.2.drewN _⟩
  · go_wp2_with fail
    go_quiet (fail)
    go_wp2
    go_ret2
    exact ⟨by simp, HA.out.2.drewN _⟩
set_option maxHeartbeats 2000000 in
set_option maxRecDepth 100000 in
theorem given_68 (n : Int) (f : Nat) (sc : Int) (text : List UInt8) (x5 x6 : Value) (h1 : -2147483648 ≤ n) (h2 : n ≤ 2147483647) (s1 : 0 ≤ sc) (s2 : sc ≤ 255) (w : World) :
    Calls Tryz.prog 54 #[.agg #[.int .u8 68, .int .i64 n, .float .f64 f, .int .i64 sc, .string (bstr text), x5, x6]] w fun e w' => e = .returned (.tuple #[.iface 191 (.agg #[.int .u8 sc, .int .i32 n]), .bool true]) ∧ Kept [] w w' := by
  have e1 : IntKind.i32.wrap n = n := by simp [IntKind.wrap, IntKind.bits, IntKind.signed]; omega
  have e2 : IntKind.i64.wrap n = n := by rw [IntKind.wrap_i64]; omega
  have e3 : IntKind.u8.wrap sc = sc := by simp [IntKind.wrap, IntKind.bits, IntKind.signed]; omega
  have e4 : IntKind.i64.wrap sc = sc := by rw [IntKind.wrap_i64]; omega
  obtain ⟨wA, hwA⟩ : ∃ wA, wA = w.alloc (.cells #[.int .u8 68, .int .i64 n, .float .f64 f, .int .i64 sc, .string (bstr text), x5, x6] 151) := ⟨_, rfl⟩
  have hbA : Blk wA w.heap.size #[.int .u8 68, .int .i64 n, .float .f64 f, .int .i64 sc, .string (bstr text), x5, x6] 151 := by rw [hwA]; exact Blk.new w _ _
  have hkA : Kept [] w wA := by rw [hwA]; exact (Kept.refl [] w).alloc _
  obtain ⟨g, hg⟩ : ∃ g, g = w.heap.size := ⟨_, rfl⟩
  rw [← hg] at hbA
  have c0 := hbA.cell 0; have c1 := hbA.cell 1; have c2 := hbA.cell 2; have c3 := hbA.cell 3; have c4 := hbA.cell 4
  simp only [List.getElem?_toArray, List.getElem?_cons_zero, List.getElem?_cons_succ] at c0 c1 c2 c3 c4
  have HA := Lib.hid (And.intro hbA hkA); clear hbA hkA
  go_enter Tryz.func54, Tryz.ntmps54
  go_upto_region 1 with fail
  rw [← hwA, ← hg]
  clear hwA hg
  go_wp2_with fail
  go_quiet (fail)
  go_wp2
  go_ret2
  exact ⟨rfl, HA.out.2.drewN _⟩
set_option maxHeartbeats 2000000 in
set_option maxRecDepth 100000 in
theorem given_84 (n : Int) (f : Nat) (sc : Int) (text : List UInt8) (x5 x6 : Value) (h0 : 0 ≤ n) (h1 : n ≤ 4611686018427387904) (w : World) :
    Calls Tryz.prog 54 #[.agg #[.int .u8 84, .int .i64 n, .float .f64 f, .int .i64 sc, .string (bstr text), x5, x6]] w fun e w' => e = .returned (.tuple #[.iface 99 (timeV n), .bool true]) ∧ Kept [] w w' := by
  obtain ⟨wA, hwA⟩ : ∃ wA, wA = w.alloc (.cells #[.int .u8 84, .int .i64 n, .float .f64 f, .int .i64 sc, .string (bstr text), x5, x6] 151) := ⟨_, rfl⟩
  have hbA : Blk wA w.heap.size #[.int .u8 84, .int .i64 n, .float .f64 f, .int .i64 sc, .string (bstr text), x5, x6] 151 := by rw [hwA]; exact Blk.new w _ _
  have hkA : Kept [] w wA := by rw [hwA]; exact (Kept.refl [] w).alloc _
  obtain ⟨g, hg⟩ : ∃ g, g = w.heap.size := ⟨_, rfl⟩
  rw [← hg] at hbA
  have c0 := hbA.cell 0; have c1 := hbA.cell 1; have c2 := hbA.cell 2; have c3 := hbA.cell 3; have c4 := hbA.cell 4
  simp only [List.getElem?_toArray, List.getElem?_cons_zero, List.getElem?_cons_succ] at c0 c1 c2 c3 c4
  have HA := Lib.hid (And.intro hbA hkA); clear hbA hkA
  go_enter Tryz.func54, Tryz.ntmps54
  go_upto_region 1 with fail
  rw [← hwA, ← hg]
  clear hwA hg
  go_wp2_with (go_at_call 41; (with_reducible refine (unix_any n h0 h1 _).mono ?_); rintro e w1 ⟨rfl, hk⟩; have HK := Lib.hid hk; clear hk)
  go_ret2
  exact ⟨rfl, HA.out.2.trans HK.out (by simp)⟩
set_option maxHeartbeats 2000000 in
set_option maxRecDepth 100000 in
theorem given_120 (n : Int) (f : Nat) (sc : Int) (text : List UInt8) (x5 x6 : Value)  (w : World) :
    Calls Tryz.prog 54 #[.agg #[.int .u8 120, .int .i64 n, .float .f64 f, .int .i64 sc, .string (bstr text), x5, x6]] w fun e w' => ∃ g cap, e = .returned (.tuple #[.iface 22 (.slice (some ⟨g, 0, none⟩) text.length cap), .bool true]) ∧ LB w' g text ∧ w.heap.size ≤ g ∧ g < w'.heap.size ∧ Kept [] w w' := by
  obtain ⟨wA, hwA⟩ : ∃ wA, wA = w.alloc (.cells #[.int .u8 120, .int .i64 n, .float .f64 f, .int .i64 sc, .string (bstr text), x5, x6] 151) := ⟨_, rfl⟩
  have hbA : Blk wA w.heap.size #[.int .u8 120, .int .i64 n, .float .f64 f, .int .i64 sc, .string (bstr text), x5, x6] 151 := by rw [hwA]; exact Blk.new w _ _
  have hkA : Kept [] w wA := by rw [hwA]; exact (Kept.refl [] w).alloc _
  obtain ⟨g, hg⟩ : ∃ g, g = w.heap.size := ⟨_, rfl⟩
  rw [← hg] at hbA
  have c0 := hbA.cell 0; have c1 := hbA.cell 1; have c2 := hbA.cell 2; have c3 := hbA.cell 3; have c4 := hbA.cell 4
  simp only [List.getElem?_toArray, List.getElem?_cons_zero, List.getElem?_cons_succ] at c0 c1 c2 c3 c4
  have HA := Lib.hid (And.intro hbA hkA); clear hbA hkA
  go_enter Tryz.func54, Tryz.ntmps54
  go_upto_region 1 with fail
  rw [← hwA, ← hg]
  clear hwA hg
  go_wp2_with (refine wpList_conv_bytes rfl 9 22 5 (.tmp 155) rfl Tryz.underlying9 Tryz.underlying22 Tryz.underlying5 text rfl ?_; intro cap w5 hb hlt hk; have H5 := Lib.hid (And.intro hb (And.intro hlt hk)); clear hb hlt hk)
  go_ret2
  exact ⟨wA.heap.size, cap, rfl, H5.out.1, HA.out.2.size, H5.out.2.1, HA.out.2.trans H5.out.2.2 (by simp)⟩
theorem kept_setCells (g : Nat) : ∀ (l : List Value) (i : Nat) (w w0 : World), Kept [g] w0 w → Kept [g] w0 (w.setCells g i l)
  | [], _, _, _, h => h
  | v :: l, i, w, w0, h => kept_setCells g l (i + 1) _ w0 (h.setCell (by simp) v)
theorem wpList_append_arr {w : World} {ops : Array Oper} {rest : List Oper} {o : Oper} {a : Act} {Q : Exit → Act → World → Prop} (hgd : o.guard = none) (s x : Operand) (t t' : TypeId)
    (ho : o.op = .call { callee := .builtin .append, args := #[s, x], argTypes := #[t, t'] }) (ht : Tryz.prog.underlying t = some (.slice 5)) (ht' : Tryz.prog.underlying t' = some (.slice 5))
    (g n : Nat) (cs : List Value) (ty : TypeId) (hb : Blk w g cs.toArray ty) (hcs : cs.length = 9) (hn : n ≤ 9) (pre m : List UInt8) (hpre : cs.take n = u8s pre) (hpl : n = pre.length) (hs : a.eval s = .slice (some ⟨g, 0, none⟩) n 9)
    (sv : Value) (hx : a.eval x = sv) (d : Nat) (hsrc : Src w sv d m) (k : Nat) (hk : k = m.length) (hlen : k ≤ 1000000000)
    (h : ∀ (d' c' : Nat) (ao : Option Addr) (w' : World), Src w' (.slice ao (n + k) c') d' (pre ++ m) → (d' = g ∨ w.heap.size ≤ d') → Kept [g] w w' → wpList Tryz.prog ops Q rest (a.put o.dst (.slice ao (n + k) c')) w') : wpList Tryz.prog ops Q (o :: rest) a w := by
  subst hk
  obtain ⟨i, hi, hz0, hz1, hz2⟩ := info_parts infoPut
  have hcell : ∀ j v, (u8s pre)[j]? = some v → w.cell? ⟨g, j, none⟩ = some v := fun j v hj => by
    rw [← hpre] at hj
    have hl : j < n := by have := (List.getElem?_eq_some_iff.1 hj).1; simp at this; omega
    rw [List.getElem?_take_of_lt hl] at hj
    rw [hb.cell]; simpa using hj
  rcases hsrc with ⟨rfl, ao, c, rfl⟩ | ⟨ad, c, had, rfl, hsc⟩
  · refine wpList_append_zero w hgd s x t t' ho 5 5 ht' i ht hi (some ⟨g, 0, none⟩) n 9 hs hn ao c hx ?_
    have := h g 9 (some ⟨g, 0, none⟩) w (.inr ⟨⟨g, 0, none⟩, 9, rfl, by simp [hpl], fun j v hj => by rw [addr_add, Nat.zero_add]; exact hcell j v (by simpa using hj)⟩) (.inl rfl) (Kept.refl _ _)
    simpa using this
  · have hks : Go.Src Tryz.prog i.size t' (.slice (some ad) m.length c) m.length (u8s m) w := by
      rw [hz1]
      exact Go.Src.ofSlice w ht' ad m.length c (u8s m) (by simp [u8s]) hsc (u8s_one m)
    refine wpList_plain hgd fun K hK => ?_
    unfold Oper.wp execOp
    by_cases hroom : n + m.length ≤ 9
    · have hst : ∀ j, j < (u8s m).length → (w.cell? ⟨g, 0 + n * i.size + j, none⟩).isSome = true := fun j hj => by
        rw [u8s_length] at hj
        rw [hz1, hb.cell]
        simp; omega
      have hr := run_append_room_src (P := Tryz.prog) w t t' o.type 5 i ht hi g 0 n 9 (.slice (some ad) m.length c) m.length (u8s m) hks hroom hst (fun j _ => hb.free _)
      simp only [ho, resolve, invoke, builtin, Sem.run_bind, Sem.run_pure, Result.andThen_ok, List.map_toArray, List.map_cons, List.map_nil, hs, hx, hr]
      refine hK _ _ (h g 9 (some ⟨g, 0, none⟩) _ (.inr ⟨⟨g, 0, none⟩, 9, rfl, by simp [hpl], fun j v hj => ?_⟩) (.inl rfl) (kept_setCells g _ _ w w (Kept.refl _ _)))
      rw [addr_add, Nat.zero_add]
      rw [hz1, Nat.mul_one, Nat.zero_add] at hst ⊢
      rw [u8s_append] at hj
      by_cases hjn : j < n
      · rw [World.cell?_setCells_out g _ _ _ _ (fun _ _ => .inl (by simpa using hjn))]
        rw [List.getElem?_append_left (by rw [u8s_length]; omega)] at hj
        exact hcell j v hj
      · rw [List.getElem?_append_right (by rw [u8s_length]; omega), u8s_length, ← hpl] at hj
        have hjl := (List.getElem?_eq_some_iff.1 hj).1
        have := World.cell?_setCells_in g (u8s m) n w hst (j - n) hjl
        rw [show n + (j - n) = j by omega] at this
        rw [this, ← List.getElem?_eq_getElem hjl]
        exact hj
    · have hold : (Builtin.firstCells i.size n (.slice (some ⟨g, 0, none⟩) n 9)).run Tryz.prog w.drew = .ok (u8s pre).toArray w.drew := by
        rw [hz1]
        exact run_firstCells_some w.drew 1 n ⟨g, 0, none⟩ n 9 (u8s pre) (by simp [u8s, hpl]) (fun j v hj => by rw [addr_add, Nat.zero_add]; exact hcell j v hj)
      have hfit : Builtin.nextslicecap (n + m.length) 9 * i.bytes ≤ 281474976710656 := by
        rw [hz2]
        unfold Builtin.nextslicecap
        split <;> (try split) <;> omega
      have hr := run_append_grow_src (P := Tryz.prog) w t t' o.type 5 i (.int .u8 0) ht hi hz0 (some ⟨g, 0, none⟩) n 9 (u8s pre) hold (.slice (some ad) m.length c) m.length (u8s m) hks (by omega) (by omega) hfit
      simp only [ho, resolve, invoke, builtin, Sem.run_bind, Sem.run_pure, Result.andThen_ok, List.map_toArray, List.map_cons, List.map_nil, hs, hx, hr]
      refine hK _ _ (h w.heap.size _ (some ⟨w.heap.size, 0, none⟩) _ (.inr ⟨⟨w.heap.size, 0, none⟩, _, rfl, by rw [List.length_append, ← hpl], fun j v hj => ?_⟩) (.inr (Nat.le_refl _)) (((Kept.refl _ w).drew).alloc _))
      have hnew := (Blk.new w.drew ((u8s pre ++ u8s m).toArray ++ Builtin.zeroCells (Value.int .u8 0).cells (grownCap w (n + m.length) 9 5 - (n + m.length))) 5).cell j
      rw [addr_add, Nat.zero_add]
      refine Eq.trans hnew ?_
      rw [u8s_append] at hj
      have hjl := (List.getElem?_eq_some_iff.1 hj).1
      rw [Array.getElem?_append_left (by simpa using hjl)]
      simpa using hj
end Go.Proofs.YtkcdakohmfodjaaGreat
