/-
  Lemmas on the way to the statement of YtkcdakohmfodjaaGreatHeader, joined out of these texts: SpVV. No condition.
-/
import Derived.Test.YtkcdakohmfodjaaGreatNHpl
namespace Go.Proofs.YtkcdakohmfodjaaGreat
open Go.RowKit
set_option linter.unusedVariables false
set_option linter.unusedSimpArgs false
theorem u64_lt (n : Int) : u64 n < 18446744073709551616 := by unfold u64; omega
theorem wrap_u64i (n : Int) : IntKind.u64.wrap n = ((u64 n : Nat) : Int) := by rw [IntKind.wrap_u64]; unfold u64; omega
theorem run_f32 (f : Nat) (h : fracB f = true) (hf : f < 18446744073709551616) (w : World) : (convert 138 178 (.float .f64 f)).run Tryz.prog w = .ok (.float .f32 (Flt.toS f)) w := by
  obtain ⟨_, ⟨neg, m, p, hr⟩, ⟨neg', m', p', hr'⟩, _⟩ := (fracB_nice h).toSingle hf
  have hr1 : FloatKind.f64.decode f = .number neg m p := hr
  have e1 : FloatKind.f32.encode (.number neg m p) = Flt.toS f := by unfold Flt.toS; rw [hr]; rfl
  have hr2 : FloatKind.f32.decode (Flt.toS f) = .number neg' m' p' := hr'
  simp [convert, run_underlying Tryz.underlying138, run_underlying Tryz.underlying178, Conv.floatToFloat, hr1, e1, hr2, Ieee.Datum.isInfinity]
theorem run_bits32 (b : Nat) (w : World) : (callFunc 72 #[.float .f32 b]).run Tryz.prog w = .ok (.value (.int .u32 (b : Int))) w := by kernel_rfl
theorem run_bits64 (b : Nat) (w : World) : (callFunc 73 #[.float .f64 b]).run Tryz.prog w = .ok (.value (.int .u64 (b : Int))) w := by kernel_rfl
theorem leaf_kinds {k : UInt8} {n : Int} {f : Nat} {sc : Int} (h : leafOk k n f sc = true) : k = 116 ∨ k = 66 ∨ k = 84 ∨ k = 102 ∨ k = 100 ∨ k = 68 ∨ k = 98 ∨ k = 115 ∨ k = 73 ∨ k = 108 ∨ k = 83 ∨ k = 120 ∨ k = 86 := by
  unfold leafOk at h
  split at h
  · simp_all
  split at h
  · simp_all
  split at h
  · simp_all
  split at h
  · rename_i hh; rcases hh with rfl | rfl <;> simp
  split at h
  · simp_all
  · have := of_decide_eq_true h
    rcases this with rfl | rfl | rfl | rfl | rfl | rfl | rfl <;> simp
theorem adv_of {q : Nat} {bs : List Nat} {w w' : World} (h : Kept [] w w') : Adv q bs bs w w' := ⟨h.mono (by simp), fun b hb => .inl hb⟩
set_option maxHeartbeats 4000000 in
set_option maxRecDepth 100000 in
theorem wvalue_of (k : UInt8) (n : Int) (f : Nat) (sc : Int) (text : List UInt8) (kids : List Val) (flds : List Fld) (hF : WrFC flds) (hK : ∀ v, v ∈ kids → WrVC v) : WrVC (.mk k n f sc text kids flds) := by
  intro B cs d q bs l w hs hwf hok hcost hw hB hl hd1
  unfold VHeld at hs
  obtain ⟨ka, kc, fa, fc, rfl, hkc, hfc, hks, hfs, hkat, hfat⟩ := hs
  have hksl : KSl B w (.slice ka kids.length kc) kids := ⟨ka, kc, rfl, hkc, hks, hkat⟩
  have hfsl : FSl B w (.slice fa flds.length fc) flds := ⟨fa, fc, rfl, hfc, hfs, hfat⟩
  unfold WfV at hwf
  obtain ⟨wt, wk, wf, wkl, wfs, wn1, wn2, wff⟩ := hwf
  unfold OkV at hok
  obtain ⟨hd, hin, hok⟩ := hok
  have ht : text.length ≤ 2000 ∧ (k = 65 → costL kids ≤ 2000) ∧ (k = 70 → costFs flds ≤ 2000) := by
    unfold costV at hcost
    refine ⟨by omega, fun e => ?_, fun e => ?_⟩
    · rw [if_pos e] at hcost; omega
    · rw [if_neg (by rw [e]; decide), if_pos e] at hcost; omega
  have hn := wrap_u64i n
  have hsc := wrap_u64i sc
  have hkk : IntKind.u64.wrap (k.toNat : Int) = k.toNat := by rw [IntKind.wrap_u64]; have := k.toNat_lt; omega
  have H := Lib.hid (And.intro hksl (And.intro hfsl (And.intro wkl (And.intro wfs (And.intro hF (And.intro hK (And.intro hB (And.intro wk (And.intro wf ht)))))))))
  have HW := Lib.hid (And.intro hw (And.intro hl (And.intro wn1 (And.intro wn2 (And.intro wff hd1)))))
  have HO := Lib.hid (And.intro hin hok)
  clear hksl hfsl wkl wfs hF hK hB wk wf hw hl hd1 wn1 wn2 wff hin hok hkc hfc hks hfs hkat hfat ht hcost wt
  go_enter Tryz.func50, Tryz.ntmps50
  go_upto_region 1 with fail
  generalize hW1 : w.alloc _ = W1
  have hb0 : Blk W1 w.heap.size #[.int .u8 (k.toNat : Int), .int .i64 n, .float .f64 f, .int .i64 sc, .string (bstr text), .slice ka kids.length kc, .slice fa flds.length fc] 141 := by rw [← hW1]; exact Blk.new w _ _
  have hk1 : Kept [] w W1 := by rw [← hW1]; exact (Kept.refl [] w).alloc _
  clear hW1
  have c0 : W1.cell? ⟨w.heap.size, 0, none⟩ = some (.int .u8 (k.toNat : Int)) := hb0.cell 0
  have hp1 := put_any q k.toNat 1 bs l W1 (HW.out.1.kept hk1 (by simp) (by simp)) (by have := k.toNat_lt; omega) (by omega) (by have := HW.out.2.1; omega)
  have HP := Lib.hid hp1; clear hp1
  have H1 := Lib.hid (And.intro hb0 hk1); clear hb0 hk1
  go_upto_region 2 with (go_at_call 21; refine HP.out.mono ?_; rintro e w2 ⟨rfl, b2, hw2, ha2⟩; have H2 := Lib.hid (And.intro hw2 ha2); clear hw2 ha2)
  have hq0 : w.heap.size ∉ q :: bs := by
    simp only [List.mem_cons, not_or]
    exact ⟨by have := HW.out.1.lt; omega, fun h => by have := HW.out.1.blt _ h; omega⟩
  have hb2 := H1.out.1.kept H2.out.2.kept hq0
  obtain ⟨z0, z1, z2, z3, z4, z5, z6⟩ := cells7 hb2
  have e1 : l ++ Lib.beBytes 1 k.toNat = l ++ [k] := by
    congr 1
    simp [Lib.beBytes, Lib.leBytes]
  have hw2 : Wr 61 w2 q b2 (l ++ [k]) := e1 ▸ H2.out.1
  have hl2 : (l ++ [k]).length + (d - 1) ≤ 100000010 := by have := HW.out.2.1; simp; omega
  have ha2 : Adv q bs b2 w w2 := (adv_of H1.out.2).trans H2.out.2
  have HX := Lib.hid (And.intro hw2 (And.intro hl2 (And.intro ha2 hb2))); clear hw2 hl2 ha2 hb2 e1 hq0 hkk
  have hcases : k = 65 ∨ k = 70 ∨ (k = 116 ∨ k = 66 ∨ k = 84 ∨ k = 102 ∨ k = 100 ∨ k = 68 ∨ k = 98 ∨ k = 115 ∨ k = 73 ∨ k = 108 ∨ k = 83 ∨ k = 120 ∨ k = 86) := by
    by_cases h1 : k = 65
    · exact .inl h1
    by_cases h2 : k = 70
    · exact .inr (.inl h2)
    have := HO.out.2
    rw [if_neg h1, if_neg h2] at this
    exact .inr (.inr (leaf_kinds this))
  rcases hcases with rfl | rfl | rfl | rfl | rfl | rfl | rfl | rfl | rfl | rfl | rfl | rfl | rfl | rfl | rfl
  · have hkv : ((UInt8.toNat 65 : Nat) : Int) = 65 := rfl
    have hok' : OkL kids (d - 1) := HO.out.2
    have hel := encL_len kids
    have hcost' := H.out.2.2.2.2.2.2.2.2.2.2.1 rfl
    have hkl : (kids.length : Int) ≤ 140737488355328 := by have := H.out.2.2.2.2.2.2.2.1; omega
    have HKL := Lib.hid (And.intro hok' (And.intro hel hcost')); clear hok' hel hcost'
    obtain ⟨ka', kc', hka, _, _, hget⟩ := H.out.1.get
    obtain ⟨rfl, rfl⟩ : ka = ka' ∧ kc = kc' := by cases hka; exact ⟨rfl, rfl⟩
    have HG := Lib.hid hget; clear hka hget
    go_upto_region 26 with fail
    generalize hW3 : (w2.alloc _).alloc _ = W3
    have hwi : Wr 61 W3 (w2.heap.size + 1) [w2.heap.size] [] := by rw [← hW3]; exact wr_fresh w2
    have hk3 : Kept [] w2 W3 := by rw [← hW3]; exact ((Kept.refl [] w2).alloc _).alloc _
    have hsz3 : W3.heap.size = w2.heap.size + 1 + 1 := by rw [← hW3]; simp
    clear hW3
    have y5 : W3.cell? ⟨w.heap.size, 5, none⟩ = some (.slice ka kids.length kc) := (HX.out.2.2.2.kept hk3 (by simp)).cell 5
    go_wp2_with fail
    go_loopw [87] (fun i W => ∃ (m : Nat) (bi : List Nat), m ≤ kids.length ∧ i = .int .i64 (m : Int) ∧ Hid (Wr 61 W (w2.heap.size + 1) bi (encL (kids.take m)) ∧ Adv (w2.heap.size + 1) [w2.heap.size] bi W3 W)) (fun i _ => kids.length - (intOf i).toNat)
    case atStart => exact ⟨0, [w2.heap.size], Nat.zero_le _, rfl, Lib.hid ⟨hwi, Adv.refl _ _ _⟩⟩
    case round =>
      obtain ⟨m, bi, hmk, rfl, HR⟩ := hrel
      have hbi : ∀ b ∈ bi, w2.heap.size ≤ b ∧ b < wr.heap.size := fun b hb => ⟨by rcases HR.out.2.own b hb with h | h; simp at h; omega; omega, HR.out.1.blt b hb⟩
      have hkw : Kept [] w2 wr := hk3.trans HR.out.2.kept (fun x hx => .inr (by simp at hx; omega))
      have HB := Lib.hid (And.intro hbi hkw); clear hbi hkw
      by_cases hlt : m < kids.length
      · obtain ⟨v, hx⟩ : ∃ v, kids[m]? = some v := ⟨_, List.getElem?_eq_getElem hlt⟩
        obtain ⟨ad, cs, rfl, hca, hvh⟩ := HG.out m v hx
        have hlt' : (m : Int) < kids.length := by omega
        have hkq : Kept (q :: bs) w wr := (HX.out.2.2.1.kept).trans HB.out.2 (by simp)
        have hBq : ∀ b, (B b ∧ b < w.heap.size) → b ∉ q :: bs := fun b hb => by have := H.out.2.2.2.2.2.2.1 b hb.1; simp [this.1, this.2]
        have hca' := (CellsAt.kept (B := fun b => B b ∧ b < w.heap.size) ⟨⟨hca.1, hca.lt (by have := hvh.ne; intro e; subst e; simp at this)⟩, hca.2⟩ hkq hBq).2
        have hvlt := VHeld.mono (B' := fun b => B b ∧ b < w.heap.size) (fun b hb hl => ⟨hb, hl⟩) v hvh
        have hvh' := VHeld.kept hkq hBq v hvlt
        obtain ⟨a0, a1, a2, a3, a4, a5, a6, rfl⟩ := hvh'.seven
        have hln := encL_take_len kids m
        have HX2 := Lib.hid (And.intro hx (And.intro hca' (And.intro hvh' hln))); clear hx hca hca' hvh hvh' hvlt hkq hBq hln
        go_upto_region 29 with (first
          | (refine wpList_load_cells rfl 141 (.tmp 89) rfl _ rfl _ HX2.out.2.1 _ Tryz.underlying141 rfl size_sVal ?_)
          | (refine wpList_store_row (P := Tryz.prog) rfl rfl 141 (.tmp 6) (.tmp 90) rfl wr.heap.size rfl 141 _ [a0, a1, a2, a3, a4, a5, a6] (Blk.new wr _ _) rfl rfl HX2.out.2.2.1.one size_sVal ?_; intro w5 hb5 hk5; have HB5 := Lib.hid (And.intro hb5 (((Kept.refl [] wr).alloc _).trans hk5 (S' := [wr.heap.size]) (by simp))); clear hb5 hk5))
        obtain ⟨s0, s1, s2, s3, s4, s5, s6⟩ := cells7 HB5.out.1
        have hvc := H.out.2.2.2.2.2.1 v (List.mem_of_getElem? HX2.out.1) (fun b => B b ∧ b < w.heap.size) _ (d - 1) (w2.heap.size + 1) bi _ w5 (VHeld.kept HB5.out.2 (by simp) v HX2.out.2.2.1) (WfL.get kids H.out.2.2.1 m v HX2.out.1) (OkL.get kids _ HKL.out.1 m v HX2.out.1)
          (by have := costL_get kids m v HX2.out.1; have := HKL.out.2.2; omega) (HR.out.1.kept HB5.out.2 (by simp) (by simp)) (fun b hb => by have := HX.out.2.2.1.kept.size; exact ⟨by omega, fun hm => by have := (HB.out.1 b hm).1; omega⟩)
          (by have := HKL.out.2.1; have := HKL.out.2.2; have := HX2.out.2.2.2; have := HW.out.2.2.2.2.2; omega) (by have := HW.out.2.2.2.2.2; omega)
        have HV := Lib.hid hvc; clear hvc
        go_wp2_with (go_at_call 50; refine HV.out.mono ?_; rintro e w6 ⟨rfl, b6, hw6, ha6⟩; have H6 := Lib.hid (And.intro hw6 ha6); clear hw6 ha6)
        go_roundw
        case rel =>
          refine ⟨m + 1, b6, hlt, rfl, Lib.hid ⟨?_, ?_⟩⟩
          · have e1 : kids.take (m + 1) = kids.take m ++ [v] := by rw [List.take_add_one, HX2.out.1]; rfl
            rw [e1, encL_append]
            have := H6.out.1
            simp only [encL, List.append_nil] at this ⊢
            exact this
          · exact (HR.out.2.trans (⟨HB5.out.2.mono (by simp), fun b hb => .inl hb⟩ : Adv (w2.heap.size + 1) bi bi wr w5)).trans H6.out.2
        case measure => simp [intOf]; omega
      · have hkn : (m : Int) = kids.length := by omega
        have hwi2 := HR.out.1
        rw [List.take_of_length_le (by omega)] at hwi2
        obtain ⟨v, q1, q2, q3, q4⟩ := hwi2
        have c1 := q1.cell0
        have hcv := conv_own Tryz.underlying61 q2
        have hlg := long_any q (encL kids) b2 _ wr (HX.out.1.kept HB.out.2 (by simp) (by simp)) (by have := HKL.out.2.1; have := HKL.out.2.2; omega) (by have := HX.out.2.1; omega)
        have HL := Lib.hid hlg; clear hlg q1 q2 q3 q4
        go_wp2_with (go_at_call 31; refine HL.out.mono ?_; rintro e w4 ⟨rfl, b4, hw4, ha4⟩; have H4 := Lib.hid (And.intro hw4 ha4); clear hw4 ha4)
        go_end0
        refine ⟨rfl, b4, ?_, (HX.out.2.2.1.trans (adv_of HB.out.2)).trans H4.out.2⟩
        have := H4.out.1
        simpa [encV, List.append_assoc] using this
  · have hkv : ((UInt8.toNat 70 : Nat) : Int) = 70 := rfl
    have hpp := H.out.2.2.2.2.1 (fun b => B b ∧ b < w.heap.size) (.slice fa flds.length fc) none (d - 1) q b2 _ w2 (FSl.kept (FSl.mono H.out.2.1 (fun b hb hl => ⟨hb, hl⟩)) HX.out.2.2.1.kept (fun b hb => by have := H.out.2.2.2.2.2.2.1 b hb.1; simp [this.1, this.2])) H.out.2.2.2.1 H.out.2.2.2.2.2.2.2.2.1 HO.out.2 (H.out.2.2.2.2.2.2.2.2.2.2.2 rfl) HX.out.1 (fun b hb => ⟨(H.out.2.2.2.2.2.2.1 b hb.1).1, fun hm => by rcases HX.out.2.2.1.own b hm with h | h; exact (H.out.2.2.2.2.2.2.1 b hb.1).2 h; omega⟩) (by have := HX.out.2.1; omega) (by have := HW.out.2.2.2.2.2; omega)
    have HPP := Lib.hid hpp; clear hpp
    go_wp2_with (go_at_call 32; refine HPP.out.mono ?_; rintro e w3 ⟨rfl, b3, hw3, ha3⟩; have H3 := Lib.hid (And.intro hw3 ha3); clear hw3 ha3)
    go_end0
    refine ⟨rfl, b3, ?_, HX.out.2.2.1.trans H3.out.2⟩
    have := H3.out.1
    simpa [encV, encT, List.append_assoc] using this
  · have hkv : ((UInt8.toNat 116 : Nat) : Int) = 116 := rfl
    have hpp := put_any q (u64 n) 1 b2 _ w2 HX.out.1 (u64_lt n) (by omega) (by have := HX.out.2.1; omega)
    have HPP := Lib.hid hpp; clear hpp
    go_wp2_with (go_at_call 21; refine HPP.out.mono ?_; rintro e w3 ⟨rfl, b3, hw3, ha3⟩; have H3 := Lib.hid (And.intro hw3 ha3); clear hw3 ha3)
    all_goals
      go_end0
      refine ⟨rfl, b3, ?_, HX.out.2.2.1.trans H3.out.2⟩
      have := H3.out.1
      simpa [encV, List.append_assoc] using this
  · have hkv : ((UInt8.toNat 66 : Nat) : Int) = 66 := rfl
    have hpp := put_any q (u64 n) 1 b2 _ w2 HX.out.1 (u64_lt n) (by omega) (by have := HX.out.2.1; omega)
    have HPP := Lib.hid hpp; clear hpp
    go_wp2_with (go_at_call 21; refine HPP.out.mono ?_; rintro e w3 ⟨rfl, b3, hw3, ha3⟩; have H3 := Lib.hid (And.intro hw3 ha3); clear hw3 ha3)
    all_goals
      go_end0
      refine ⟨rfl, b3, ?_, HX.out.2.2.1.trans H3.out.2⟩
      have := H3.out.1
      simpa [encV, List.append_assoc] using this
  · have hkv : ((UInt8.toNat 84 : Nat) : Int) = 84 := rfl
    have hpp := put_any q (u64 n) 8 b2 _ w2 HX.out.1 (u64_lt n) (by omega) (by have := HX.out.2.1; omega)
    have HPP := Lib.hid hpp; clear hpp
    go_wp2_with (go_at_call 21; refine HPP.out.mono ?_; rintro e w3 ⟨rfl, b3, hw3, ha3⟩; have H3 := Lib.hid (And.intro hw3 ha3); clear hw3 ha3)
    all_goals
      go_end0
      refine ⟨rfl, b3, ?_, HX.out.2.2.1.trans H3.out.2⟩
      have := H3.out.1
      simpa [encV, List.append_assoc] using this
  · have hkv : ((UInt8.toNat 102 : Nat) : Int) = 102 := rfl
    have hfr : fracB f = true := HO.out.2
    have hlt := ((fracB_nice hfr).toSingle HW.out.2.2.2.2.1).2.2.2
    have hcv := run_f32 f hfr HW.out.2.2.2.2.1
    have hw4 : IntKind.u64.wrap ((Flt.toS f : Nat) : Int) = (Flt.toS f : Nat) := by rw [IntKind.wrap_u64]; omega
    have hpp := put_any q (Flt.toS f) 4 b2 _ w2 HX.out.1 (by omega) (by omega) (by have := HX.out.2.1; omega)
    have HPP := Lib.hid hpp; clear hpp
    clear hfr hlt
    have hbb := run_bits32 (Flt.toS f)
    go_wp2_with (go_at_call 21; refine HPP.out.mono ?_; rintro e w3 ⟨rfl, b3, hw3, ha3⟩; have H3 := Lib.hid (And.intro hw3 ha3); clear hw3 ha3)
    all_goals
      go_end0
      refine ⟨rfl, b3, ?_, HX.out.2.2.1.trans H3.out.2⟩
      have := H3.out.1
      simpa [encV, List.append_assoc] using this
  · have hkv : ((UInt8.toNat 100 : Nat) : Int) = 100 := rfl
    have hpp := put_any q (f) 8 b2 _ w2 HX.out.1 (HW.out.2.2.2.2.1) (by omega) (by have := HX.out.2.1; omega)
    have HPP := Lib.hid hpp; clear hpp
    have hbb := run_bits64 f
    go_wp2_with (go_at_call 21; refine HPP.out.mono ?_; rintro e w3 ⟨rfl, b3, hw3, ha3⟩; have H3 := Lib.hid (And.intro hw3 ha3); clear hw3 ha3)
    all_goals
      go_end0
      refine ⟨rfl, b3, ?_, HX.out.2.2.1.trans H3.out.2⟩
      have := H3.out.1
      simpa [encV, List.append_assoc] using this
  · have hkv : ((UInt8.toNat 68 : Nat) : Int) = 68 := rfl
    have hpp := put_any q (u64 sc) 1 b2 _ w2 HX.out.1 (u64_lt sc) (by omega) (by have := HX.out.2.1; omega)
    have HPP := Lib.hid hpp; clear hpp
    go_upto_region 20 with (go_at_call 21; refine HPP.out.mono ?_; rintro e w3 ⟨rfl, b3, hw3, ha3⟩; have H3 := Lib.hid (And.intro hw3 ha3); clear hw3 ha3)
    have hq3 : w.heap.size ∉ q :: b2 := by
      simp only [List.mem_cons, not_or]
      exact ⟨by have := HW.out.1.lt; omega, fun h => by rcases H2.out.2.own _ h with h | h; have := HW.out.1.blt _ h; omega; have := H1.out.1.lt; omega⟩
    have y1 : w3.cell? ⟨w.heap.size, 1, none⟩ = some (.int .i64 n) := (HX.out.2.2.2.kept H3.out.2.kept hq3).cell 1
    have hpp := put_any q (u64 n) 4 b3 _ w3 H3.out.1 (u64_lt n) (by omega) (by have := HX.out.2.1; simp [Lib.beBytes_length] at this ⊢; omega)
    have HPP2 := Lib.hid hpp; clear hpp
    go_wp2_with (go_at_call 21; refine HPP2.out.mono ?_; rintro e w4 ⟨rfl, b4, hw4, ha4⟩; have H4 := Lib.hid (And.intro hw4 ha4); clear hw4 ha4)
    go_end0
    refine ⟨rfl, b4, ?_, HX.out.2.2.1.trans (H3.out.2.trans H4.out.2)⟩
    have := H4.out.1
    simpa [encV, List.append_assoc] using this
  · have hkv : ((UInt8.toNat 98 : Nat) : Int) = 98 := rfl
    have hpp := put_any q (u64 n) 1 b2 _ w2 HX.out.1 (u64_lt n) (by omega) (by have := HX.out.2.1; omega)
    have HPP := Lib.hid hpp; clear hpp
    go_wp2_with (go_at_call 21; refine HPP.out.mono ?_; rintro e w3 ⟨rfl, b3, hw3, ha3⟩; have H3 := Lib.hid (And.intro hw3 ha3); clear hw3 ha3)
    all_goals
      go_end0
      refine ⟨rfl, b3, ?_, HX.out.2.2.1.trans H3.out.2⟩
      have := H3.out.1
      simpa [encV, List.append_assoc] using this
  · have hkv : ((UInt8.toNat 115 : Nat) : Int) = 115 := rfl
    have hpp := put_any q (u64 n) 2 b2 _ w2 HX.out.1 (u64_lt n) (by omega) (by have := HX.out.2.1; omega)
    have HPP := Lib.hid hpp; clear hpp
    go_wp2_with (go_at_call 21; refine HPP.out.mono ?_; rintro e w3 ⟨rfl, b3, hw3, ha3⟩; have H3 := Lib.hid (And.intro hw3 ha3); clear hw3 ha3)
    all_goals
      go_end0
      refine ⟨rfl, b3, ?_, HX.out.2.2.1.trans H3.out.2⟩
      have := H3.out.1
      simpa [encV, List.append_assoc] using this
  · have hkv : ((UInt8.toNat 73 : Nat) : Int) = 73 := rfl
    have hpp := put_any q (u64 n) 4 b2 _ w2 HX.out.1 (u64_lt n) (by omega) (by have := HX.out.2.1; omega)
    have HPP := Lib.hid hpp; clear hpp
    go_wp2_with (go_at_call 21; refine HPP.out.mono ?_; rintro e w3 ⟨rfl, b3, hw3, ha3⟩; have H3 := Lib.hid (And.intro hw3 ha3); clear hw3 ha3)
    all_goals
      go_end0
      refine ⟨rfl, b3, ?_, HX.out.2.2.1.trans H3.out.2⟩
      have := H3.out.1
      simpa [encV, List.append_assoc] using this
  · have hkv : ((UInt8.toNat 108 : Nat) : Int) = 108 := rfl
    have hpp := put_any q (u64 n) 8 b2 _ w2 HX.out.1 (u64_lt n) (by omega) (by have := HX.out.2.1; omega)
    have HPP := Lib.hid hpp; clear hpp
    go_wp2_with (go_at_call 21; refine HPP.out.mono ?_; rintro e w3 ⟨rfl, b3, hw3, ha3⟩; have H3 := Lib.hid (And.intro hw3 ha3); clear hw3 ha3)
    all_goals
      go_end0
      refine ⟨rfl, b3, ?_, HX.out.2.2.1.trans H3.out.2⟩
      have := H3.out.1
      simpa [encV, List.append_assoc] using this
  · have hkv : ((UInt8.toNat 83 : Nat) : Int) = 83 := rfl
    have hpp := long_any q text b2 _ w2 HX.out.1 (by have := H.out.2.2.2.2.2.2.2.2.2.1; omega) (by have := HX.out.2.1; omega)
    have HPP := Lib.hid hpp; clear hpp
    go_wp2_with (go_at_call 31; refine HPP.out.mono ?_; rintro e w3 ⟨rfl, b3, hw3, ha3⟩; have H3 := Lib.hid (And.intro hw3 ha3); clear hw3 ha3)
    go_end0
    refine ⟨rfl, b3, ?_, HX.out.2.2.1.trans H3.out.2⟩
    have := H3.out.1
    simpa [encV, List.append_assoc] using this
  · have hkv : ((UInt8.toNat 120 : Nat) : Int) = 120 := rfl
    have hpp := long_any q text b2 _ w2 HX.out.1 (by have := H.out.2.2.2.2.2.2.2.2.2.1; omega) (by have := HX.out.2.1; omega)
    have HPP := Lib.hid hpp; clear hpp
    go_wp2_with (go_at_call 31; refine HPP.out.mono ?_; rintro e w3 ⟨rfl, b3, hw3, ha3⟩; have H3 := Lib.hid (And.intro hw3 ha3); clear hw3 ha3)
    go_end0
    refine ⟨rfl, b3, ?_, HX.out.2.2.1.trans H3.out.2⟩
    have := H3.out.1
    simpa [encV, List.append_assoc] using this
  · have hkv : ((UInt8.toNat 86 : Nat) : Int) = 86 := rfl
    go_wp2_with fail
    go_end0
    refine ⟨rfl, b2, ?_, HX.out.2.2.1⟩
    have := HX.out.1
    simpa [encV] using this
theorem wvalue_any (v : Val) : WrVC v :=
  Val.held WrVC (fun k n f sc t kids flds hk hf => wvalue_of k n f sc t kids flds (wtable_of flds hf) hk) v
theorem wtable_any (l : List Fld) : WrFC l := wtable_of l fun x _ => wvalue_any x.val
end Go.Proofs.YtkcdakohmfodjaaGreat
