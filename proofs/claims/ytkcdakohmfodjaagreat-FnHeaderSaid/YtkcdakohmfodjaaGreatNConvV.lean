/-
  Lemmas on the way to the statement of YtkcdakohmfodjaaGreatHeader, joined out of these texts: ConvV. No condition.
-/
import Derived.Deep.Cut
import Derived.Deep.CutBlock
import Derived.Deep.RegionLaw
import Derived.Test.YtkcdakohmfodjaaGreatNConv
namespace Go.Proofs.YtkcdakohmfodjaaGreat
open Go.RowKit
set_option linter.unusedVariables false
set_option linter.unusedSimpArgs false
/-- What is left to be done of a loop over values. -/
def LRest (l : List Val) (deep : Nat) (r : Int) (xs : List Val) (suf : List Val) (rk : Int) : Prop :=
  convL l deep r = match convL suf deep rk with
    | (none, q) => (none, q)
    | (some ys, q) => (some (xs ++ ys), q)
theorem LRest.start (l : List Val) (deep : Nat) (r : Int) : LRest l deep r [] l r := by
  unfold LRest
  cases h : convL l deep r with
  | mk a q => cases a <;> simp
theorem LRest.step {l : List Val} {deep : Nat} {r : Int} {xs : List Val} {v : Val} {suf : List Val} {rk : Int} (h : LRest l deep r xs (v :: suf) rk) (h0 : 0 ≤ rk) :
    LRest l deep r (xs ++ [(convV v deep rk).1]) suf (convV v deep rk).2 := by
  unfold LRest at h ⊢
  rw [h, convL, if_neg (by omega)]
  cases convL suf deep (convV v deep rk).2 with
  | mk a q => cases a <;> simp
theorem LRest.cut {l : List Val} {deep : Nat} {r : Int} {xs : List Val} {v : Val} {suf : List Val} {rk : Int} (h : LRest l deep r xs (v :: suf) rk) (h0 : rk < 0) : convL l deep r = (none, rk) := by
  unfold LRest at h
  rw [h, convL, if_pos h0]
theorem LRest.done {l : List Val} {deep : Nat} {r : Int} {xs : List Val} {rk : Int} (h : LRest l deep r xs [] rk) : convL l deep r = (some xs, rk) := by
  unfold LRest at h
  rw [h, convL]; simp
theorem run_store_f64 (a : Addr) (b : Nat) (m : Mode) (w : World) : (store a (.float .f64 b) m).run Tryz.prog w = stored Tryz.prog w a (.float .f64 b) m := run_store Tryz.prog w a _ m rfl
section
variable {w : World} {b g : Nat} {t : TypeId} {cs : Array Value} {z0 z1 z2 z3 z4 z5 z6 a0 a1 a2 a3 a4 a5 a6 : Value}
theorem Blk.set7_other (h : Blk w b cs t) (hn : b ≠ g) : Blk (((((((w.setCell ⟨g, 0, none⟩ a0).setCell ⟨g, 1, none⟩ a1).setCell ⟨g, 2, none⟩ a2).setCell ⟨g, 3, none⟩ a3).setCell ⟨g, 4, none⟩ a4).setCell ⟨g, 5, none⟩ a5).setCell ⟨g, 6, none⟩ a6) b cs t :=
  ((((((h.setCell_other hn _).setCell_other hn _).setCell_other hn _).setCell_other hn _).setCell_other hn _).setCell_other hn _).setCell_other hn _
theorem Blk.set7 (h : Blk w g #[z0, z1, z2, z3, z4, z5, z6] t) : Blk (((((((w.setCell ⟨g, 0, none⟩ a0).setCell ⟨g, 1, none⟩ a1).setCell ⟨g, 2, none⟩ a2).setCell ⟨g, 3, none⟩ a3).setCell ⟨g, 4, none⟩ a4).setCell ⟨g, 5, none⟩ a5).setCell ⟨g, 6, none⟩ a6) g #[a0, a1, a2, a3, a4, a5, a6] t := by
  have h0 := h.setCell 0 a0
  have h1 := h0.setCell 1 a1
  have h2 := h1.setCell 2 a2
  have h3 := h2.setCell 3 a3
  have h4 := h3.setCell 4 a4
  have h5 := h4.setCell 5 a5
  have h6 := h5.setCell 6 a6
  simpa using h6
theorem Kept.set7 {S : List Nat} {a : World} (h : Kept S a w) (hg : g ∈ S ∨ a.heap.size ≤ g) : Kept S a (((((((w.setCell ⟨g, 0, none⟩ a0).setCell ⟨g, 1, none⟩ a1).setCell ⟨g, 2, none⟩ a2).setCell ⟨g, 3, none⟩ a3).setCell ⟨g, 4, none⟩ a4).setCell ⟨g, 5, none⟩ a5).setCell ⟨g, 6, none⟩ a6) :=
  ((((((h.setCell hg _).setCell hg _).setCell hg _).setCell hg _).setCell hg _).setCell hg _).setCell hg _
end
theorem cells7 {w : World} {b : Nat} {t : TypeId} {a0 a1 a2 a3 a4 a5 a6 : Value} (h : Blk w b #[a0, a1, a2, a3, a4, a5, a6] t) : w.cell? ⟨b, 0, none⟩ = some a0 ∧ w.cell? ⟨b, 1, none⟩ = some a1 ∧ w.cell? ⟨b, 2, none⟩ = some a2 ∧ w.cell? ⟨b, 3, none⟩ = some a3 ∧
    w.cell? ⟨b, 4, none⟩ = some a4 ∧ w.cell? ⟨b, 5, none⟩ = some a5 ∧ w.cell? ⟨b, 6, none⟩ = some a6 :=
  ⟨h.cell 0, h.cell 1, h.cell 2, h.cell 3, h.cell 4, h.cell 5, h.cell 6⟩
theorem VHeld.mk_of {B : Nat → Prop} {w : World} {kv fv : Value} {kids : List Val} {flds : List Fld} (hk : KSl B w kv kids) (hf : FSl B w fv flds) (k : UInt8) (n : Int) (f : Nat) (sc : Int) (text : List UInt8) :
    VHeld B w [.int .u8 (k.toNat : Int), .int .i64 n, .float .f64 f, .int .i64 sc, .string (bstr text), kv, fv] (.mk k n f sc text kids flds) := by
  obtain ⟨ka, kc, rfl, h1, h2, h3⟩ := hk
  obtain ⟨fa, fc, rfl, h4, h5, h6⟩ := hf
  unfold VHeld
  exact ⟨ka, kc, fa, fc, rfl, h1, h4, h2, h5, h3, h6⟩
theorem size_sVal : (Tryz.prog.info? 141).map (·.size) = some 7 := by kernel_rfl
theorem results_value {tmps : Array Value} {g : Nat} {cs : Array Value} {w : World} (h : tmps.getD 6 undef = .pointer (some ⟨g, 0, none⟩)) (hg : Blk w g cs 141) (hs : cs.size = 7) :
    (results Tryz.f71 tmps).run Tryz.prog w = .ok (.agg cs) w := by
  have hl := run_loadVar_row (P := Tryz.prog) w g 141 141 cs (0, 0) _ hg Tryz.underlying141 rfl (by rw [hs]; exact size_sVal)
  simp only [Array.getD_eq_getD_getElem?] at h
  simp [results, Tryz.results71, h, asAddr, hl]
set_option maxHeartbeats 1000000 in
set_option maxRecDepth 100000 in
theorem value_of (k : UInt8) (n : Int) (f : Nat) (sc : Int) (text : List UInt8) (kids : List Val) (flds : List Fld) (hF : FieldsC flds) (hK : ∀ v, v ∈ kids → ValueC v) : ValueC (.mk k n f sc text kids flds) := by
  intro B cs deep r rm w hs hwf hrm hB hd hr0 hr1
  unfold VHeld at hs
  obtain ⟨ka, kc, fa, fc, rfl, hkc, hfc, hks, hfs, hkat, hfat⟩ := hs
  have hksl : KSl B w (.slice ka kids.length kc) kids := ⟨ka, kc, rfl, hkc, hks, hkat⟩
  have hfsl : FSl B w (.slice fa flds.length fc) flds := ⟨fa, fc, rfl, hfc, hfs, hfat⟩
  unfold WfV at hwf
  obtain ⟨wt, wk, wf, wkl, wfs, _⟩ := hwf
  have ht : (text.length : Int) ≤ 140737488355328 := by omega
  have hd' : (deep : Int) ≤ 10 := by omega
  have hw1 : IntKind.i64.wrap (1 + (text.length : Int)) = 1 + text.length := by rw [IntKind.wrap_i64]; omega
  have hw2 : IntKind.i64.wrap (r - (1 + (text.length : Int))) = r - (1 + text.length) := by rw [IntKind.wrap_i64]; omega
  have c1 := hrm.cell0
  have f1 := hrm.free 0
  have H := Lib.hid (And.intro hksl (And.intro hfsl (And.intro hrm (And.intro hB (And.intro wkl (And.intro wfs (And.intro hF hK)))))))
  have HWF := Lib.hid (And.intro wk wf)
  have HR := Lib.hid (And.intro hr0 hr1)
  have hrlt : rm < w.heap.size := hrm.lt
  clear hksl hfsl hrm hB wkl wfs hF hK hkc hfc hks hfs hkat hfat wk wf
  go_enter Tryz.func71, Tryz.ntmps71
  go_wp2_with fail
  generalize hW1 : (w.alloc _).alloc _ = W1
  have hb0 : Blk W1 w.heap.size #[.int .u8 (k.toNat : Int), .int .i64 n, .float .f64 f, .int .i64 sc, .string (bstr text), .slice ka kids.length kc, .slice fa flds.length fc] 151 := by rw [← hW1]; exact (Blk.new w _ _).alloc _
  have hb1 : Blk W1 (w.heap.size + 1) #[.int .u8 0, .int .i64 0, .float .f64 0, .int .i64 0, .string ⟨#[]⟩, .slice none 0 0, .slice none 0 0] 141 := by rw [← hW1]; exact Blk.new_at (by simp)
  have hkw1 : Kept [] w W1 := by rw [← hW1]; exact ((Kept.refl [] w).alloc _).alloc _
  have hsz1 : W1.heap.size = w.heap.size + 1 + 1 := by rw [← hW1]; simp
  have hrm1 := H.out.2.2.1.kept hkw1 (by simp)
  clear hW1 c1 f1
  have c1 := hrm1.cell0
  have f1 := hrm1.free 0
  have c4 : W1.cell? ⟨w.heap.size, 4, none⟩ = some (.string (bstr text)) := hb0.cell 4
  have H1 := Lib.hid (And.intro hb0 (And.intro hb1 (And.intro hkw1 (And.intro hrm1 hsz1)))); clear hb0 hb1 hkw1 hrm1 hsz1
  go_still_tail 9, (by kernel_rfl)
  change wpList _ _ _ _ _ W1.drew
  by_cases hcut : r - (1 + (text.length : Int)) < 0 ∨ deep = 0
  · have hconv : convV (.mk k n f sc text kids flds) deep r = (Val.zero, r - (1 + (text.length : Int))) := by
      unfold convV
      rw [if_pos hcut]
    have HCV := Lib.hid hconv
    have hq1 : rm ≠ w.heap.size + 1 := by omega
    have hz1 : Blk (W1.setCell ⟨rm, 0, none⟩ (.int .i64 (r - (1 + (text.length : Int))))).drew (w.heap.size + 1) #[.int .u8 0, .int .i64 0, .float .f64 0, .int .i64 0, .string ⟨#[]⟩, .slice none 0 0, .slice none 0 0] 141 := (H1.out.2.1.setCell_other (by simpa using Ne.symm hq1) _).drew
    have hrz : Blk (W1.setCell ⟨rm, 0, none⟩ (.int .i64 (r - (1 + (text.length : Int))))).drew rm #[.int .i64 (r - (1 + (text.length : Int)))] 3 := (H1.out.2.2.2.1.setCell 0 _).drew
    have hkz : Kept [rm] w (W1.setCell ⟨rm, 0, none⟩ (.int .i64 (r - (1 + (text.length : Int))))).drew := ((H1.out.2.2.1.mono (by simp)).setCell (by simp) _).drew
    have HZ := Lib.hid (And.intro hz1 (And.intro hrz hkz)); clear hz1 hrz hkz hconv
    by_cases h1 : r - (1 + (text.length : Int)) < 0
    · clear hcut
      go_wp2_with (first
        | (refine wpList_store_row (P := Tryz.prog) rfl rfl 141 (.tmp 6) (.tmp 27) rfl (w.heap.size + 1) rfl 141 _ [.int .u8 0, .int .i64 0, .float .f64 0, .int .i64 0, .string ⟨#[]⟩, .slice none 0 0, .slice none 0 0] HZ.out.1 rfl rfl (VHeld.zero (fun _ => True) w).one size_sVal ?_; intro w7 hb7 hk7; have HB7 := Lib.hid (And.intro hb7 hk7); clear hb7 hk7))
      rw [HCV.out]
      refine bodyPost_ret (v := .agg #[.int .u8 0, .int .i64 0, .float .f64 0, .int .i64 0, .string ⟨#[]⟩, .slice none 0 0, .slice none 0 0]) (results_value (g := w.heap.size + 1) rfl HB7.out.1 rfl) rfl ⟨[.int .u8 0, .int .i64 0, .float .f64 0, .int .i64 0, .string ⟨#[]⟩, .slice none 0 0, .slice none 0 0], rfl, VHeld.zero _ _, ?_, ?_⟩
      · exact HZ.out.2.1.kept HB7.out.2 (by simp; omega)
      · exact HZ.out.2.2.trans HB7.out.2 (fun x hx => .inr (by simp at hx; omega))
    · obtain rfl : deep = 0 := by rcases hcut with h | h; exact absurd h h1; exact h
      clear hcut
      go_wp2_with (first
        | (refine wpList_store_row (P := Tryz.prog) rfl rfl 141 (.tmp 6) (.tmp 27) rfl (w.heap.size + 1) rfl 141 _ [.int .u8 0, .int .i64 0, .float .f64 0, .int .i64 0, .string ⟨#[]⟩, .slice none 0 0, .slice none 0 0] HZ.out.1 rfl rfl (VHeld.zero (fun _ => True) w).one size_sVal ?_; intro w7 hb7 hk7; have HB7 := Lib.hid (And.intro hb7 hk7); clear hb7 hk7))
      rw [HCV.out]
      refine bodyPost_ret (v := .agg #[.int .u8 0, .int .i64 0, .float .f64 0, .int .i64 0, .string ⟨#[]⟩, .slice none 0 0, .slice none 0 0]) (results_value (g := w.heap.size + 1) rfl HB7.out.1 rfl) rfl ⟨[.int .u8 0, .int .i64 0, .float .f64 0, .int .i64 0, .string ⟨#[]⟩, .slice none 0 0, .slice none 0 0], rfl, VHeld.zero _ _, ?_, ?_⟩
      · exact HZ.out.2.1.kept HB7.out.2 (by simp; omega)
      · exact HZ.out.2.2.trans HB7.out.2 (fun x hx => .inr (by simp at hx; omega))
  · have hn1 : ¬ r - (1 + (text.length : Int)) < 0 := fun e => hcut (.inl e)
    have hn2 : ¬ (deep : Int) = 0 := fun e => hcut (.inr (by omega))
    clear hcut
    go_wp2_with fail
    obtain ⟨W2, hW2⟩ : ∃ W2, W2 = (W1.setCell ⟨rm, 0, none⟩ (.int .i64 (r - (1 + (text.length : Int))))).drew := ⟨_, rfl⟩
    rw [← hW2]
    have hq : rm ≠ w.heap.size := by omega
    have hq1 : rm ≠ w.heap.size + 1 := by omega
    have hb0 : Blk W2 w.heap.size #[.int .u8 (k.toNat : Int), .int .i64 n, .float .f64 f, .int .i64 sc, .string (bstr text), .slice ka kids.length kc, .slice fa flds.length fc] 151 := by rw [hW2]; exact (H1.out.1.setCell_other (by simpa using Ne.symm hq) _).drew
    have hb1 : Blk W2 (w.heap.size + 1) #[.int .u8 0, .int .i64 0, .float .f64 0, .int .i64 0, .string ⟨#[]⟩, .slice none 0 0, .slice none 0 0] 141 := by rw [hW2]; exact (H1.out.2.1.setCell_other (by simpa using Ne.symm hq1) _).drew
    have hrm2 : Blk W2 rm #[.int .i64 (r - (1 + (text.length : Int)))] 3 := by rw [hW2]; exact (H1.out.2.2.2.1.setCell 0 _).drew
    have hk2 : Kept [rm] w W2 := by rw [hW2]; exact ((H1.out.2.2.1.mono (by simp)).setCell (by simp) _).drew
    have hsz2 : W2.heap.size = w.heap.size + 1 + 1 := by rw [hW2]; simpa using H1.out.2.2.2.2
    clear hW2
    have hkD : Kept [] W2 W2.drew := (Kept.refl [] W2).drew
    have hS := fun w' (hk : Kept [rm] W2 w') => hb0.kept hk (by simpa using Ne.symm hq)
    have hS1 := fun w' (hk : Kept [rm] W2 w') => hb1.kept hk (by simpa using Ne.symm hq1)
    have hc := fun (W' : World) (hk : Kept [] W2 W') => H.out.2.2.2.2.2.2.1 B _ (deep - 1) (r - (1 + (text.length : Int))) rm W' (H.out.2.1.kept (hk2.trans hk (by simp)) (fun b hb => by simpa using H.out.2.2.2.1 b hb)) H.out.2.2.2.2.2.1 HWF.out.2 (hrm2.kept hk (by simp)) H.out.2.2.2.1 (by omega) (by omega) (by omega)
    obtain ⟨X, hX⟩ : ∃ X, X = convFs flds (deep - 1) (r - (1 + (text.length : Int))) := ⟨_, rfl⟩
    have hc' : ∀ W', Kept [] W2 W' → Calls Tryz.prog 48 #[.slice fa flds.length fc, .int .i64 ((deep - 1 : Nat) : Int), .pointer (some ⟨rm, 0, none⟩)] W' fun e w' => ∃ v, e = .returned v ∧
      FSl (fun b => W'.heap.size ≤ b) w' v (X.1.getD [Fld.zero]) ∧ Blk w' rm #[.int .i64 X.2] 3 ∧ Kept [rm] W' w' := by rw [hX]; exact hc
    clear hc
    have hXle := convFs_le flds (deep - 1) (r - (1 + (text.length : Int)))
    rw [← hX] at hXle
    obtain ⟨x1, r1⟩ := X
    simp only at hc' hXle
    have hwd : IntKind.i64.wrap ((deep : Int) - 1) = ((deep - 1 : Nat) : Int) := by rw [IntKind.wrap_i64]; omega
    have HS := Lib.hid (And.intro hS hS1); have HC := Lib.hid hc'; have HXX := Lib.hid hX; have H2 := Lib.hid (And.intro hrm2 (And.intro hk2 (And.intro hsz2 (And.intro hq hq1))))
    clear hb0 hb1 hrm2 hk2 hsz2 hkD hS hS1 hc' hX hq hq1
    have hsf := run_store_f64
    go_cut [7] from 28 (fun s7 wx => ∃ (ob : Nat) (fa3 : Option Addr) (fc3 : Nat), s7 = .pointer (some ⟨ob, 0, none⟩) ∧ Hid (W2.heap.size ≤ ob ∧ Blk wx ob #[.int .u8 (k.toNat : Int), .int .i64 n, .float .f64 f, .int .i64 sc, .string (bstr text), .slice none 0 0, .slice fa3 (x1.getD [Fld.zero]).length fc3] 141 ∧
      FSl (fun b => W2.heap.size ≤ b ∧ b ≠ ob) wx (.slice fa3 (x1.getD [Fld.zero]).length fc3) (x1.getD [Fld.zero]) ∧ Blk wx rm #[.int .i64 r1] 3 ∧ Kept [rm] W2 wx))
    case first =>
      go_region_held3 (fun w' : World => w'.cell? ⟨w.heap.size, 0, none⟩ = some (.int .u8 (k.toNat : Int)) ∧ w'.cell? ⟨w.heap.size, 1, none⟩ = some (.int .i64 n) ∧ w'.cell? ⟨w.heap.size, 2, none⟩ = some (.float .f64 f) ∧ w'.cell? ⟨w.heap.size, 3, none⟩ = some (.int .i64 sc) ∧ w'.cell? ⟨w.heap.size, 4, none⟩ = some (.string (bstr text)) ∧ w'.cell? ⟨w.heap.size, 5, none⟩ = some (.slice ka kids.length kc) ∧ w'.cell? ⟨w.heap.size, 6, none⟩ = some (.slice fa flds.length fc))
        (first
          | with_reducible exact cells7 (HS.out.1 _ (Kept.refl [rm] W2).drew)
          | with_reducible exact cells7 (HS.out.1 _ ((Kept.refl [rm] W2).alloc _).drew)
          | with_reducible exact cells7 (HS.out.1 _ H3.out.2.2)
          | with_reducible exact cells7 ((HS.out.1 _ H3.out.2.2).alloc _)
          | with_reducible exact cells7 ((HS.out.1 _ H3.out.2.2).set7_other (by have := H2.out.2.1.size; have := H2.out.2.2.1; omega)))
        (first
          | (go_at_call 48; refine (HC.out _ ((Kept.refl [] W2).drew)).mono ?_; rintro e w3 ⟨fv, rfl, v1, v2, v3⟩; obtain ⟨fa3, fc3, rfl, _⟩ := id v1; have H3 := Lib.hid (And.intro v1 (And.intro v2 (((Kept.refl [rm] W2).drew).trans v3 (fun x hx => .inl hx)))); clear v1 v2 v3)
          | (go_at_call 48; refine (HC.out _ (((Kept.refl [] W2).alloc _).drew)).mono ?_; rintro e w3 ⟨fv, rfl, v1, v2, v3⟩; obtain ⟨fa3, fc3, rfl, _⟩ := id v1; have H3 := Lib.hid (And.intro v1 (And.intro v2 ((((Kept.refl [] W2).alloc _).drew.mono (S' := [rm]) (by simp)).trans v3 (fun x hx => .inl hx)))); have hz : Blk w3 W2.heap.size #[.int .u8 0, .int .i64 0, .float .f64 0, .int .i64 0, .string ⟨#[]⟩, .slice none 0 0, .slice none 0 0] 141 := ((Blk.new W2 _ _).drew).kept v3 (by have := H2.out.2.1.size; simp; omega); obtain ⟨z0, z1, z2, z3, z4, z5, z6⟩ := cells7 hz; have y0 := hz.free 0; have y1 := hz.free 1; have y2 := hz.free 2; have y3 := hz.free 3; have y4 := hz.free 4; have y5 := hz.free 5; have y6 := hz.free 6; have HZ := Lib.hid hz; clear v1 v2 v3 hz))
      · go_wp2_with fail
        go_meet
        case rel =>
          have hka : Kept [] w3 (w3.alloc (.cells #[.int .u8 (k.toNat : Int), .int .i64 n, .float .f64 f, .int .i64 sc, .string (bstr text), .slice none 0 0, .slice fa3 (x1.getD [Fld.zero]).length fc3] 141)) := (Kept.refl [] w3).alloc _
          refine ⟨w3.heap.size, fa3, fc3, rfl, Lib.hid ⟨H3.out.2.2.size, Blk.new w3 _ _, ?_, H3.out.2.1.kept hka (by simp), H3.out.2.2.trans hka (by simp)⟩⟩
          refine FSl.kept (FSl.mono H3.out.1 (fun b hb hl => ⟨by simpa using hb, by omega⟩)) hka (by simp)
      · go_wp2_with fail
        go_meet
        case rel =>
          have hob : rm ≠ W2.heap.size := by have := H2.out.1.lt; omega
          have hks : Kept [W2.heap.size] w3 (((((((w3.setCell ⟨W2.heap.size, 0, none⟩ (.int .u8 (k.toNat : Int))).setCell ⟨W2.heap.size, 1, none⟩ (.int .i64 n)).setCell ⟨W2.heap.size, 2, none⟩ (.float .f64 f)).setCell ⟨W2.heap.size, 3, none⟩ (.int .i64 sc)).setCell ⟨W2.heap.size, 4, none⟩ (.string (bstr text))).setCell ⟨W2.heap.size, 5, none⟩ (.slice none 0 0)).setCell ⟨W2.heap.size, 6, none⟩ (.slice fa3 (x1.getD [Fld.zero]).length fc3)) := (Kept.refl _ w3).set7 (by simp)
          refine ⟨W2.heap.size, fa3, fc3, rfl, Lib.hid ⟨Nat.le_refl _, HZ.out.set7, ?_, H3.out.2.1.set7_other hob, H3.out.2.2.trans hks (by simp)⟩⟩
          refine FSl.kept (FSl.mono H3.out.1 (fun b hb hl => ⟨by simp at hb; omega, by simp at hb; omega⟩)) hks (fun b hb => by simpa using hb.2)
    case rest =>
      obtain ⟨ob, fa3, fc3, rfl, HO⟩ := hcut
      have hk1 : wc.cell? ⟨w.heap.size, 5, none⟩ = some (.slice ka kids.length kc) := (HS.out.1 _ HO.out.2.2.2.2).cell 5
      have hkl : (kids.length : Int) ≤ 140737488355328 := by have := HWF.out.1; omega
      go_wp2_with fail
      have hobrm : rm ≠ ob := by have := H2.out.1.lt; have := HO.out.1; omega
      have hqob : w.heap.size + 1 < ob := by have := H2.out.2.2.1; have := HO.out.1; omega
      go_loopw [48] (fun i W => ∃ (m : Nat) (xs : List Val) (rk : Int) (kv : Value), m = xs.length ∧ m ≤ kids.length ∧ i = .int .i64 (m : Int) ∧ xs.length ≤ 4001 ∧ (xs.length : Int) + rk ≤ 4000 ∧ Hid (LRest kids (deep - 1) r1 xs (kids.drop m) rk ∧
        Blk W ob #[.int .u8 (k.toNat : Int), .int .i64 n, .float .f64 f, .int .i64 sc, .string (bstr text), kv, .slice fa3 (x1.getD [Fld.zero]).length fc3] 141 ∧ OwnE 141 7 VHeld wc.heap.size W kv xs ∧ Blk W rm #[.int .i64 rk] 3 ∧ Kept [rm, ob] wc W)) (fun i _ => kids.length - (intOf i).toNat)
      case atStart => exact ⟨0, [], r1, _, rfl, Nat.zero_le _, rfl, by simp, by simp; omega, Lib.hid ⟨LRest.start _ _ _, HO.out.2.1, OwnE.nil _ _ _ _ _, HO.out.2.2.2.1, Kept.refl _ _⟩⟩
      case round =>
        obtain ⟨m, xs, rk, kv, hm, hmk, rfl, hxs, hrk1, HR⟩ := hrel
        have HMX := Lib.hid hm; clear hm
        have hkw : Kept [rm, ob] w wr := (((H2.out.2.1.trans HO.out.2.2.2.2 (fun x hx => .inl hx)).mono (S' := [rm, ob]) (fun x hx => .inl (by simp at hx ⊢; exact .inl hx))).trans HR.out.2.2.2.2 (fun x hx => .inl hx))
        by_cases hlt : m < kids.length
        · obtain ⟨v, hx⟩ : ∃ v, kids[m]? = some v := ⟨_, List.getElem?_eq_getElem hlt⟩
          obtain ⟨ka', kc', hka, _, _, hget⟩ := H.out.1.get
          obtain ⟨ad, cs, hkad, hca, hvh⟩ := hget m v hx
          obtain ⟨rfl, _, rfl⟩ : ka = ka' ∧ True ∧ kc = kc' := by cases hka; exact ⟨rfl, trivial, rfl⟩
          subst hkad
          have hBrm : ∀ b, B b ∧ b < w.heap.size → b ∉ [rm, ob] := fun b hb => by have := H.out.2.2.2.1 b hb.1; simp; omega
          have hca' := (CellsAt.kept (B := fun b => B b ∧ b < w.heap.size) ⟨⟨hca.1, hca.lt (by have := hvh.ne; intro e; subst e; simp at this)⟩, hca.2⟩ hkw hBrm).2
          have hvh' := VHeld.kept hkw hBrm v (VHeld.mono (B' := fun b => B b ∧ b < w.heap.size) (fun b hb hl => ⟨hb, hl⟩) v hvh)
          have hlt' : (m : Int) < kids.length := by omega
          have hz1 : Blk wr (w.heap.size + 1) #[.int .u8 0, .int .i64 0, .float .f64 0, .int .i64 0, .string ⟨#[]⟩, .slice none 0 0, .slice none 0 0] 141 := (HS.out.2 _ HO.out.2.2.2.2).kept HR.out.2.2.2.2 (by have := H2.out.2.2.2.2; simp; omega)
          have hdrop : kids.drop m = v :: kids.drop (m + 1) := by
            rw [List.drop_eq_getElem_cons hlt]; congr 1
            rw [List.getElem?_eq_getElem hlt] at hx; simpa using hx
          have HX := Lib.hid (And.intro hx (And.intro hca' (And.intro hvh' (And.intro hz1 (And.intro hkw (And.intro hBrm hdrop)))))); clear hx hka hget hca hvh hca' hvh' hz1 hkw hBrm hdrop
          obtain ⟨a0, a1, a2, a3, a4, a5, a6, rfl⟩ := HX.out.2.2.1.seven
          have hsf := run_store_f64
          by_cases hneg : rk < 0
          · go_wp2_with (first
              | (refine wpList_load_cells rfl 151 (.tmp 50) rfl _ rfl _ HX.out.2.1 _ Tryz.underlying151 rfl size_iVal ?_)
              | (refine wpList_store_row (P := Tryz.prog) rfl rfl 151 (.tmp 9) (.tmp 51) rfl wr.heap.size rfl 151 _ [a0, a1, a2, a3, a4, a5, a6] (Blk.new wr _ _) rfl rfl HX.out.2.2.1.one size_iVal ?_; intro w6 hb6 hk6; have hk6' := (((Kept.refl [] wr).alloc _).trans hk6 (S' := [wr.heap.size]) (by simp)); have hrm6 := HR.out.2.2.2.1.kept hk6' (by simp); have c6 := hrm6.cell0; have hz6 := HX.out.2.2.2.1.kept hk6' (by simp); have HB6 := Lib.hid (And.intro hb6 (And.intro hk6' (And.intro hrm6 hz6))); clear hb6 hk6 hk6' hrm6 hz6)
              | (refine wpList_store_row (P := Tryz.prog) rfl rfl 141 (.tmp 6) (.tmp 56) rfl (w.heap.size + 1) rfl 141 _ [.int .u8 0, .int .i64 0, .float .f64 0, .int .i64 0, .string ⟨#[]⟩, .slice none 0 0, .slice none 0 0] HB6.out.2.2.2 rfl rfl (VHeld.zero (fun _ => True) wr).one size_sVal ?_; intro w7 hb7 hk7; have HB7 := Lib.hid (And.intro hb7 hk7); clear hb7 hk7))
            have hrest := HR.out.1
            rw [HX.out.2.2.2.2.2.2] at hrest
            have hconv : convV (.mk k n f sc text kids flds) deep r = (Val.zero, rk) := by
              unfold convV
              rw [if_neg (by omega), ← HXX.out]
              simp only
              rw [hrest.cut hneg]
            rw [hconv]
            refine bodyPost_ret (v := .agg #[.int .u8 0, .int .i64 0, .float .f64 0, .int .i64 0, .string ⟨#[]⟩, .slice none 0 0, .slice none 0 0]) (results_value (g := w.heap.size + 1) rfl HB7.out.1 rfl) rfl ⟨[.int .u8 0, .int .i64 0, .float .f64 0, .int .i64 0, .string ⟨#[]⟩, .slice none 0 0, .slice none 0 0], rfl, VHeld.zero _ _, ?_, ?_⟩
            · exact HB6.out.2.2.1.kept HB7.out.2 (by have := H2.out.2.2.2.2; simp; omega)
            · exact ((HX.out.2.2.2.2.1.mono (S' := [rm]) (fun x hx => by simp at hx ⊢; omega)).trans HB6.out.2.1 (by simp)).trans HB7.out.2 (fun x hx => .inr (by simp at hx; omega))
          · obtain ⟨cells, o1, o2, o3⟩ := HR.out.2.2.1
            have hown := fun g (hg : kv.ownBlock = some g) => And.intro (o3 g hg) (own_lt o1 hg)
            have hoblt : ob < wc.heap.size := HO.out.2.1.lt
            have hobr := HR.out.2.1
            have hwc := HR.out.2.2.2.2.size
            obtain ⟨i, z, i1, i2, i3, i4, i5⟩ := info_own ownVal
            have HI := Lib.hid (And.intro i1 (And.intro i2 (And.intro i3 (And.intro i4 i5)))); clear i1 i2 i3 i4 i5
            have HOW := Lib.hid (And.intro o1 (And.intro o2 (And.intro o3 (And.intro hown (And.intro hoblt (And.intro hobr hwc)))))); clear o1 o2 o3 hown hoblt hobr hwc
            go_upto_region 10 with (first
              | (refine wpList_load_cells rfl 151 (.tmp 50) rfl _ rfl _ HX.out.2.1 _ Tryz.underlying151 rfl size_iVal ?_)
              | (refine wpList_store_row (P := Tryz.prog) rfl rfl 151 (.tmp 9) (.tmp 51) rfl wr.heap.size rfl 151 _ [a0, a1, a2, a3, a4, a5, a6] (Blk.new wr _ _) rfl rfl HX.out.2.2.1.one size_iVal ?_; intro w6 hb6 hk6; have hk6' := (((Kept.refl [] wr).alloc _).trans hk6 (S' := [wr.heap.size]) (by simp)); have hrm6 := HR.out.2.2.2.1.kept hk6' (by simp); have c6 := hrm6.cell0; have HB6 := Lib.hid (And.intro hb6 (And.intro hk6' hrm6)); clear hb6 hk6 hk6' hrm6))
            have hkD : Kept [] wr w6.drew := HB6.out.2.1.drew
            have hv6 := VHeld.kept hkD (by simp) v HX.out.2.2.1
            have hob6 := HOW.out.2.2.2.2.2.1.kept hkD (by simp)
            obtain ⟨s0, s1, s2, s3, s4, s5, s6⟩ := cells7 HB6.out.1
            have o5 : w6.cell? ⟨ob, 5, none⟩ = some kv := hob6.cell 5
            have hrmD : Blk w6.drew rm #[.int .i64 rk] 3 := HB6.out.2.2.drew
            have hle := convV_le v (deep - 1) rk
            have hvc := H.out.2.2.2.2.2.2.2 v (List.mem_of_getElem? HX.out.1) (fun b => B b ∧ b < w.heap.size) _ (deep - 1) rk rm w6.drew hv6 (WfL.get kids H.out.2.2.2.2.1 m v HX.out.1) hrmD (fun b hb => H.out.2.2.2.1 b hb.1) (by omega) (by omega) (by omega)
            have HV := Lib.hid hvc; have H6 := Lib.hid (And.intro hkD hob6); have HL := Lib.hid hle
            clear hkD hv6 hob6 hrmD hvc hle
            go_region_law (first
              | (refine step_append2 _ rfl (.tmp 58) (.tmp 64) 139 rfl 141 i z 7 96 Tryz.underlying139 HI.out.1 HI.out.2.1 HI.out.2.2.1 HI.out.2.2.2.1 HI.out.2.2.2.2 (by decide) kv xs.length cells rfl
                  (own_move bears_val HOW.out.1 HOW.out.2.1 HOW.out.2.2.1 (S := [rm]) (fun b hb => by have := H2.out.1.lt; have := HO.out.2.2.2.2.size; simp; omega) (H7.out.2.2.1.alloc _)).1 ⟨w7.heap.size, 0, none⟩ 1 1 [b0, b1, b2, b3, b4, b5, b6] rfl rfl (cells_new w7 _ _)
                  H7.out.1.one (by omega) (by omega) ?_
                 intro v' w8 g1 g2 g3
                 obtain ⟨ao8, c8, rfl, _, _⟩ := own_slice g1
                 have hob8 := (H7.out.2.2.2.alloc (.cells #[b0, b1, b2, b3, b4, b5, b6] 141)).kept ((Kept.refl kv.ownBlock.toList _).grown g2 (fun k hk => .inl (by simp [hk]))) (fun hm => by have := (HOW.out.2.2.2.1 ob (by simpa using hm)).1; have := HOW.out.2.2.2.2.1; omega)
                 have o8 : w8.cell? ⟨ob, 5, none⟩ = some kv := hob8.cell 5
                 have f8 := hob8.free 5
                 have H8 := Lib.hid (And.intro hob8 (And.intro g1 (And.intro g2 g3)))
                 clear g1 g2 g3 hob8)
              | (go_simp; go_at_call 71; refine HV.out.mono ?_; rintro e w7 ⟨cs2, rfl, v1, v2, v3⟩; obtain ⟨b0, b1, b2, b3, b4, b5, b6, rfl⟩ := v1.seven; have hk7 : Kept [rm] wr w7 := (H6.out.1.mono (by simp)).trans v3 (fun x hx => .inl hx); have hob7 := H6.out.2.kept v3 (by simpa using Ne.symm hobrm); have o7 : w7.cell? ⟨ob, 5, none⟩ = some kv := hob7.cell 5; have l7 : ob < w7.heap.size := hob7.lt; have H7 := Lib.hid (And.intro v1 (And.intro v2 (And.intro hk7 hob7))); clear v1 v2 v3 hk7 hob7))
            all_goals
              go_wp2_with fail
              go_roundw
              case rel =>
                have hka : Kept [] w7 (w7.alloc (.cells #[b0, b1, b2, b3, b4, b5, b6] 141)) := (Kept.refl [] w7).alloc _
                have hrw : rm < wc.heap.size := by have := H2.out.1.lt; have := HO.out.2.2.2.2.size; omega
                have hmv := own_move bears_val HOW.out.1 HOW.out.2.1 HOW.out.2.2.1 (S := [rm]) (fun b hb => by simp; omega) (H7.out.2.2.1.trans hka (by simp))
                have hsz := H6.out.1.size
                have hsz7 := H7.out.2.2.1.size
                have hsz8 := hka.size
                have hwcr := HOW.out.2.2.2.2.2.2
                have hv7 : VHeld (fun b => wc.heap.size ≤ b ∧ kv.ownBlock ≠ some b) (w7.alloc (.cells #[b0, b1, b2, b3, b4, b5, b6] 141)) [b0, b1, b2, b3, b4, b5, b6] (convV v (deep - 1) rk).1 :=
                  VHeld.kept hka (by simp) _ (VHeld.mono (fun b hb _ => ⟨by omega, fun e => by have := (HOW.out.2.2.2.1 b e).2; omega⟩) _ H7.out.1)
                obtain ⟨p1, p2⟩ := OwnE.push (x := (convV v (deep - 1) rk).1) bears_val hmv.2 HOW.out.2.2.1 (by omega) hv7 H8.out.2.1 H8.out.2.2.1 H8.out.2.2.2
                have hks : Kept [ob] w8 (w8.setCell ⟨ob, 5, none⟩ (.slice ao8 (xs.length + 1) c8)) := (Kept.refl _ w8).setCell (by simp) _
                have hob8 := H8.out.1.setCell 5 (.slice ao8 (xs.length + 1) c8)
                have hrest := HR.out.1
                rw [HX.out.2.2.2.2.2.2] at hrest
                have hrm8 : Blk w8 rm #[.int .i64 (convV v (deep - 1) rk).2] 3 := (H7.out.2.1.kept hka (by simp)).kept p2 (fun hm => by have := HOW.out.2.2.1 rm (by simpa using hm); omega)
                refine ⟨m + 1, xs ++ [(convV v (deep - 1) rk).1], _, _, by simp [HMX.out], by omega, rfl, by simp; omega, by have := HL.out; simp; omega, Lib.hid ⟨hrest.step (by omega), by simpa using hob8, p1.kept bears_val hks (fun b hb => by have := HOW.out.2.2.2.2.1; simp; omega), hrm8.setCell_other (by simpa using hobrm) _, ?_⟩⟩
                exact (((HR.out.2.2.2.2.trans H7.out.2.2.1 (fun x hx => .inl (by simp at hx ⊢; exact .inl hx))).trans hka (by simp)).trans p2 (fun x hx => .inr (HOW.out.2.2.1 x (by simpa using hx)))).trans hks (by simp)
              case measure => simp [intOf]; omega
        · have hkn : (m : Int) = kids.length := by omega
          have hz1 : Blk wr (w.heap.size + 1) #[.int .u8 0, .int .i64 0, .float .f64 0, .int .i64 0, .string ⟨#[]⟩, .slice none 0 0, .slice none 0 0] 141 := (HS.out.2 _ HO.out.2.2.2.2).kept HR.out.2.2.2.2 (by have := H2.out.2.2.2.2; simp; omega)
          have hfsl : FSl (fun b => W2.heap.size ≤ b) wr (.slice fa3 (x1.getD [Fld.zero]).length fc3) (x1.getD [Fld.zero]) :=
            ((HO.out.2.2.1.mono (B' := fun b => W2.heap.size ≤ b ∧ b ≠ ob) (fun b hb _ => hb)).kept HR.out.2.2.2.2 (fun b hb => by have := H2.out.1.lt; have := hb.2; simp; omega)).mono (fun b hb _ => hb.1)
          have hv := VHeld.mk_of (B := fun b => W2.heap.size ≤ b) (HR.out.2.2.1.ksl.mono (fun b hb _ => Nat.le_trans HO.out.2.2.2.2.size hb)) hfsl k n f sc text
          have hone := hv.one
          have HV := Lib.hid hv; clear hv hfsl
          have HONE := Lib.hid hone; clear hone
          have HQ := Lib.hid (And.intro hz1 hkw); clear hz1 hkw
          obtain ⟨l0, l1, l2, l3, l4, l5, l6⟩ := cells7 HR.out.2.1
          go_wp2_with (first
            | (refine wpList_store_row (P := Tryz.prog) rfl rfl 141 (.tmp 6) (.tmp 68) rfl (w.heap.size + 1) rfl 141 _ [.int .u8 (k.toNat : Int), .int .i64 n, .float .f64 f, .int .i64 sc, .string (bstr text), kv, .slice fa3 (x1.getD [Fld.zero]).length fc3] HQ.out.1 rfl rfl HONE.out size_sVal ?_; intro w5 hb5 hk5; have HB5 := Lib.hid (And.intro hb5 hk5); clear hb5 hk5))
          have hrest := HR.out.1
          rw [List.drop_of_length_le (by omega)] at hrest
          have hrest := hrest.done
          have hconv : convV (.mk k n f sc text kids flds) deep r = (.mk k n f sc text xs (x1.getD [Fld.zero]), rk) := by
            unfold convV
            rw [if_neg (by omega), ← HXX.out]
            simp only
            rw [hrest]
          rw [hconv]
          refine bodyPost_ret (v := .agg #[.int .u8 (k.toNat : Int), .int .i64 n, .float .f64 f, .int .i64 sc, .string (bstr text), kv, .slice fa3 (x1.getD [Fld.zero]).length fc3]) (results_value (g := w.heap.size + 1) rfl HB5.out.1 rfl) rfl ⟨[.int .u8 (k.toNat : Int), .int .i64 n, .float .f64 f, .int .i64 sc, .string (bstr text), kv, .slice fa3 (x1.getD [Fld.zero]).length fc3], rfl, ?_, ?_, ?_⟩
          · have := H2.out.2.2.1
            exact VHeld.mono (fun b hb _ => by omega) _ (VHeld.kept HB5.out.2 (fun b hb => by simp; omega) _ HV.out)
          · exact HR.out.2.2.2.1.kept HB5.out.2 (by have := H2.out.2.2.2.2; simp; omega)
          · exact (HQ.out.2.mono (S' := [rm]) (fun x hx => by simp at hx ⊢; omega)).trans HB5.out.2 (fun x hx => .inr (by simp at hx; omega))
theorem value_any (v : Val) : ValueC v :=
  Val.held ValueC (fun k n f sc t kids flds hk hf => value_of k n f sc t kids flds (fields_of flds hf) hk) v
theorem fields_any (l : List Fld) : FieldsC l := fields_of l fun x _ => value_any x.val
set_option maxHeartbeats 400000 in
theorem table_any (B : Nat → Prop) (s : Value) (l : List Fld) (w : World) (hs : FSl B w s l) (hwf : WfFs l) (hl : l.length ≤ 140737488355328) :
    Calls Tryz.prog 26 #[s] w fun e w' => ∃ v, e = .returned v ∧ FSl (fun b => w.heap.size ≤ b) w' v (convT l) ∧ Kept [] w w' := by
  have hka : Kept [] w (w.alloc (.cells #[.int .i64 4000] 3)) := (Kept.refl [] w).alloc _
  have hc := fields_any l (fun b => B b ∧ b < w.heap.size) s 10 4000 w.heap.size (w.alloc (.cells #[.int .i64 4000] 3)) ((hs.mono (fun b hb hl => ⟨hb, hl⟩)).kept hka (by simp)) hwf hl (Blk.new w _ _) (fun b hb => by omega) (by omega) (by omega) (by omega)
  obtain ⟨fa, fc, rfl, _⟩ := hs
  have HC := Lib.hid hc; clear hc
  go_enter Tryz.func26, Tryz.ntmps26
  go_wp2_with (go_at_call 48; refine HC.out.mono ?_; rintro e w1 ⟨v, rfl, v1, v2, v3⟩)
  go_ret
  exact ⟨v, rfl, v1.mono (fun b hb _ => by simp at hb; omega), (hka.trans v3 (fun x hx => .inr (by simp at hx; omega)))⟩
end Go.Proofs.YtkcdakohmfodjaaGreat
