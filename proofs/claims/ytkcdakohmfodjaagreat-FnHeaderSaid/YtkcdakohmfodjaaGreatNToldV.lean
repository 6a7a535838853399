/-
  Lemmas on the way to the statement of YtkcdakohmfodjaaGreatHeader, joined out of these texts: ToldV, GivenT, Ws, GivenA. No condition.
-/
import Derived.Deep.RegionHeld3
import Derived.StillTailTactics
import Derived.Test.YtkcdakohmfodjaaGreatNGivenK
import Derived.Test.YtkcdakohmfodjaaGreatNHb
import Derived.Test.YtkcdakohmfodjaaGreatNPropV
import Derived.Test.YtkcdakohmfodjaaGreatNRarr
import Derived.Test.YtkcdakohmfodjaaGreatNValLaw
import Derived.Test.YtkcdakohmfodjaaGreatNWb
namespace Go.Proofs.YtkcdakohmfodjaaGreat
open Go.RowKit
set_option linter.unusedVariables false
set_option linter.unusedSimpArgs false
theorem vheld_leaf (B : Nat → Prop) (w : World) (k : UInt8) (n : Int) (f : Nat) (sc : Int) (text : List UInt8) :
    VHeld B w [.int .u8 (k.toNat : Int), .int .i64 n, .float .f64 f, .int .i64 sc, .string (bstr text), .slice none 0 0, .slice none 0 0] (.mk k n f sc text [] []) := by
  unfold VHeld
  exact ⟨none, 0, none, 0, rfl, Nat.le_refl _, Nat.le_refl _, fun h => absurd rfl h, fun h => absurd rfl h, by unfold KAt; trivial, by unfold FAt; trivial⟩
theorem ownIVal : (Tryz.prog.info? 151).map (fun i => (i.zero.map (·.cells.size), i.size, i.bytes)) = some (some 7, 7, 96) := by kernel_rfl
theorem PL.get {B : Nat → Prop} {w : World} : ∀ (l : List Val) (g o : Nat), PL B w g o l → ∀ (i : Nat) (v : Val), l[i]? = some v → ∃ x, w.cell? ⟨g, o + i, none⟩ = some x ∧ PV B w x v
  | [], g, o, h, i, v, hi => by simp at hi
  | u :: l, g, o, h, i, v, hi => by
    unfold PL at h
    obtain ⟨⟨x, h1, h2⟩, h3⟩ := h
    cases i with
    | zero => simp only [List.getElem?_cons_zero, Option.some.injEq] at hi; subst hi; exact ⟨x, h1, h2⟩
    | succ i =>
      obtain ⟨y, h4, h5⟩ := PL.get l g (o + 1) h3 i v (by simpa using hi)
      refine ⟨y, ?_, h5⟩
      rw [← h4]; congr 2; omega
theorem normL_take : ∀ (l : List Val) (m : Nat) (v : Val), l[m]? = some v → normL (l.take (m + 1)) = normL (l.take m) ++ [normV v]
  | [], m, v, h => by simp at h
  | u :: l, 0, v, h => by simp only [List.getElem?_cons_zero, Option.some.injEq] at h; subst h; rfl
  | u :: l, m + 1, v, h => by
    rw [List.take_succ_cons, List.take_succ_cons]
    unfold normL
    rw [normL_take l m v (by simpa using h)]; rfl
theorem normL_lenF (l : List Val) : (normL l).length = l.length := by
  induction l with
  | nil => rfl
  | cons x l ih => simp [normL, ih]
set_option maxHeartbeats 1000000 in
set_option maxRecDepth 100000 in
/-- impl.told of a table. -/
theorem told_70 (n : Int) (f : Nat) (sc : Int) (text : List UInt8) (kids : List Val) (flds : List Fld) (hf : FieldsTC flds) : ToldC (.mk 70 n f sc text kids flds) := by
  intro d B w x hwf hok hcost hpv
  unfold PV at hpv
  rw [if_neg (by decide), if_pos rfl] at hpv
  obtain ⟨b, es, rfl, hB, hm, hpf⟩ := hpv
  unfold WfV at hwf
  unfold OkV at hok
  rw [if_neg (by decide), if_pos rfl] at hok
  unfold costV at hcost
  rw [if_neg (by decide), if_pos rfl] at hcost
  have hka : Kept [] w (w.alloc (.cells #[.int .u8 0, .int .i64 0, .float .f64 0, .int .i64 0, .string ⟨#[]⟩, .slice none 0 0, .slice none 0 0] 151)) := (Kept.refl [] w).alloc _
  have hc := hf none (d - 1) B _ b es hwf.2.2.2.2.1 hok.2.2 (by omega) (hm.kept hka (by simp)) (PF.kept hka (by simp) flds hpf)
  have HC := Lib.hid hc; have HK := Lib.hid hka
  clear hc hka hm hpf hwf hok hcost hf
  have an := any_nil 96
  have tn_bool := fun v w => tno_bool 96 v w (by decide)
  have tn_i8 := fun v w => tno_i8 96 v w (by decide)
  have tn_u8 := fun v w => tno_u8 96 v w (by decide)
  have tn_i16 := fun v w => tno_i16 96 v w (by decide)
  have tn_u16 := fun v w => tno_u16 96 v w (by decide)
  have tn_i32 := fun v w => tno_i32 96 v w (by decide)
  have tn_u32 := fun v w => tno_u32 96 v w (by decide)
  have tn_i64 := fun v w => tno_i64 96 v w (by decide)
  have tn_f32 := fun v w => tno_f32 96 v w (by decide)
  have tn_f64 := fun v w => tno_f64 96 v w (by decide)
  have tn_dec := fun v w => tno_dec 96 v w (by decide)
  have tn_str := fun v w => tno_str 96 v w (by decide)
  have tn_byt := fun v w => tno_byt 96 v w (by decide)
  have tn_tim := fun v w => tno_tim 96 v w (by decide)
  have tn_arr := fun v w => tno_arr 96 v w (by decide)
  have ty_tab := tyes_tab
  go_enter Tryz.func150, Tryz.ntmps150
  go_wp2_with (first
    | (go_at_call 67; refine HC.out.mono ?_; rintro e w3 ⟨out, rfl, v1, v2⟩; obtain ⟨fa, fc, rfl, _⟩ := id v1; have H3 := Lib.hid (And.intro v1 v2); clear v1 v2)
    | (refine wpList_store_row (P := Tryz.prog) rfl rfl 151 (.tmp 2) (.tmp 153) rfl w.heap.size rfl 151 _ [.int .u8 70, .int .i64 0, .float .f64 0, .int .i64 0, .string ⟨#[]⟩, .slice none 0 0, .slice fa (normFs flds).length fc] ((Blk.new w _ _).kept H3.out.2 (by simp)) rfl rfl (by simp [Value.oneCell']) size_iVal ?_; intro w5 hb5 hk5; have HB5 := Lib.hid (And.intro hb5 hk5); clear hb5 hk5))
  refine bodyPost_ret (v := .tuple #[.agg #[.int .u8 70, .int .i64 0, .float .f64 0, .int .i64 0, .string ⟨#[]⟩, .slice none 0 0, .slice fa (normFs flds).length fc], .bool true]) (results_told rfl rfl HB5.out.1 rfl) rfl ⟨_, rfl, ?_, ?_⟩
  · have hn : normV (.mk 70 n f sc text kids flds) = .mk 70 0 0 0 [] [] (normFs flds) := by simp [normV]
    rw [hn]
    have hs := H3.out.1.kept HB5.out.2 (fun b hb => by simp at hb ⊢; omega)
    exact VHeld.mk_of (B := fun b => w.heap.size ≤ b) (kids := []) ⟨none, 0, rfl, Nat.le_refl _, fun h => absurd rfl h, by unfold KAt; trivial⟩ (hs.mono fun b hb _ => by simp at hb; omega) 70 0 0 0 []
  · exact (HK.out.trans H3.out.2 (by simp)).trans HB5.out.2 (fun x hx => .inr (by simp at hx; omega))
theorem one7 (kv : Value) (h : kv.oneCell' = true) : ∀ u ∈ [.int .u8 65, .int .i64 0, .float .f64 0, .int .i64 0, .string ⟨#[]⟩, kv, .slice none 0 0], u.oneCell' = true := by
  intro u hu
  simp only [List.mem_cons, List.mem_nil_iff, or_false] at hu
  rcases hu with rfl | rfl | rfl | rfl | rfl | rfl | rfl <;> first | rfl | exact h
set_option maxHeartbeats 1000000 in
set_option maxRecDepth 100000 in
/-- impl.told of an array. -/
theorem told_65 (n : Int) (f : Nat) (sc : Int) (text : List UInt8) (kids : List Val) (flds : List Fld) (hk : ∀ v, v ∈ kids → ToldC v) : ToldC (.mk 65 n f sc text kids flds) := by
  intro d B w x hwf hok hcost hpv
  unfold PV at hpv
  rw [if_pos rfl] at hpv
  obtain ⟨ao, c, rfl, hc, hel⟩ := hpv
  unfold WfV at hwf
  unfold OkV at hok
  rw [if_pos rfl] at hok
  unfold costV at hcost
  rw [if_pos rfl] at hcost
  have hkn : (kids.length : Int) ≤ 2000 := by have := costL_len kids; omega
  have hel' : ∀ (i : Nat) (v : Val), kids[i]? = some v → ∃ g x, ao = some ⟨g, 0, none⟩ ∧ g < w.heap.size ∧ w.cell? ⟨g, i, none⟩ = some x ∧ PV (fun b => B b ∧ b < w.heap.size) w x v := by
    intro i v hi
    obtain ⟨g, e, _, hg, hpl⟩ := hel (by intro e; subst e; simp at hi)
    obtain ⟨x, h1, h2⟩ := PL.get kids g 0 hpl i v hi
    rw [Nat.zero_add] at h1
    exact ⟨g, x, e, hg, h1, PV.mono (fun b hb hl => ⟨hb, hl⟩) v h2⟩
  obtain ⟨i, z, i1, i2, i3, i4, i5⟩ := info_own ownIVal
  have HI := Lib.hid (And.intro i1 (And.intro i2 (And.intro i3 (And.intro i4 i5)))); clear i1 i2 i3 i4 i5
  have H := Lib.hid (And.intro hwf (And.intro hok (And.intro hcost (And.intro hel' hk))))
  clear hwf hok hcost hel hel' hk hc
  have an := any_nil 192
  have tn_bool := fun v w => tno_bool 192 v w (by decide)
  have tn_i8 := fun v w => tno_i8 192 v w (by decide)
  have tn_u8 := fun v w => tno_u8 192 v w (by decide)
  have tn_i16 := fun v w => tno_i16 192 v w (by decide)
  have tn_u16 := fun v w => tno_u16 192 v w (by decide)
  have tn_i32 := fun v w => tno_i32 192 v w (by decide)
  have tn_u32 := fun v w => tno_u32 192 v w (by decide)
  have tn_i64 := fun v w => tno_i64 192 v w (by decide)
  have tn_f32 := fun v w => tno_f32 192 v w (by decide)
  have tn_f64 := fun v w => tno_f64 192 v w (by decide)
  have tn_dec := fun v w => tno_dec 192 v w (by decide)
  have tn_str := fun v w => tno_str 192 v w (by decide)
  have tn_byt := fun v w => tno_byt 192 v w (by decide)
  have tn_tim := fun v w => tno_tim 192 v w (by decide)
  have ty_arr := tyes_arr
  go_enter Tryz.func150, Tryz.ntmps150
  go_wp2_with (refine wpList_store_row (P := Tryz.prog) rfl rfl 151 (.tmp 21) (.tmp 121) rfl (w.heap.size + 1) rfl 151 _ [.int .u8 65, .int .i64 0, .float .f64 0, .int .i64 0, .string ⟨#[]⟩, .slice none 0 0, .slice none 0 0] (Blk.new_at (by simp)) rfl rfl (by simp [Value.oneCell']) size_iVal ?_; intro w2 hb2 hk2; have hr2 : Blk w2 w.heap.size #[.int .u8 0, .int .i64 0, .float .f64 0, .int .i64 0, .string ⟨#[]⟩, .slice none 0 0, .slice none 0 0] 151 := ((Blk.new w _ _).alloc _).kept hk2 (by simp); have hkw : Kept [] w w2 := (((Kept.refl [] w).alloc _).alloc _).trans hk2 (fun x hx => .inr (by simp at hx; omega)); have H2 := Lib.hid (And.intro hb2 (And.intro hr2 hkw)); clear hb2 hk2 hr2 hkw)
  go_loopw [124] (fun i W => ∃ (m : Nat) (kv : Value), i = .int .i64 (m : Int) ∧ m ≤ kids.length ∧ Hid (Blk W (w.heap.size + 1) #[.int .u8 65, .int .i64 0, .float .f64 0, .int .i64 0, .string ⟨#[]⟩, kv, .slice none 0 0] 151 ∧ OwnE 151 7 VHeld w2.heap.size W kv (normL (kids.take m)) ∧ Kept [w.heap.size + 1] w2 W)) (fun i _ => kids.length - (intOf i).toNat)
  case atStart => exact ⟨0, _, rfl, Nat.zero_le _, Lib.hid ⟨H2.out.1, by rw [List.take_zero]; exact OwnE.nil _ _ _ _ _, Kept.refl _ _⟩⟩
  case round =>
    obtain ⟨m, kv, rfl, hmk, HR⟩ := hrel
    have hvlt : w.heap.size + 1 < w2.heap.size := H2.out.1.lt
    have hkwr : Kept [w.heap.size + 1] w wr := (H2.out.2.2.mono (by simp)).trans HR.out.2.2 (fun x hx => .inl hx)
    have HKW := Lib.hid (And.intro hvlt hkwr); clear hvlt hkwr
    by_cases hlt : m < kids.length
    · obtain ⟨v, hx⟩ : ∃ v, kids[m]? = some v := ⟨_, List.getElem?_eq_getElem hlt⟩
      obtain ⟨g, xe, rfl, hg, hce, hpe⟩ := H.out.2.2.2.1 m v hx
      have hce' : wr.cell? ⟨g, m, none⟩ = some xe := HKW.out.2.cell hce (by simp; omega)
      have htc := H.out.2.2.2.2 v (List.mem_of_getElem? hx) (d - 1) _ wr xe (WfL.get' kids H.out.1.2.2.2.1 m v hx) (OkL.get kids (d - 1) H.out.2.1.2.2 m v hx) (by have := costL_get kids m v hx; have := H.out.2.2.1; omega) (PV.kept HKW.out.2 (fun b hb => by simp; omega) v hpe)
      obtain ⟨cells, o1, o2, o3⟩ := HR.out.2.1
      have hmm : (normL (kids.take m)).length = m := by rw [normL_lenF, List.length_take]; omega
      obtain ⟨kao, koc, rfl, hkoc, hoo⟩ := own_slice o1
      have hol : ∀ g, Value.ownBlock (.slice kao (normL (kids.take m)).length koc) = some g → g < wr.heap.size := fun g hg => own_lt o1 hg
      have hlt' : (m : Int) < kids.length := by omega
      have HTC := Lib.hid htc
      have hb1 := HR.out.1
      have o3r := o3
      rw [hmm] at hb1 hol o3
      have HX := Lib.hid (And.intro hx (And.intro o1 (And.intro o2 (And.intro o3 (And.intro hol o3r)))))
      obtain ⟨l0, l1, l2, l3, l4, l5, l6⟩ := cells7 hb1
      have HB1 := Lib.hid hb1
      clear htc hx o1 o2 o3 o3r hol hkoc hoo hce hpe hg hb1
      go_wp2_with (first
        | (go_at_call 150; refine HTC.out.mono ?_; rintro e w3 ⟨cs2, rfl, v1, v2⟩; obtain ⟨b0, b1, b2, b3, b4, b5, b6, rfl⟩ := v1.seven; have H3 := Lib.hid (And.intro v1 v2); clear v1 v2)
        | (refine wpList_store_row (P := Tryz.prog) rfl rfl 151 (.tmp 24) (.tmp 131) rfl w3.heap.size rfl 151 _ [b0, b1, b2, b3, b4, b5, b6] (Blk.new w3 _ _) rfl rfl H3.out.1.one size_iVal ?_; intro w4 hb4 hk4; obtain ⟨c0, c1, c2, c3, c4, c5, c6⟩ := cells7 hb4;
           have hkC : Kept [] wr w4 := ((H3.out.2.alloc _).trans hk4 (fun x hx => .inr (by have := H3.out.2.size; simp at hx; omega)));
           have hkB : Kept [] wr (w4.alloc (.cells #[b0, b1, b2, b3, b4, b5, b6] 151)) := hkC.alloc _;
           have hmv := own_move bears_val HX.out.2.1 HX.out.2.2.1 HX.out.2.2.2.2.2 (S := []) (fun b hb => by simp) hkB; rw [hmm] at hmv;
           have m5 : w4.cell? ⟨w.heap.size + 1, 5, none⟩ = some (.slice kao m koc) := (HB1.out.kept hkC (by simp)).cell 5;
           have H4 := Lib.hid (And.intro hb4 (And.intro hk4 (And.intro hkB hmv))); clear hb4 hk4 hkB hmv hkC)
        | (at_builtin; refine wpList_append2 _ rfl _ _ 149 149 rfl 151 151 Tryz.underlying149 i z 7 96 Tryz.underlying149 HI.out.1 HI.out.2.1 HI.out.2.2.1 HI.out.2.2.2.1 HI.out.2.2.2.2 (by decide) (.slice kao m koc) m cells rfl H4.out.2.2.2.1 ⟨w4.heap.size, 0, none⟩ 1 1 [b0, b1, b2, b3, b4, b5, b6] rfl rfl (cells_new w4 _ _) H3.out.1.one (by omega) (by omega) ?_; intro v' w8 g1 g2 g3;
           have hb8 := (HB1.out.kept H4.out.2.2.1 (by simp)).kept ((Kept.refl (Value.ownBlock (.slice kao m koc)).toList _).grown g2 (fun k hk => .inl (by simp [hk]))) (fun hm => by have := HX.out.2.2.2.1 _ (by simpa using hm); have := HKW.out.1; omega);
           have m8 : w8.cell? ⟨w.heap.size + 1, 5, none⟩ = some (.slice kao m koc) := hb8.cell 5; have f8 := hb8.free 5;
           obtain ⟨vo, vc, rfl, _, _⟩ := own_slice g1;
           have H8 := Lib.hid (And.intro g1 (And.intro g2 (And.intro g3 hb8))); clear g1 g2 g3 hb8))
      go_roundw
      case rel =>
        have hwr := HR.out.2.2.size
        have hwr2 := HKW.out.1
        have hpx : VHeld (fun b => w2.heap.size ≤ b ∧ Value.ownBlock (.slice kao m koc) ≠ some b) (w4.alloc (.cells #[b0, b1, b2, b3, b4, b5, b6] 151)) [b0, b1, b2, b3, b4, b5, b6] (normV v) :=
          VHeld.kept (S := []) ((((Kept.refl [] w3).alloc _).trans H4.out.2.1 (fun x hx => .inr (by simp at hx; omega))).alloc _) (by simp) _ (VHeld.mono (fun b hb _ => ⟨by omega, fun e => by have := HX.out.2.2.2.2.1 b e; omega⟩) _ H3.out.1)
        obtain ⟨p1, p2⟩ := OwnE.push (xs := normL (kids.take m)) bears_val H4.out.2.2.2.2 HX.out.2.2.2.1 (by have := H4.out.2.2.1.size; omega) hpx (by rw [hmm]; exact H8.out.1) H8.out.2.1 H8.out.2.2.1
        rw [← normL_take kids m v HX.out.1] at p1
        have hks : Kept [w.heap.size + 1] w8 (w8.setCell ⟨w.heap.size + 1, 5, none⟩ (.slice vo (m + 1) vc)) := (Kept.refl _ w8).setCell (by simp) _
        refine ⟨m + 1, _, rfl, by omega, Lib.hid ⟨by simpa using H8.out.2.2.2.setCell 5 (.slice vo (m + 1) vc), p1.kept bears_val hks (fun b hb => by simp; omega), ?_⟩⟩
        exact ((HR.out.2.2.trans H4.out.2.2.1 (by simp)).trans p2 (fun x hx => .inr (HX.out.2.2.2.1 x (by simpa using hx)))).trans hks (fun x hx => .inl hx)
      case measure => simp [intOf]; omega
    · have hkm : m = kids.length := by omega
      subst hkm
      have hb1 := HR.out.1
      have hrb : Blk wr w.heap.size #[.int .u8 0, .int .i64 0, .float .f64 0, .int .i64 0, .string ⟨#[]⟩, .slice none 0 0, .slice none 0 0] 151 := H2.out.2.1.kept HR.out.2.2 (by simp)
      have hks := HR.out.2.1.ksl
      rw [List.take_length] at hks
      have hone : kv.oneCell' = true := by obtain ⟨ka, kc, rfl, _⟩ := hks; rfl
      have HE := Lib.hid (And.intro hb1 (And.intro hrb (And.intro hks hone))); clear hb1 hrb hks hone
      go_wp2_with (first
        | (refine wpList_load_row (P := Tryz.prog) rfl 151 (.tmp 21) rfl (w.heap.size + 1) rfl 151 #[.int .u8 65, .int .i64 0, .float .f64 0, .int .i64 0, .string ⟨#[]⟩, kv, .slice none 0 0] HE.out.1 _ Tryz.underlying151 rfl size_iVal ?_)
        | (refine wpList_store_row (P := Tryz.prog) rfl rfl 151 (.tmp 2) (.tmp 143) rfl w.heap.size rfl 151 _ [.int .u8 65, .int .i64 0, .float .f64 0, .int .i64 0, .string ⟨#[]⟩, kv, .slice none 0 0] HE.out.2.1 rfl rfl (one7 _ HE.out.2.2.2) size_iVal ?_; intro w5 hb5 hk5; have HB5 := Lib.hid (And.intro hb5 hk5); clear hb5 hk5))
      refine bodyPost_ret (v := .tuple #[.agg #[.int .u8 65, .int .i64 0, .float .f64 0, .int .i64 0, .string ⟨#[]⟩, kv, .slice none 0 0], .bool true]) (results_told rfl rfl HB5.out.1 rfl) rfl ⟨_, rfl, ?_, ?_⟩
      · have hn : normV (.mk 65 n f sc text kids flds) = .mk 65 0 0 0 [] (normL kids) [] := by simp [normV]
        rw [hn]
        have hvl := HKW.out.1
        have hs := HE.out.2.2.1.kept HB5.out.2 (fun b hb => by simp at hb ⊢; omega)
        exact VHeld.mk_of (B := fun b => w.heap.size ≤ b) (flds := []) (hs.mono fun b hb _ => by have hb : w2.heap.size ≤ b := hb; omega) ⟨none, 0, rfl, Nat.le_refl _, fun h => absurd rfl h, by unfold FAt; trivial⟩ 65 0 0 0 []
      · exact ((H2.out.2.2.trans HR.out.2.2 (fun x hx => .inr (by simp at hx; omega))).trans HB5.out.2 (fun x hx => .inr (by simp at hx; omega)))
theorem inBits_98' {n : Int} (h : inBits 98 n = true) : -128 ≤ n ∧ n ≤ 127 := by unfold inBits bitsOf at h; simp at h; omega
theorem inBits_115' {n : Int} (h : inBits 115 n = true) : -32768 ≤ n ∧ n ≤ 32767 := by unfold inBits bitsOf at h; simp at h; omega
theorem inBits_73' {n : Int} (h : inBits 73 n = true) : -2147483648 ≤ n ∧ n ≤ 2147483647 := by unfold inBits bitsOf at h; simp at h; omega
theorem inBits_68' {n : Int} (h : inBits 68 n = true) : -2147483648 ≤ n ∧ n ≤ 2147483647 := by unfold inBits bitsOf at h; simp at h; omega
theorem toldC_leaf {k : UInt8} {n : Int} {f : Nat} {sc : Int} {text : List UInt8} {kids : List Val} {flds : List Fld} {x : Value} {w : World} {n' : Int} {f' : Nat} {sc' : Int} {t' : List UInt8} (hn : normV (.mk k n f sc text kids flds) = .mk k n' f' sc' t' [] [])
    (h : Calls Tryz.prog 150 #[x] w fun e w' => e = .returned (.tuple #[.agg #[.int .u8 (k.toNat : Int), .int .i64 n', .float .f64 f', .int .i64 sc', .string (bstr t'), .slice none 0 0, .slice none 0 0], .bool true]) ∧ Kept [] w w') :
    Calls Tryz.prog 150 #[x] w fun e w' => ∃ cs : List Value, e = .returned (.tuple #[.agg cs.toArray, .bool true]) ∧ VHeld (fun b => w.heap.size ≤ b) w' cs (normV (.mk k n f sc text kids flds)) ∧ Kept [] w w' := by
  refine h.mono ?_
  rintro e w' ⟨rfl, hk⟩
  rw [hn]
  exact ⟨_, rfl, vheld_leaf _ _ _ _ _ _ _, hk⟩
theorem told_of (k : UInt8) (n : Int) (f : Nat) (sc : Int) (text : List UInt8) (kids : List Val) (flds : List Fld) (hk : ∀ v, v ∈ kids → ToldC v) (hf : ∀ x, x ∈ flds → ToldC x.val) : ToldC (.mk k n f sc text kids flds) := by
  by_cases c1 : k = 65
  · subst c1; exact told_65 n f sc text kids flds hk
  by_cases c2 : k = 70
  · subst c2; exact told_70 n f sc text kids flds (fieldsT_of flds hf)
  intro d B w x hwf hok hcost hpv
  unfold WfV at hwf
  obtain ⟨_, _, _, _, _, n1, n2, f1⟩ := hwf
  unfold OkV at hok
  obtain ⟨_, hb, hok⟩ := hok
  rw [if_neg c1, if_neg c2] at hok
  unfold PV at hpv
  rw [if_neg c1, if_neg c2] at hpv
  unfold leafOk at hok
  unfold leafV at hpv
  by_cases c116 : k = 116
  · subst c116
    rw [if_pos rfl] at hok hpv
    simp only [Bool.or_eq_true, decide_eq_true_eq] at hok
    subst hpv
    rcases hok with rfl | rfl
    · exact toldC_leaf (by simp [normV]) (told_116f w)
    · exact toldC_leaf (by simp [normV]) (told_116t w)
  rw [if_neg c116] at hok hpv
  by_cases c66 : k = 66
  · subst c66
    rw [if_pos rfl] at hok hpv
    simp only [Bool.and_eq_true, decide_eq_true_eq] at hok
    subst hpv
    exact toldC_leaf (by simp [normV]) (told_66 n w hok.1 hok.2)
  rw [if_neg c66] at hok hpv
  by_cases c84 : k = 84
  · subst c84
    rw [if_pos rfl] at hok
    simp only [Bool.and_eq_true, decide_eq_true_eq] at hok
    simp (config := { decide := true }) only [if_false, if_true] at hpv
    subst hpv
    exact toldC_leaf (by simp [normV]) (told_84 n w hok.1 (by omega))
  rw [if_neg c84] at hok
  by_cases c102 : k = 102
  · subst c102
    rw [if_pos (.inl rfl)] at hok
    simp (config := { decide := true }) only [if_false, if_true] at hpv
    subst hpv
    exact toldC_leaf (by simp [normV]) (told_102 f w hok f1)
  by_cases c100 : k = 100
  · subst c100
    simp (config := { decide := true }) only [if_false, if_true] at hpv
    subst hpv
    exact toldC_leaf (by simp [normV]) (told_100 f w)
  rw [if_neg (by intro e; rcases e with e | e; exact c102 e; exact c100 e)] at hok
  by_cases c68 : k = 68
  · subst c68
    rw [if_pos rfl] at hok
    simp only [Bool.and_eq_true, decide_eq_true_eq] at hok
    simp (config := { decide := true }) only [if_false, if_true] at hpv
    subst hpv
    have hb := inBits_68' hb
    exact toldC_leaf (by simp [normV]) (told_68 sc n w hok.1 hok.2 hb.1 hb.2)
  rw [if_neg c68] at hok
  simp only [decide_eq_true_eq] at hok
  rcases hok with rfl | rfl | rfl | rfl | rfl | rfl | rfl
  · simp (config := { decide := true }) only [if_false, if_true] at hpv
    subst hpv
    have hb := inBits_98' hb
    exact toldC_leaf (by simp [normV]) (told_98 n w hb.1 hb.2)
  · simp (config := { decide := true }) only [if_false, if_true] at hpv
    subst hpv
    have hb := inBits_115' hb
    exact toldC_leaf (by simp [normV]) (told_115 n w hb.1 hb.2)
  · simp (config := { decide := true }) only [if_false, if_true] at hpv
    subst hpv
    have hb := inBits_73' hb
    exact toldC_leaf (by simp [normV]) (told_73 n w hb.1 hb.2)
  · simp (config := { decide := true }) only [if_false, if_true] at hpv
    subst hpv
    exact toldC_leaf (by simp [normV]) (told_108 n w)
  · simp (config := { decide := true }) only [if_false, if_true] at hpv
    subst hpv
    exact toldC_leaf (by simp [normV]) (told_83 _ w)
  · simp (config := { decide := true }) only [if_false, if_true] at hpv
    obtain ⟨g, rfl, _, hg⟩ := hpv
    exact toldC_leaf (by simp [normV]) (told_120 g text text.length w hg rfl)
  · simp (config := { decide := true }) only [if_false, if_true] at hpv
    subst hpv
    exact toldC_leaf (by simp [normV]) (told_86 w)
/-- impl.told of every value. -/
theorem told_any (v : Val) : ToldC v := Val.held ToldC (fun k n f sc t kids flds hk hf => told_of k n f sc t kids flds hk hf) v
/-- impl.fields of every table. -/
theorem fieldsT_any (fs : List Fld) : FieldsTC fs := fieldsT_of fs fun x _ => told_any x.val
theorem zero_any (w : World) : (zeroValue 20).run Tryz.prog w = .ok .nilIface w := by kernel_rfl
set_option maxHeartbeats 2000000 in
set_option maxRecDepth 100000 in
theorem table_of (fs : List Fld) (hv : ∀ x, x ∈ fs → GvC x.val) : GtC fs := by
  intro B s d w hs hwf hok hcost
  obtain ⟨fa, fc, rfl, _, _, hget⟩ := (hs.mono (B' := fun b => B b ∧ b < w.heap.size) (fun b hb hl => ⟨hb, hl⟩)).get
  have hkl : (fs.length : Int) ≤ 2000 := by have := costFs_len fs; omega
  have H := Lib.hid (And.intro hwf (And.intro hok (And.intro hcost (And.intro hv hget))))
  have hmk : ∀ w : World, (Instr.makeMap 96 none).run Tryz.prog w = .ok (.map (some w.heap.size)) (w.alloc (.map #[] 0)) := fun w => run_makeMap _ w
  clear hs hwf hok hcost hv hget
  go_enter Tryz.func40, Tryz.ntmps40
  go_upto_region 2 with fail
  generalize hmb : w.heap.size = mb at *
  obtain ⟨W1, hW1⟩ : ∃ W1, W1 = w.alloc (.map #[] 0) := ⟨_, rfl⟩
  rw [← hW1]
  have hm1 : MapAt W1 mb [] := by rw [hW1, ← hmb]; exact MapAt.new w
  have hk1 : Kept [] w W1 := by rw [hW1]; exact (Kept.refl [] w).alloc _
  have hz1 : W1.heap.size = mb + 1 := by rw [hW1]; simp [hmb]
  have HH := Lib.hid (And.intro hk1 (And.intro hz1 hm1)); clear hk1 hz1 hm1 hmk hW1
  have HMB := Lib.hid hmb; clear hmb
  go_wp2_with fail
  go_loopw [14] (fun ix W => ∃ (m : Nat) (es : List (Value × Value)), ix = .int .i64 (m : Int) ∧ m ≤ fs.length ∧ es.length = m ∧ Hid (MapAt W mb es ∧ GF (fun b => mb + 1 ≤ b) W es (fs.take m) ∧ Kept [mb] W1 W)) (fun ix _ => fs.length - (intOf ix).toNat)
  case atStart => exact ⟨0, [], rfl, Nat.zero_le _, rfl, Lib.hid ⟨HH.out.2.2, by rw [List.take_zero]; unfold GF; rfl, Kept.refl _ _⟩⟩
  case round =>
    obtain ⟨m, es, rfl, hmk, hem, HR⟩ := hrel
    by_cases hlt : m < fs.length
    · obtain ⟨name, v, hx⟩ : ∃ name v, fs[m]? = some (.mk name v) := by
        rw [List.getElem?_eq_getElem hlt]; cases fs[m] with | mk name v => exact ⟨name, v, rfl⟩
      obtain ⟨ad, cs, rfl, hca, hvh⟩ := H.out.2.2.2.2 m name v hx
      have hkw : Kept [mb] w wr := (HH.out.1.mono (by simp)).trans HR.out.2.2 (fun x hx => .inl hx)
      have hBk : ∀ b, (B b ∧ b < mb) → b ∉ [mb] := fun b hb => by simp; omega
      have hca' := (hca.kept hkw hBk).2
      have hvh' := VHeld.kept hkw hBk v hvh
      have hlt' : (m : Int) < fs.length := by omega
      have hfr := OkFs.fresh fs _ _ H.out.2.1 m name v hx
      have hkeys := GF.keys _ _ HR.out.2.1
      have hnew : ∀ e ∈ es, Instr.sameNow .string (.string ⟨name.toArray⟩) e.1 = some false := by
        intro e he
        have h1 : e.1 ∈ es.map Prod.fst := List.mem_map_of_mem he
        rw [hkeys] at h1
        obtain ⟨x, hx1, hx2⟩ := List.mem_map.1 h1
        have h2 := hfr x hx1
        rw [← hx2]
        have h3 : name ≠ x.name := fun e => h2 e.symm
        exact congrArg some (bytes_ne _ _ h3)
      have hes : ¬ (8192 : Int) ≤ (m : Int) := by omega
      have hwsz : mb + 1 ≤ wr.heap.size := by have := HR.out.2.2.size; have := HH.out.2.1; omega
      have HX := Lib.hid (And.intro hx (And.intro hnew (And.intro hwsz hkw))); have HC := Lib.hid (And.intro hca' hvh')
      clear hx hnew hkeys hfr hca hvh hca' hvh' hwsz hkw hBk
      obtain ⟨a0, a1, a2, a3, a4, a5, a6, rfl⟩ := HC.out.2.seven
      go_upto_region 5 with (first
        | (refine wpList_load_cells rfl 153 (.tmp 16) rfl _ rfl _ HC.out.1 _ Tryz.underlying153 rfl size_iFld ?_)
        | (refine wpList_store_row (P := Tryz.prog) rfl rfl 153 (.tmp 6) (.tmp 17) rfl wr.heap.size rfl 153 _ [.string (bstr name), a0, a1, a2, a3, a4, a5, a6] (Blk.new wr _ _) rfl rfl (by intro u hu; rcases List.mem_cons.1 hu with rfl | hu; rfl; exact HC.out.2.one u hu) size_iFld ?_; intro w9 hb9 hk9; have HB9 := Lib.hid (And.intro hb9 (((Kept.refl [] wr).alloc _).trans hk9 (S' := [wr.heap.size]) (by simp))); clear hb9 hk9))
      have s0 : w9.cell? ⟨wr.heap.size, 0, none⟩ = some (.string (bstr name)) := HB9.out.1.cell 0
      have s1 : w9.cell? ⟨wr.heap.size, 1, none⟩ = some a0 := HB9.out.1.cell 1
      have s2 : w9.cell? ⟨wr.heap.size, 2, none⟩ = some a1 := HB9.out.1.cell 2
      have s3 : w9.cell? ⟨wr.heap.size, 3, none⟩ = some a2 := HB9.out.1.cell 3
      have s4 : w9.cell? ⟨wr.heap.size, 4, none⟩ = some a3 := HB9.out.1.cell 4
      have s5 : w9.cell? ⟨wr.heap.size, 5, none⟩ = some a4 := HB9.out.1.cell 5
      have s6 : w9.cell? ⟨wr.heap.size, 6, none⟩ = some a5 := HB9.out.1.cell 6
      have s7 : w9.cell? ⟨wr.heap.size, 7, none⟩ = some a6 := HB9.out.1.cell 7
      have hvc := H.out.2.2.2.1 (.mk name v) (List.mem_of_getElem? HX.out.1) _ _ d w9 (VHeld.kept HB9.out.2 (by simp) v HC.out.2) (WfFs.get fs H.out.1 m name v HX.out.1).2 (OkFs.get fs _ _ H.out.2.1 m name v HX.out.1).2 (by have := costFs_get fs m name v HX.out.1; have := H.out.2.2.1; simp only [Fld.val]; omega)
      have HV := Lib.hid hvc; clear hvc
      go_upto_region 6 with (go_at_call 54; refine HV.out.mono ?_; rintro e w6 ⟨x, rfl, p6, k6⟩; have H6 := Lib.hid (And.intro p6 k6); clear p6 k6)
      clear s0 s1 s2 s3 s4 s5 s6 s7
      have hk6 : Kept [] wr w6 := HB9.out.2.trans H6.out.2 (by simp)
      have s0 : w6.cell? ⟨wr.heap.size, 0, none⟩ = some (.string (bstr name)) := (HB9.out.1.kept H6.out.2 (by simp)).cell 0
      have hm6 : MapAt w6 mb es := HR.out.1.kept hk6 (by simp)
      have hlk := run_lookup_none (P := Tryz.prog) (t := 96) (k := .string (bstr name)) hm6 Tryz.underlying96 Tryz.underlying9 rfl HX.out.2.1 _ (zero_any w6) true
      have H7 := Lib.hid (And.intro hk6 hm6); clear hk6 hm6
      have hlm := fun ty => len_map H7.out.2 ty
      rw [hem] at hlm
      go_wp2_with (refine wpList_update_new rfl rfl 96 (.tmp 36) (.tmp 38) (.tmp 39) rfl mb es H7.out.2 rfl _ _ _ Tryz.underlying96 Tryz.underlying9 rfl (.string ⟨name.toArray⟩) x rfl rfl HX.out.2.1 ?_; intro w8 m8 k8; have H8 := Lib.hid (And.intro m8 k8); clear m8 k8)
      go_roundw
      case rel =>
        have hk8 : Kept [mb] wr w8 := (H7.out.1.mono (by simp)).trans H8.out.2 (fun x hx => .inl hx)
        refine ⟨m + 1, es ++ [(.string ⟨name.toArray⟩, x)], rfl, hlt, by simp [hem], Lib.hid ⟨H8.out.1, ?_, HR.out.2.2.trans hk8 (fun x hx => .inl hx)⟩⟩
        have e1 : fs.take (m + 1) = fs.take m ++ [.mk name v] := by rw [List.take_add_one, HX.out.1]; rfl
        rw [e1]
        refine GF.snoc name v x (GV.kept H8.out.2 (fun b hb => by simp; omega) v (GV.mono (fun b hb _ => by have := HX.out.2.2.1; have := HB9.out.2.size; omega) v H6.out.1)) _ _ ?_
        exact GF.kept hk8 (fun b hb => by simp; omega) _ HR.out.2.1
      case measure => simp [intOf]; omega
    · have hnl : ¬ (m : Int) < (fs.length : Int) := by omega
      have hfin : m = fs.length := by omega
      have HM := Lib.hid hfin; clear hfin hlt
      go_wp2_with fail
      go_ret2
      have hgf := HR.out.2.1
      rw [HM.out, List.take_length] at hgf
      exact ⟨mb, rfl, by rw [HMB.out]; exact Nat.le_refl _, es, HR.out.1, GF.mono (fun b hb _ => by have := HMB.out; omega) fs hgf, HH.out.1.trans HR.out.2.2 (fun x hx => .inr (by have := HMB.out; simp at hx; omega))⟩
section
variable {P : Program} {ops : Array Oper} {rest : List Oper} {o : Oper} {a : Act} {w : World} {Q : Exit → Act → World → Prop}
theorem LB.src {w : World} {g : Nat} {l : List UInt8} (h : LB w g l) (c : Nat) : Src w (.slice (some ⟨g, 0, none⟩) l.length c) g l := by
  refine .inr ⟨_, c, rfl, rfl, fun j v hj => ?_⟩
  rw [addr_add, Nat.zero_add]
  unfold u8s at hj
  rw [List.getElem?_map] at hj
  cases hq : l[j]? with
  | none => rw [hq] at hj; simp at hj
  | some y => rw [hq] at hj; simp at hj; subst hj; exact h j y hq
/-- As wpList_conv_bytes; the new row is as long as the text at least. -/
theorem wpList_conv_bytes2 (hgd : o.guard = none) (src dst e : TypeId) (x : Operand) (ho : o.op = .convert src dst x) {u : TypeDesc} (hs : P.underlying src = some u) (hd : P.underlying dst = some (.slice e)) (he : P.underlying e = some (.int .u8))
    (l : List UInt8) (hx : a.eval x = .string (bstr l))
    (h : ∀ (cap : Nat) (w' : World), l.length ≤ cap → LB w' w.heap.size l → w.heap.size < w'.heap.size → Kept [] w w' → wpList P ops Q rest (a.put o.dst (.slice (some ⟨w.heap.size, 0, none⟩) l.length cap)) w') : wpList P ops Q (o :: rest) a w := by
  refine wpList_plain hgd fun K hK => ?_
  have hr := Lib.run_convert_string_bytes (P := P) w src dst e (bstr l) hs hd he
  have hz : (bstr l).size = l.length := by simp [bstr, ByteArray.size]
  unfold Oper.wp execOp
  simp only [ho, hx, Sem.run_bind, Sem.run_pure, hr, Result.andThen_ok]
  refine hK _ _ ?_
  rw [hz]
  refine h _ _ (grownCap_ge _ _ _ _) (fun j x hj => ?_) ?_ (Below.kept (Lib.bytesWorld_below w e (bstr l)) [])
  · obtain ⟨hlt, hjx⟩ := List.getElem?_eq_some_iff.1 hj
    rw [Lib.bytesWorld_cell w e (bstr l) j (by rw [hz]; exact hlt)]
    simp [bstr, List.getD, hj]
  · rw [Lib.bytesWorld_size]; omega
end
set_option maxHeartbeats 1000000 in
set_option maxRecDepth 100000 in
theorem wshort_any (q : Nat) (bs : List Nat) (l s : List UInt8) (w : World) (hw : Wr TB w q bs l) (hs : s.length ≤ 255) (hl : l.length ≤ 900000000) :
    Calls Tryz.prog 207 #[.iface 111 (.pointer (some ⟨q, 0, none⟩)), .string (bstr s)] w fun e w' => e = .returned .nilIface ∧ Wrote q bs l (Lib.beBytes 1 s.length ++ s) w w' := by
  have hm1 := method_wbuf
  have hm2 := nilAhead_wbuf
  have e0 : (s.length : Int) % 256 = s.length := by omega
  have e1 : ¬ (255 : Int) < s.length := by omega
  have e2 : decide ((255 : Int) < s.length) = false := by simp; omega
  have H := Lib.hid (And.intro hw (And.intro hs hl))
  clear hw hs hl
  go_enter Tryz.func207, Tryz.ntmps207
  go_upto_region 7 with (first
    | (refine wpList_conv_bytes2 rfl 9 22 5 _ rfl Tryz.underlying9 Tryz.underlying22 Tryz.underlying5 s rfl ?_; intro cap w1 hcap hlb hlt hk1; have hw1 := H.out.1.kept hk1 (by simp) (by simp); have hc := wfix_u8 q bs l s.length w1 hw1 (by have := H.out.2.1; omega) (by have := H.out.2.2; omega); have H1 := Lib.hid (And.intro hlb (And.intro hlt (And.intro hk1 (And.intro hw1 hc)))); clear hlb hlt hk1 hw1 hc)
    | (go_at_call 206; refine H1.out.2.2.2.2.mono ?_; rintro e w2 ⟨rfl, bs2, h2, k2⟩; have H2 := Lib.hid (And.intro h2 k2); clear h2 k2))
  have hcz : (s.length : Int) ≤ cap := by omega
  have hkd : Kept [] w2 w2.drew := (Kept.refl [] w2).drew
  have hgq : w.heap.size ∉ q :: bs := by
    have h1 := H.out.1.lt
    have h2 := H.out.1.blt
    simp only [List.mem_cons, not_or]
    exact ⟨by omega, fun hm => by have := h2 _ hm; omega⟩
  have hwr := write_any q bs2 _ w.heap.size _ s w2.drew (H2.out.1.kept hkd (by simp) (by simp)) (((H1.out.1.kept H2.out.2.kept hgq).src cap).kept hkd (by simp)) ⟨_, cap, rfl⟩ (by have := H.out.2.2; have := H.out.2.1; simp [Lib.beBytes_length]; omega)
  have HW := Lib.hid hwr; have HD := Lib.hid hkd; clear hwr hkd hgq
  go_region_held3 (fun _ : World => True) (trivial) (first | (go_at_call 238; refine HW.out.mono ?_; rintro e w3 ⟨rfl, bs3, h3, k3⟩; have H3 := Lib.hid (And.intro h3 k3); clear h3 k3))
  all_goals
    go_wp2
    go_ret
    refine ⟨rfl, bs3, by rw [← List.append_assoc]; exact H3.out.1, ?_⟩
    exact Adv.kept_l H1.out.2.2.1 (H2.out.2.trans (Adv.kept_l HD.out H3.out.2))
set_option maxHeartbeats 1000000 in
set_option maxRecDepth 100000 in
theorem wlong_any (q : Nat) (bs : List Nat) (l s : List UInt8) (w : World) (hw : Wr TB w q bs l) (hs : s.length ≤ 1000000) (hl : l.length ≤ 900000000) :
    Calls Tryz.prog 214 #[.iface 111 (.pointer (some ⟨q, 0, none⟩)), .string (bstr s)] w fun e w' => e = .returned .nilIface ∧ Wrote q bs l (Lib.beBytes 4 s.length ++ s) w w' := by
  have hm1 := method_wbuf
  have hm2 := nilAhead_wbuf
  have e0 : (s.length : Int) % 4294967296 = s.length := by omega
  have H := Lib.hid (And.intro hw (And.intro hs hl))
  clear hw hs hl
  go_enter Tryz.func214, Tryz.ntmps214
  go_upto_region 5 with (first
    | (refine wpList_conv_bytes2 rfl 9 22 5 _ rfl Tryz.underlying9 Tryz.underlying22 Tryz.underlying5 s rfl ?_; intro cap w1 hcap hlb hlt hk1; have hw1 := H.out.1.kept hk1 (by simp) (by simp); have hc := wfix_u32 q bs l s.length w1 hw1 (by have := H.out.2.1; omega) (by have := H.out.2.2; omega); have H1 := Lib.hid (And.intro hlb (And.intro hlt (And.intro hk1 (And.intro hw1 hc)))); clear hlb hlt hk1 hw1 hc)
    | (go_at_call 206; refine H1.out.2.2.2.2.mono ?_; rintro e w2 ⟨rfl, bs2, h2, k2⟩; have H2 := Lib.hid (And.intro h2 k2); clear h2 k2))
  have hcz : (s.length : Int) ≤ cap := by omega
  have hkd : Kept [] w2 w2.drew := (Kept.refl [] w2).drew
  have hgq : w.heap.size ∉ q :: bs := by
    have h1 := H.out.1.lt
    have h2 := H.out.1.blt
    simp only [List.mem_cons, not_or]
    exact ⟨by omega, fun hm => by have := h2 _ hm; omega⟩
  have hwr := write_any q bs2 _ w.heap.size _ s w2.drew (H2.out.1.kept hkd (by simp) (by simp)) (((H1.out.1.kept H2.out.2.kept hgq).src cap).kept hkd (by simp)) ⟨_, cap, rfl⟩ (by have := H.out.2.2; have := H.out.2.1; simp [Lib.beBytes_length]; omega)
  have HW := Lib.hid hwr; have HD := Lib.hid hkd; clear hwr hkd hgq
  go_region_held3 (fun _ : World => True) (trivial) (first | (go_at_call 238; refine HW.out.mono ?_; rintro e w3 ⟨rfl, bs3, h3, k3⟩; have H3 := Lib.hid (And.intro h3 k3); clear h3 k3))
  all_goals
    go_wp2
    go_ret
    refine ⟨rfl, bs3, by rw [← List.append_assoc]; exact H3.out.1, ?_⟩
    exact Adv.kept_l H1.out.2.2.1 (H2.out.2.trans (Adv.kept_l HD.out H3.out.2))
theorem gv_leaf {B : Nat → Prop} {w : World} {x : Value} {k : UInt8} {n : Int} {f : Nat} {sc : Int} {text : List UInt8} {kids : List Val} {flds : List Fld} (h1 : k ≠ 65) (h2 : k ≠ 70) (h : leafG B w k n f sc text x) : GV B w x (.mk k n f sc text kids flds) := by
  unfold GV
  rw [if_neg h1, if_neg h2]
  exact h
set_option maxHeartbeats 2000000 in
theorem gv_of (k : UInt8) (n : Int) (f : Nat) (sc : Int) (text : List UInt8) (kids : List Val) (flds : List Fld) (hk : ∀ v, v ∈ kids → GvC v) (hf : ∀ x, x ∈ flds → GvC x.val) : GvC (.mk k n f sc text kids flds) := by
  by_cases c1 : k = 65
  · subst c1; exact given_65 n f sc text kids flds hk
  by_cases c2 : k = 70
  · subst c2; exact given_70 n f sc text kids flds (table_of flds hf)
  intro B cs d w hv hwf hok hcost
  unfold VHeld at hv
  obtain ⟨ka, kc, fa, fc, rfl, _⟩ := hv
  unfold WfV at hwf
  obtain ⟨t1, t2, t3, _, _, n1, n2, f1⟩ := hwf
  unfold OkV at hok
  obtain ⟨hd, hb, hok⟩ := hok
  rw [if_neg c1, if_neg c2] at hok
  unfold leafOk at hok
  by_cases c98 : k = 98
  · subst c98
    refine (given_98 n f sc text (.slice ka kids.length kc) (.slice fa flds.length fc) (inBits_98 hb).1 (inBits_98 hb).2 w).mono ?_
    rintro e w' ⟨rfl, hk'⟩
    refine ⟨_, rfl, gv_leaf (by decide) (by decide) ?_, hk'⟩
    unfold leafG
    simp (config := { decide := true }) only [if_false, if_true]
  by_cases c115 : k = 115
  · subst c115
    refine (given_115 n f sc text (.slice ka kids.length kc) (.slice fa flds.length fc) (inBits_115 hb).1 (inBits_115 hb).2 w).mono ?_
    rintro e w' ⟨rfl, hk'⟩
    refine ⟨_, rfl, gv_leaf (by decide) (by decide) ?_, hk'⟩
    unfold leafG
    simp (config := { decide := true }) only [if_false, if_true]
  by_cases c73 : k = 73
  · subst c73
    refine (given_73 n f sc text (.slice ka kids.length kc) (.slice fa flds.length fc) (inBits_73 hb).1 (inBits_73 hb).2 w).mono ?_
    rintro e w' ⟨rfl, hk'⟩
    refine ⟨_, rfl, gv_leaf (by decide) (by decide) ?_, hk'⟩
    unfold leafG
    simp (config := { decide := true }) only [if_false, if_true]
  by_cases c66 : k = 66
  · subst c66
    refine (given_66 n f sc text (.slice ka kids.length kc) (.slice fa flds.length fc) (by simp at hok; omega) (by simp at hok; omega) w).mono ?_
    rintro e w' ⟨rfl, hk'⟩
    refine ⟨_, rfl, gv_leaf (by decide) (by decide) ?_, hk'⟩
    unfold leafG
    simp (config := { decide := true }) only [if_false, if_true]
  by_cases c108 : k = 108
  · subst c108
    refine (given_108 n f sc text (.slice ka kids.length kc) (.slice fa flds.length fc)  w).mono ?_
    rintro e w' ⟨rfl, hk'⟩
    refine ⟨_, rfl, gv_leaf (by decide) (by decide) ?_, hk'⟩
    unfold leafG
    simp (config := { decide := true }) only [if_false, if_true]
  by_cases c100 : k = 100
  · subst c100
    refine (given_100 n f sc text (.slice ka kids.length kc) (.slice fa flds.length fc)  w).mono ?_
    rintro e w' ⟨rfl, hk'⟩
    refine ⟨_, rfl, gv_leaf (by decide) (by decide) ?_, hk'⟩
    unfold leafG
    simp (config := { decide := true }) only [if_false, if_true]
  by_cases c83 : k = 83
  · subst c83
    refine (given_83 n f sc text (.slice ka kids.length kc) (.slice fa flds.length fc)  w).mono ?_
    rintro e w' ⟨rfl, hk'⟩
    refine ⟨_, rfl, gv_leaf (by decide) (by decide) ?_, hk'⟩
    unfold leafG
    simp (config := { decide := true }) only [if_false, if_true]
  by_cases c86 : k = 86
  · subst c86
    refine (given_86 n f sc text (.slice ka kids.length kc) (.slice fa flds.length fc)  w).mono ?_
    rintro e w' ⟨rfl, hk'⟩
    refine ⟨_, rfl, gv_leaf (by decide) (by decide) ?_, hk'⟩
    unfold leafG
    simp (config := { decide := true }) only [if_false, if_true]
  by_cases c102 : k = 102
  · subst c102
    refine (given_102 n f sc text (.slice ka kids.length kc) (.slice fa flds.length fc) (by simpa using hok) f1 w).mono ?_
    rintro e w' ⟨rfl, hk'⟩
    refine ⟨_, rfl, gv_leaf (by decide) (by decide) ?_, hk'⟩
    unfold leafG
    simp (config := { decide := true }) only [if_false, if_true]
  by_cases c116 : k = 116
  · subst c116
    refine (given_116 n f sc text (.slice ka kids.length kc) (.slice fa flds.length fc) (by simpa using hok) w).mono ?_
    rintro e w' ⟨rfl, hk'⟩
    refine ⟨_, rfl, gv_leaf (by decide) (by decide) ?_, hk'⟩
    unfold leafG
    simp (config := { decide := true }) only [if_false, if_true]
  by_cases c68 : k = 68
  · subst c68
    refine (given_68 n f sc text (.slice ka kids.length kc) (.slice fa flds.length fc) (inBits_68 hb).1 (inBits_68 hb).2 (by simp at hok; omega) (by simp at hok; omega) w).mono ?_
    rintro e w' ⟨rfl, hk'⟩
    refine ⟨_, rfl, gv_leaf (by decide) (by decide) ?_, hk'⟩
    unfold leafG
    simp (config := { decide := true }) only [if_false, if_true]
  by_cases c84 : k = 84
  · subst c84
    refine (given_84 n f sc text (.slice ka kids.length kc) (.slice fa flds.length fc) (by simp at hok; omega) (by simp at hok; omega) w).mono ?_
    rintro e w' ⟨rfl, hk'⟩
    refine ⟨_, rfl, gv_leaf (by decide) (by decide) ?_, hk'⟩
    unfold leafG
    simp (config := { decide := true }) only [if_false, if_true]
  by_cases c120 : k = 120
  · subst c120
    refine (given_120 n f sc text (.slice ka kids.length kc) (.slice fa flds.length fc) w).mono ?_
    rintro e w' ⟨g, cap, rfl, a1, a2, a3, hk'⟩
    refine ⟨_, rfl, gv_leaf (by decide) (by decide) ?_, hk'⟩
    unfold leafG
    simp (config := { decide := true }) only [if_false, if_true]
    exact ⟨_, cap, rfl, fun _ => ⟨g, rfl, a2, a3, fun j u hj => by
      unfold u8s at hj
      rw [List.getElem?_map] at hj
      cases hq : text[j]? with
      | none => rw [hq] at hj; simp at hj
      | some y => rw [hq] at hj; simp at hj; subst hj; exact a1 j y hq⟩⟩
  exfalso
  simp [c98, c115, c73, c66, c108, c100, c83, c86, c102, c116, c68, c84, c120] at hok
/-- Every proper value, as impl.given lays it. -/
theorem gv_all (v : Val) : GvC v := Val.held GvC (fun k n f sc t kids flds hk hf => gv_of k n f sc t kids flds hk hf) v
/-- Every proper table, as impl.table lays it. -/
theorem gt_all (fs : List Fld) : GtC fs := table_of fs fun x _ => gv_all x.val
end Go.Proofs.YtkcdakohmfodjaaGreat
