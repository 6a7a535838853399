/-
  Lemmas on the way to the statement of YtkcdakohmfodjaaGreatMethodRead, joined out of these texts: ToldV, Msg, Pm, FrMeth, GotM. No condition.
-/
import Derived.Deep.MidRow
import Derived.Test.YtkcdakohmfodjaaGreatMAJ
import Derived.Test.YtkcdakohmfodjaaGreatMAL
import Derived.Test.YtkcdakohmfodjaaGreatNFrmOk
import Derived.Test.YtkcdakohmfodjaaGreatNMrA
import Derived.Test.YtkcdakohmfodjaaGreatNRdv
namespace Go.Proofs.YtkcdakohmfodjaaGreat
open Go.RowKit
set_option linter.unusedVariables false
set_option linter.unusedSimpArgs false
theorem vheld_leaf (B : Nat → Prop) (w : World) (k : UInt8) (n : Int) (f : Nat) (sc : Int) (text : List UInt8) :
    VHeld B w [.int .u8 (k.toNat : Int), .int .i64 n, .float .f64 f, .int .i64 sc, .string (bstr text), .slice none 0 0, .slice none 0 0] (.mk k n f sc text [] []) := by
  unfold VHeld
  exact ⟨none, 0, none, 0, rfl, Nat.le_refl _, Nat.le_refl _, fun h => absurd rfl h, fun h => absurd rfl h, by unfold KAt; trivial, by unfold FAt; trivial⟩
theorem ownIVal : (Tryz.prog.info? 151).map (fun i => (i.zero.map (·.cells.size), i.size, i.bytes)) = some (some 7, 7, 96) := by kernel_rfl
theorem PL.get {B : Nat → Prop} {w : World} : ∀ (l : List Val) (g o : Nat), PL B w g o l → ∀ (i : Nat) (v : Val), l[i]? = some v → ∃ x, w.cell? ⟨g, o + i, none⟩ = some x ∧ PV B w x v
  | [], g, o, h, i, v, hi => by simp at hi
  | u :: l, g, o, h, i, v, hi => by
    unfold PL at h
    obtain ⟨⟨x, h1, h2⟩, h3⟩ := h
    cases i with
    | zero => simp only [List.getElem?_cons_zero, Option.some.injEq] at hi; subst hi; exact ⟨x, h1, h2⟩
    | succ i =>
      obtain ⟨y, h4, h5⟩ := PL.get l g (o + 1) h3 i v (by simpa using hi)
      refine ⟨y, ?_, h5⟩
      rw [← h4]; congr 2; omega
theorem normL_take : ∀ (l : List Val) (m : Nat) (v : Val), l[m]? = some v → normL (l.take (m + 1)) = normL (l.take m) ++ [normV v]
  | [], m, v, h => by simp at h
  | u :: l, 0, v, h => by simp only [List.getElem?_cons_zero, Option.some.injEq] at h; subst h; rfl
  | u :: l, m + 1, v, h => by
    rw [List.take_succ_cons, List.take_succ_cons]
    unfold normL
    rw [normL_take l m v (by simpa using h)]; rfl
theorem normL_lenF (l : List Val) : (normL l).length = l.length := by
  induction l with
  | nil => rfl
  | cons x l ih => simp [normL, ih]
set_option maxHeartbeats 1000000 in
set_option maxRecDepth 100000 in
/-- impl.told of a table. -/
theorem told_70 (n : Int) (f : Nat) (sc : Int) (text : List UInt8) (kids : List Val) (flds : List Fld) (hf : FieldsTC flds) : ToldC (.mk 70 n f sc text kids flds) := by
  intro d B w x hwf hok hcost hpv
  unfold PV at hpv
  rw [if_neg (by decide), if_pos rfl] at hpv
  obtain ⟨b, es, rfl, hB, hm, hpf⟩ := hpv
  unfold WfV at hwf
  unfold OkV at hok
  rw [if_neg (by decide), if_pos rfl] at hok
  unfold costV at hcost
  rw [if_neg (by decide), if_pos rfl] at hcost
  have hka : Kept [] w (w.alloc (.cells #[.int .u8 0, .int .i64 0, .float .f64 0, .int .i64 0, .string ⟨#[]⟩, .slice none 0 0, .slice none 0 0] 151)) := (Kept.refl [] w).alloc _
  have hc := hf none (d - 1) B _ b es hwf.2.2.2.2.1 hok.2.2 (by omega) (hm.kept hka (by simp)) (PF.kept hka (by simp) flds hpf)
  have HC := Lib.hid hc; have HK := Lib.hid hka
  clear hc hka hm hpf hwf hok hcost hf
  have an := any_nil 96
  have tn_bool := fun v w => tno_bool 96 v w (by decide)
  have tn_i8 := fun v w => tno_i8 96 v w (by decide)
  have tn_u8 := fun v w => tno_u8 96 v w (by decide)
  have tn_i16 := fun v w => tno_i16 96 v w (by decide)
  have tn_u16 := fun v w => tno_u16 96 v w (by decide)
  have tn_i32 := fun v w => tno_i32 96 v w (by decide)
  have tn_u32 := fun v w => tno_u32 96 v w (by decide)
  have tn_i64 := fun v w => tno_i64 96 v w (by decide)
  have tn_f32 := fun v w => tno_f32 96 v w (by decide)
  have tn_f64 := fun v w => tno_f64 96 v w (by decide)
  have tn_dec := fun v w => tno_dec 96 v w (by decide)
  have tn_str := fun v w => tno_str 96 v w (by decide)
  have tn_byt := fun v w => tno_byt 96 v w (by decide)
  have tn_tim := fun v w => tno_tim 96 v w (by decide)
  have tn_arr := fun v w => tno_arr 96 v w (by decide)
  have ty_tab := tyes_tab
  go_enter Tryz.func150, Tryz.ntmps150
  go_wp2_with (first
    | (go_at_call 67; refine HC.out.mono ?_; rintro e w3 ⟨out, rfl, v1, v2⟩; obtain ⟨fa, fc, rfl, _⟩ := id v1; have H3 := Lib.hid (And.intro v1 v2); clear v1 v2)
    | (refine wpList_store_row (P := Tryz.prog) rfl rfl 151 (.tmp 2) (.tmp 153) rfl w.heap.size rfl 151 _ [.int .u8 70, .int .i64 0, .float .f64 0, .int .i64 0, .string ⟨#[]⟩, .slice none 0 0, .slice fa (normFs flds).length fc] ((Blk.new w _ _).kept H3.out.2 (by simp)) rfl rfl (by simp [Value.oneCell']) size_iVal ?_; intro w5 hb5 hk5; have HB5 := Lib.hid (And.intro hb5 hk5); clear hb5 hk5))
  refine bodyPost_ret (v := .tuple #[.agg #[.int .u8 70, .int .i64 0, .float .f64 0, .int .i64 0, .string ⟨#[]⟩, .slice none 0 0, .slice fa (normFs flds).length fc], .bool true]) (results_told rfl rfl HB5.out.1 rfl) rfl ⟨_, rfl, ?_, ?_⟩
  · have hn : normV (.mk 70 n f sc text kids flds) = .mk 70 0 0 0 [] [] (normFs flds) := by simp [normV]
    rw [hn]
    have hs := H3.out.1.kept HB5.out.2 (fun b hb => by simp at hb ⊢; omega)
    exact VHeld.mk_of (B := fun b => w.heap.size ≤ b) (kids := []) ⟨none, 0, rfl, Nat.le_refl _, fun h => absurd rfl h, by unfold KAt; trivial⟩ (hs.mono fun b hb _ => by simp at hb; omega) 70 0 0 0 []
  · exact (HK.out.trans H3.out.2 (by simp)).trans HB5.out.2 (fun x hx => .inr (by simp at hx; omega))
theorem one7 (kv : Value) (h : kv.oneCell' = true) : ∀ u ∈ [.int .u8 65, .int .i64 0, .float .f64 0, .int .i64 0, .string ⟨#[]⟩, kv, .slice none 0 0], u.oneCell' = true := by
  intro u hu
  simp only [List.mem_cons, List.mem_nil_iff, or_false] at hu
  rcases hu with rfl | rfl | rfl | rfl | rfl | rfl | rfl <;> first | rfl | exact h
set_option maxHeartbeats 1000000 in
set_option maxRecDepth 100000 in
/-- impl.told of an array. -/
theorem told_65 (n : Int) (f : Nat) (sc : Int) (text : List UInt8) (kids : List Val) (flds : List Fld) (hk : ∀ v, v ∈ kids → ToldC v) : ToldC (.mk 65 n f sc text kids flds) := by
  intro d B w x hwf hok hcost hpv
  unfold PV at hpv
  rw [if_pos rfl] at hpv
  obtain ⟨ao, c, rfl, hc, hel⟩ := hpv
  unfold WfV at hwf
  unfold OkV at hok
  rw [if_pos rfl] at hok
  unfold costV at hcost
  rw [if_pos rfl] at hcost
  have hkn : (kids.length : Int) ≤ 2000 := by have := costL_len kids; omega
  have hel' : ∀ (i : Nat) (v : Val), kids[i]? = some v → ∃ g x, ao = some ⟨g, 0, none⟩ ∧ g < w.heap.size ∧ w.cell? ⟨g, i, none⟩ = some x ∧ PV (fun b => B b ∧ b < w.heap.size) w x v := by
    intro i v hi
    obtain ⟨g, e, _, hg, hpl⟩ := hel (by intro e; subst e; simp at hi)
    obtain ⟨x, h1, h2⟩ := PL.get kids g 0 hpl i v hi
    rw [Nat.zero_add] at h1
    exact ⟨g, x, e, hg, h1, PV.mono (fun b hb hl => ⟨hb, hl⟩) v h2⟩
  obtain ⟨i, z, i1, i2, i3, i4, i5⟩ := info_own ownIVal
  have HI := Lib.hid (And.intro i1 (And.intro i2 (And.intro i3 (And.intro i4 i5)))); clear i1 i2 i3 i4 i5
  have H := Lib.hid (And.intro hwf (And.intro hok (And.intro hcost (And.intro hel' hk))))
  clear hwf hok hcost hel hel' hk hc
  have an := any_nil 192
  have tn_bool := fun v w => tno_bool 192 v w (by decide)
  have tn_i8 := fun v w => tno_i8 192 v w (by decide)
  have tn_u8 := fun v w => tno_u8 192 v w (by decide)
  have tn_i16 := fun v w => tno_i16 192 v w (by decide)
  have tn_u16 := fun v w => tno_u16 192 v w (by decide)
  have tn_i32 := fun v w => tno_i32 192 v w (by decide)
  have tn_u32 := fun v w => tno_u32 192 v w (by decide)
  have tn_i64 := fun v w => tno_i64 192 v w (by decide)
  have tn_f32 := fun v w => tno_f32 192 v w (by decide)
  have tn_f64 := fun v w => tno_f64 192 v w (by decide)
  have tn_dec := fun v w => tno_dec 192 v w (by decide)
  have tn_str := fun v w => tno_str 192 v w (by decide)
  have tn_byt := fun v w => tno_byt 192 v w (by decide)
  have tn_tim := fun v w => tno_tim 192 v w (by decide)
  have ty_arr := tyes_arr
  go_enter Tryz.func150, Tryz.ntmps150
  go_wp2_with (refine wpList_store_row (P := Tryz.prog) rfl rfl 151 (.tmp 21) (.tmp 121) rfl (w.heap.size + 1) rfl 151 _ [.int .u8 65, .int .i64 0, .float .f64 0, .int .i64 0, .string ⟨#[]⟩, .slice none 0 0, .slice none 0 0] (Blk.new_at (by simp)) rfl rfl (by simp [Value.oneCell']) size_iVal ?_; intro w2 hb2 hk2; have hr2 : Blk w2 w.heap.size #[.int .u8 0, .int .i64 0, .float .f64 0, .int .i64 0, .string ⟨#[]⟩, .slice none 0 0, .slice none 0 0] 151 := ((Blk.new w _ _).alloc _).kept hk2 (by simp); have hkw : Kept [] w w2 := (((Kept.refl [] w).alloc _).alloc _).trans hk2 (fun x hx => .inr (by simp at hx; omega)); have H2 := Lib.hid (And.intro hb2 (And.intro hr2 hkw)); clear hb2 hk2 hr2 hkw)
  go_loopw [124] (fun i W => ∃ (m : Nat) (kv : Value), i = .int .i64 (m : Int) ∧ m ≤ kids.length ∧ Hid (Blk W (w.heap.size + 1) #[.int .u8 65, .int .i64 0, .float .f64 0, .int .i64 0, .string ⟨#[]⟩, kv, .slice none 0 0] 151 ∧ OwnE 151 7 VHeld w2.heap.size W kv (normL (kids.take m)) ∧ Kept [w.heap.size + 1] w2 W)) (fun i _ => kids.length - (intOf i).toNat)
  case atStart => exact ⟨0, _, rfl, Nat.zero_le _, Lib.hid ⟨H2.out.1, by rw [List.take_zero]; exact OwnE.nil _ _ _ _ _, Kept.refl _ _⟩⟩
  case round =>
    obtain ⟨m, kv, rfl, hmk, HR⟩ := hrel
    have hvlt : w.heap.size + 1 < w2.heap.size := H2.out.1.lt
    have hkwr : Kept [w.heap.size + 1] w wr := (H2.out.2.2.mono (by simp)).trans HR.out.2.2 (fun x hx => .inl hx)
    have HKW := Lib.hid (And.intro hvlt hkwr); clear hvlt hkwr
    by_cases hlt : m < kids.length
    · obtain ⟨v, hx⟩ : ∃ v, kids[m]? = some v := ⟨_, List.getElem?_eq_getElem hlt⟩
      obtain ⟨g, xe, rfl, hg, hce, hpe⟩ := H.out.2.2.2.1 m v hx
      have hce' : wr.cell? ⟨g, m, none⟩ = some xe := HKW.out.2.cell hce (by simp; omega)
      have htc := H.out.2.2.2.2 v (List.mem_of_getElem? hx) (d - 1) _ wr xe (WfL.get' kids H.out.1.2.2.2.1 m v hx) (OkL.get kids (d - 1) H.out.2.1.2.2 m v hx) (by have := costL_get kids m v hx; have := H.out.2.2.1; omega) (PV.kept HKW.out.2 (fun b hb => by simp; omega) v hpe)
      obtain ⟨cells, o1, o2, o3⟩ := HR.out.2.1
      have hmm : (normL (kids.take m)).length = m := by rw [normL_lenF, List.length_take]; omega
      obtain ⟨kao, koc, rfl, hkoc, hoo⟩ := own_slice o1
      have hol : ∀ g, Value.ownBlock (.slice kao (normL (kids.take m)).length koc) = some g → g < wr.heap.size := fun g hg => own_lt o1 hg
      have hlt' : (m : Int) < kids.length := by omega
      have HTC := Lib.hid htc
      have hb1 := HR.out.1
      have o3r := o3
      rw [hmm] at hb1 hol o3
      have HX := Lib.hid (And.intro hx (And.intro o1 (And.intro o2 (And.intro o3 (And.intro hol o3r)))))
      obtain ⟨l0, l1, l2, l3, l4, l5, l6⟩ := cells7 hb1
      have HB1 := Lib.hid hb1
      clear htc hx o1 o2 o3 o3r hol hkoc hoo hce hpe hg hb1
      go_wp2_with (first
        | (go_at_call 150; refine HTC.out.mono ?_; rintro e w3 ⟨cs2, rfl, v1, v2⟩; obtain ⟨b0, b1, b2, b3, b4, b5, b6, rfl⟩ := v1.seven; have H3 := Lib.hid (And.intro v1 v2); clear v1 v2)
        | (refine wpList_store_row (P := Tryz.prog) rfl rfl 151 (.tmp 24) (.tmp 131) rfl w3.heap.size rfl 151 _ [b0, b1, b2, b3, b4, b5, b6] (Blk.new w3 _ _) rfl rfl H3.out.1.one size_iVal ?_; intro w4 hb4 hk4; obtain ⟨c0, c1, c2, c3, c4, c5, c6⟩ := cells7 hb4;
           have hkC : Kept [] wr w4 := ((H3.out.2.alloc _).trans hk4 (fun x hx => .inr (by have := H3.out.2.size; simp at hx; omega)));
           have hkB : Kept [] wr (w4.alloc (.cells #[b0, b1, b2, b3, b4, b5, b6] 151)) := hkC.alloc _;
           have hmv := own_move bears_val HX.out.2.1 HX.out.2.2.1 HX.out.2.2.2.2.2 (S := []) (fun b hb => by simp) hkB; rw [hmm] at hmv;
           have m5 : w4.cell? ⟨w.heap.size + 1, 5, none⟩ = some (.slice kao m koc) := (HB1.out.kept hkC (by simp)).cell 5;
           have H4 := Lib.hid (And.intro hb4 (And.intro hk4 (And.intro hkB hmv))); clear hb4 hk4 hkB hmv hkC)
        | (at_builtin; refine wpList_append2 _ rfl _ _ 149 149 rfl 151 151 Tryz.underlying149 i z 7 96 Tryz.underlying149 HI.out.1 HI.out.2.1 HI.out.2.2.1 HI.out.2.2.2.1 HI.out.2.2.2.2 (by decide) (.slice kao m koc) m cells rfl H4.out.2.2.2.1 ⟨w4.heap.size, 0, none⟩ 1 1 [b0, b1, b2, b3, b4, b5, b6] rfl rfl (cells_new w4 _ _) H3.out.1.one (by omega) (by omega) ?_; intro v' w8 g1 g2 g3;
           have hb8 := (HB1.out.kept H4.out.2.2.1 (by simp)).kept ((Kept.refl (Value.ownBlock (.slice kao m koc)).toList _).grown g2 (fun k hk => .inl (by simp [hk]))) (fun hm => by have := HX.out.2.2.2.1 _ (by simpa using hm); have := HKW.out.1; omega);
           have m8 : w8.cell? ⟨w.heap.size + 1, 5, none⟩ = some (.slice kao m koc) := hb8.cell 5; have f8 := hb8.free 5;
           obtain ⟨vo, vc, rfl, _, _⟩ := own_slice g1;
           have H8 := Lib.hid (And.intro g1 (And.intro g2 (And.intro g3 hb8))); clear g1 g2 g3 hb8))
      go_roundw
      case rel =>
        have hwr := HR.out.2.2.size
        have hwr2 := HKW.out.1
        have hpx : VHeld (fun b => w2.heap.size ≤ b ∧ Value.ownBlock (.slice kao m koc) ≠ some b) (w4.alloc (.cells #[b0, b1, b2, b3, b4, b5, b6] 151)) [b0, b1, b2, b3, b4, b5, b6] (normV v) :=
          VHeld.kept (S := []) ((((Kept.refl [] w3).alloc _).trans H4.out.2.1 (fun x hx => .inr (by simp at hx; omega))).alloc _) (by simp) _ (VHeld.mono (fun b hb _ => ⟨by omega, fun e => by have := HX.out.2.2.2.2.1 b e; omega⟩) _ H3.out.1)
        obtain ⟨p1, p2⟩ := OwnE.push (xs := normL (kids.take m)) bears_val H4.out.2.2.2.2 HX.out.2.2.2.1 (by have := H4.out.2.2.1.size; omega) hpx (by rw [hmm]; exact H8.out.1) H8.out.2.1 H8.out.2.2.1
        rw [← normL_take kids m v HX.out.1] at p1
        have hks : Kept [w.heap.size + 1] w8 (w8.setCell ⟨w.heap.size + 1, 5, none⟩ (.slice vo (m + 1) vc)) := (Kept.refl _ w8).setCell (by simp) _
        refine ⟨m + 1, _, rfl, by omega, Lib.hid ⟨by simpa using H8.out.2.2.2.setCell 5 (.slice vo (m + 1) vc), p1.kept bears_val hks (fun b hb => by simp; omega), ?_⟩⟩
        exact ((HR.out.2.2.trans H4.out.2.2.1 (by simp)).trans p2 (fun x hx => .inr (HX.out.2.2.2.1 x (by simpa using hx)))).trans hks (fun x hx => .inl hx)
      case measure => simp [intOf]; omega
    · have hkm : m = kids.length := by omega
      subst hkm
      have hb1 := HR.out.1
      have hrb : Blk wr w.heap.size #[.int .u8 0, .int .i64 0, .float .f64 0, .int .i64 0, .string ⟨#[]⟩, .slice none 0 0, .slice none 0 0] 151 := H2.out.2.1.kept HR.out.2.2 (by simp)
      have hks := HR.out.2.1.ksl
      rw [List.take_length] at hks
      have hone : kv.oneCell' = true := by obtain ⟨ka, kc, rfl, _⟩ := hks; rfl
      have HE := Lib.hid (And.intro hb1 (And.intro hrb (And.intro hks hone))); clear hb1 hrb hks hone
      go_wp2_with (first
        | (refine wpList_load_row (P := Tryz.prog) rfl 151 (.tmp 21) rfl (w.heap.size + 1) rfl 151 #[.int .u8 65, .int .i64 0, .float .f64 0, .int .i64 0, .string ⟨#[]⟩, kv, .slice none 0 0] HE.out.1 _ Tryz.underlying151 rfl size_iVal ?_)
        | (refine wpList_store_row (P := Tryz.prog) rfl rfl 151 (.tmp 2) (.tmp 143) rfl w.heap.size rfl 151 _ [.int .u8 65, .int .i64 0, .float .f64 0, .int .i64 0, .string ⟨#[]⟩, kv, .slice none 0 0] HE.out.2.1 rfl rfl (one7 _ HE.out.2.2.2) size_iVal ?_; intro w5 hb5 hk5; have HB5 := Lib.hid (And.intro hb5 hk5); clear hb5 hk5))
      refine bodyPost_ret (v := .tuple #[.agg #[.int .u8 65, .int .i64 0, .float .f64 0, .int .i64 0, .string ⟨#[]⟩, kv, .slice none 0 0], .bool true]) (results_told rfl rfl HB5.out.1 rfl) rfl ⟨_, rfl, ?_, ?_⟩
      · have hn : normV (.mk 65 n f sc text kids flds) = .mk 65 0 0 0 [] (normL kids) [] := by simp [normV]
        rw [hn]
        have hvl := HKW.out.1
        have hs := HE.out.2.2.1.kept HB5.out.2 (fun b hb => by simp at hb ⊢; omega)
        exact VHeld.mk_of (B := fun b => w.heap.size ≤ b) (flds := []) (hs.mono fun b hb _ => by have hb : w2.heap.size ≤ b := hb; omega) ⟨none, 0, rfl, Nat.le_refl _, fun h => absurd rfl h, by unfold FAt; trivial⟩ 65 0 0 0 []
      · exact ((H2.out.2.2.trans HR.out.2.2 (fun x hx => .inr (by simp at hx; omega))).trans HB5.out.2 (fun x hx => .inr (by simp at hx; omega)))
theorem inBits_98' {n : Int} (h : inBits 98 n = true) : -128 ≤ n ∧ n ≤ 127 := by unfold inBits bitsOf at h; simp at h; omega
theorem inBits_115' {n : Int} (h : inBits 115 n = true) : -32768 ≤ n ∧ n ≤ 32767 := by unfold inBits bitsOf at h; simp at h; omega
theorem inBits_73' {n : Int} (h : inBits 73 n = true) : -2147483648 ≤ n ∧ n ≤ 2147483647 := by unfold inBits bitsOf at h; simp at h; omega
theorem inBits_68' {n : Int} (h : inBits 68 n = true) : -2147483648 ≤ n ∧ n ≤ 2147483647 := by unfold inBits bitsOf at h; simp at h; omega
theorem toldC_leaf {k : UInt8} {n : Int} {f : Nat} {sc : Int} {text : List UInt8} {kids : List Val} {flds : List Fld} {x : Value} {w : World} {n' : Int} {f' : Nat} {sc' : Int} {t' : List UInt8} (hn : normV (.mk k n f sc text kids flds) = .mk k n' f' sc' t' [] [])
    (h : Calls Tryz.prog 150 #[x] w fun e w' => e = .returned (.tuple #[.agg #[.int .u8 (k.toNat : Int), .int .i64 n', .float .f64 f', .int .i64 sc', .string (bstr t'), .slice none 0 0, .slice none 0 0], .bool true]) ∧ Kept [] w w') :
    Calls Tryz.prog 150 #[x] w fun e w' => ∃ cs : List Value, e = .returned (.tuple #[.agg cs.toArray, .bool true]) ∧ VHeld (fun b => w.heap.size ≤ b) w' cs (normV (.mk k n f sc text kids flds)) ∧ Kept [] w w' := by
  refine h.mono ?_
  rintro e w' ⟨rfl, hk⟩
  rw [hn]
  exact ⟨_, rfl, vheld_leaf _ _ _ _ _ _ _, hk⟩
theorem told_of (k : UInt8) (n : Int) (f : Nat) (sc : Int) (text : List UInt8) (kids : List Val) (flds : List Fld) (hk : ∀ v, v ∈ kids → ToldC v) (hf : ∀ x, x ∈ flds → ToldC x.val) : ToldC (.mk k n f sc text kids flds) := by
  by_cases c1 : k = 65
  · subst c1; exact told_65 n f sc text kids flds hk
  by_cases c2 : k = 70
  · subst c2; exact told_70 n f sc text kids flds (fieldsT_of flds hf)
  intro d B w x hwf hok hcost hpv
  unfold WfV at hwf
  obtain ⟨_, _, _, _, _, n1, n2, f1⟩ := hwf
  unfold OkV at hok
  obtain ⟨_, hb, hok⟩ := hok
  rw [if_neg c1, if_neg c2] at hok
  unfold PV at hpv
  rw [if_neg c1, if_neg c2] at hpv
  unfold leafOk at hok
  unfold leafV at hpv
  by_cases c116 : k = 116
  · subst c116
    rw [if_pos rfl] at hok hpv
    simp only [Bool.or_eq_true, decide_eq_true_eq] at hok
    subst hpv
    rcases hok with rfl | rfl
    · exact toldC_leaf (by simp [normV]) (told_116f w)
    · exact toldC_leaf (by simp [normV]) (told_116t w)
  rw [if_neg c116] at hok hpv
  by_cases c66 : k = 66
  · subst c66
    rw [if_pos rfl] at hok hpv
    simp only [Bool.and_eq_true, decide_eq_true_eq] at hok
    subst hpv
    exact toldC_leaf (by simp [normV]) (told_66 n w hok.1 hok.2)
  rw [if_neg c66] at hok hpv
  by_cases c84 : k = 84
  · subst c84
    rw [if_pos rfl] at hok
    simp only [Bool.and_eq_true, decide_eq_true_eq] at hok
    simp (config := { decide := true }) only [if_false, if_true] at hpv
    subst hpv
    exact toldC_leaf (by simp [normV]) (told_84 n w hok.1 (by omega))
  rw [if_neg c84] at hok
  by_cases c102 : k = 102
  · subst c102
    rw [if_pos (.inl rfl)] at hok
    simp (config := { decide := true }) only [if_false, if_true] at hpv
    subst hpv
    exact toldC_leaf (by simp [normV]) (told_102 f w hok f1)
  by_cases c100 : k = 100
  · subst c100
    simp (config := { decide := true }) only [if_false, if_true] at hpv
    subst hpv
    exact toldC_leaf (by simp [normV]) (told_100 f w)
  rw [if_neg (by intro e; rcases e with e | e; exact c102 e; exact c100 e)] at hok
  by_cases c68 : k = 68
  · subst c68
    rw [if_pos rfl] at hok
    simp only [Bool.and_eq_true, decide_eq_true_eq] at hok
    simp (config := { decide := true }) only [if_false, if_true] at hpv
    subst hpv
    have hb := inBits_68' hb
    exact toldC_leaf (by simp [normV]) (told_68 sc n w hok.1 hok.2 hb.1 hb.2)
  rw [if_neg c68] at hok
  simp only [decide_eq_true_eq] at hok
  rcases hok with rfl | rfl | rfl | rfl | rfl | rfl | rfl
  · simp (config := { decide := true }) only [if_false, if_true] at hpv
    subst hpv
    have hb := inBits_98' hb
    exact toldC_leaf (by simp [normV]) (told_98 n w hb.1 hb.2)
  · simp (config := { decide := true }) only [if_false, if_true] at hpv
    subst hpv
    have hb := inBits_115' hb
    exact toldC_leaf (by simp [normV]) (told_115 n w hb.1 hb.2)
  · simp (config := { decide := true }) only [if_false, if_true] at hpv
    subst hpv
    have hb := inBits_73' hb
    exact toldC_leaf (by simp [normV]) (told_73 n w hb.1 hb.2)
  · simp (config := { decide := true }) only [if_false, if_true] at hpv
    subst hpv
    exact toldC_leaf (by simp [normV]) (told_108 n w)
  · simp (config := { decide := true }) only [if_false, if_true] at hpv
    subst hpv
    exact toldC_leaf (by simp [normV]) (told_83 _ w)
  · simp (config := { decide := true }) only [if_false, if_true] at hpv
    obtain ⟨g, rfl, _, hg⟩ := hpv
    exact toldC_leaf (by simp [normV]) (told_120 g text text.length w hg rfl)
  · simp (config := { decide := true }) only [if_false, if_true] at hpv
    subst hpv
    exact toldC_leaf (by simp [normV]) (told_86 w)
/-- impl.told of every value. -/
theorem told_any (v : Val) : ToldC v := Val.held ToldC (fun k n f sc t kids flds hk hf => told_of k n f sc t kids flds hk hf) v
/-- impl.fields of every table. -/
theorem fieldsT_any (fs : List Fld) : FieldsTC fs := fieldsT_of fs fun x _ => told_any x.val
/-- The four cells of an argument of the package. -/
def zzCells (a : MArg) (tv : Value) : List Value := [.int .i64 a.kind, .int .u64 (a.n : Int), .string (bstr a.text), tv]
/-- The table of an argument of the package: there is none, or one that fits. -/
def TvAt (B : Nat → Prop) (w : World) (a : MArg) (tv : Value) : Prop := (tv = .map none ∧ a.tab = []) ∨ (TabAt B w tv a.tab ∧ WfFs a.tab ∧ fitsB a.tab = true)
theorem TvAt.kept {B : Nat → Prop} {S : List Nat} {w w' : World} {a : MArg} {tv : Value} (h : TvAt B w a tv) (hk : Kept S w w') (hS : ∀ b, B b → b ∉ S) : TvAt B w' a tv := by
  rcases h with h | h
  · exact .inl h
  · exact .inr ⟨h.1.kept hk hS, h.2⟩
theorem TvAt.cells_one {B : Nat → Prop} {w : World} {a : MArg} {tv : Value} (h : TvAt B w a tv) : ∀ u ∈ zzCells a tv, u.oneCell' = true := by
  intro u hu
  simp only [zzCells, List.mem_cons, List.mem_nil_iff, or_false] at hu
  rcases hu with rfl | rfl | rfl | rfl
  · rfl
  · rfl
  · rfl
  · rcases h with ⟨rfl, _⟩ | ⟨⟨tb, es, rfl, _⟩, _⟩ <;> rfl
/-- A slice of arguments of the package. -/
def ZzAt (B : Nat → Prop) (base : Nat) (w : World) (out : Value) (args : List MArg) : Prop :=
  ∃ (ao : Option Addr) (c : Nat), out = .slice ao args.length c ∧ args.length ≤ c ∧ ∀ i a, args[i]? = some a → ∃ g tv, ao = some ⟨g, 0, none⟩ ∧ base ≤ g ∧ g < w.heap.size ∧ TvAt B w a tv ∧ ∀ j u, (zzCells a tv)[j]? = some u → w.cell? ⟨g, i * 4 + j, none⟩ = some u
/-- A message that is the method n of class c, with arguments. -/
def MsgOk (B : Nat → Prop) (w : World) (m : Value) (c n : Nat) (args : List MArg) : Prop :=
  ∀ (S : List Nat) (w' : World), (∀ b, B b → b ∉ S) → Kept S w w' →
    Calls Tryz.prog 65 #[m] w' (fun e w'' => e = .returned (.tuple #[.int .u16 (c : Int), .int .u16 (n : Int)]) ∧ w' = w'') ∧
    Calls Tryz.prog 66 #[m] w' (fun e w'' => ∃ out, e = .returned out ∧ ZzAt B w'.heap.size w'' out args ∧ Kept [] w' w'')
theorem MsgOk.kept {B : Nat → Prop} {S : List Nat} {w w' : World} {m : Value} {c n : Nat} {args : List MArg} (h : MsgOk B w m c n args) (hk : Kept S w w') (hS : ∀ b, B b → b ∉ S) : MsgOk B w' m c n args :=
  fun S' w'' hS' hk' => h (S ++ S') w'' (fun b hb hm => by rcases List.mem_append.1 hm with hm | hm; exact hS b hb hm; exact hS' b hb hm)
    ((hk.mono (S' := S ++ S') (fun x hx => .inl (by simp [hx]))).trans hk' (fun x hx => .inl (by simp [hx])))
/-- impl.fields of an argument's table. -/
theorem tv_fields (B : Nat → Prop) (w : World) (a : MArg) (tv : Value) (h : TvAt B w a tv) :
    Calls Tryz.prog 67 #[tv] w fun e w' => ∃ out, e = .returned (.tuple #[out, .bool true]) ∧ FSl (fun b => w.heap.size ≤ b) w' out (normFs a.tab) ∧ Kept [] w w' := by
  rcases h with ⟨rfl, ht⟩ | ⟨⟨tb, es, rfl, hB, hm, hpf⟩, hwf, hf⟩
  · rw [ht]
    refine (fieldsT_nil w).mono ?_
    rintro e w' ⟨rfl, hk⟩
    exact ⟨_, rfl, ⟨none, 0, rfl, Nat.le_refl _, fun h => absurd rfl h, by unfold normFs FAt; trivial⟩, hk⟩
  · obtain ⟨f1, f2⟩ := (fitsB_iff a.tab).1 hf
    exact fieldsT_any a.tab none 6 B w tb es hwf f1 f2 hm hpf
theorem size_zz : (Tryz.prog.info? 171).map (·.size) = some 4 := by kernel_rfl
theorem size_iMeth : (Tryz.prog.info? 27).map (·.size) = some 3 := by kernel_rfl
theorem ownIArg : (Tryz.prog.info? 74).map (fun i => (i.zero.map (·.cells.size), i.size, i.bytes)) = some (some 4, 4, 56) := by kernel_rfl
theorem results_imeth {tmps : Array Value} {g : Nat} {cs : Array Value} {ok : Bool} {w : World} (h : tmps.getD 2 undef = .pointer (some ⟨g, 0, none⟩)) (h3 : tmps.getD 3 undef = .bool ok) (hg : Blk w g cs 27) (hs : cs.size = 3) :
    (results Tryz.f46 tmps).run Tryz.prog w = .ok (.tuple #[.agg cs, .bool ok]) w := by
  have hl := run_loadVar_row (P := Tryz.prog) w g 27 27 cs (0, 0) _ hg Tryz.underlying27 rfl (by rw [hs]; exact size_iMeth)
  simp only [Array.getD_eq_getD_getElem?] at h h3
  simp [results, Tryz.results46, h, h3, asAddr, hl]
set_option maxHeartbeats 1000000 in
set_option maxRecDepth 100000 in
theorem imethod_any (B : Nat → Prop) (w : World) (m : Value) (c n : Nat) (args : List MArg) (hc : c < 65536) (hn : n < 65536) (hm : MsgOk B w m c n args) (hB : ∀ b, B b → b < w.heap.size) (hl : args.length ≤ 100) :
    Calls Tryz.prog 46 #[m] w fun e w' => ∃ out, e = .returned (.tuple #[.agg #[.int .i64 (c : Int), .int .i64 (n : Int), out], .bool true]) ∧ ASl (fun b => w.heap.size ≤ b) w' out (args.map normA) ∧ Kept [] w w' := by
  have hwc : IntKind.i64.wrap (c : Int) = c := by rw [IntKind.wrap_i64]; omega
  have hwn : IntKind.i64.wrap (n : Int) = n := by rw [IntKind.wrap_i64]; omega
  obtain ⟨i, z, i1, i2, i3, i4, i5⟩ := info_own ownIArg
  have HI := Lib.hid (And.intro i1 (And.intro i2 (And.intro i3 (And.intro i4 i5)))); clear i1 i2 i3 i4 i5
  have hid := fun w' (hk : Kept [] w w') => (hm [] w' (by simp) hk).1
  have har := fun w' (hk : Kept [] w w') => (hm [] w' (by simp) hk).2
  have H := Lib.hid (And.intro hid (And.intro har hB))
  have hln : (args.length : Int) ≤ 100 := by omega
  clear hc hn hm hB hid har hl
  go_enter Tryz.func46, Tryz.ntmps46
  go_wp2_with (first
    | (go_at_call 65; have hq := H.out.1 _ ((Kept.refl [] w).alloc (.cells #[.int .i64 0, .int .i64 0, .slice none 0 0] 27)); refine hq.mono ?_; clear hq; rintro e w1 ⟨rfl, rfl⟩)
    | (refine wpList_store_row (P := Tryz.prog) rfl rfl 27 (.tmp 6) (.tmp 20) rfl (w.heap.size + 1) rfl 27 _ [.int .i64 (c : Int), .int .i64 (n : Int), .slice none 0 0] (Blk.new_at (by simp)) rfl rfl (by simp [Value.oneCell']) size_iMeth ?_; intro w2 hb2 hk2; have hr2 : Blk w2 w.heap.size #[.int .i64 0, .int .i64 0, .slice none 0 0] 27 := ((Blk.new w _ _).alloc _).kept hk2 (by simp); have hkw : Kept [] w w2 := (((Kept.refl [] w).alloc _).alloc _).trans hk2 (fun x hx => .inr (by simp at hx; omega)); have H2 := Lib.hid (And.intro hb2 (And.intro hr2 hkw)); clear hb2 hk2 hr2 hkw)
    | (go_at_call 66; have hq := H.out.2.1 _ H2.out.2.2; refine hq.mono ?_; clear hq; rintro e w3 ⟨zo, rfl, z1, z2⟩; obtain ⟨zao, zc, rfl, z3, z4⟩ := z1; have H3 := Lib.hid (And.intro z2 (And.intro z3 z4)); clear z2 z3 z4))
  go_loopw [24] (fun i W => ∃ (k : Nat) (av : Value), i = .int .i64 (k : Int) ∧ k ≤ args.length ∧ Hid (Blk W (w.heap.size + 1) #[.int .i64 (c : Int), .int .i64 (n : Int), av] 27 ∧ OwnE 74 4 AHeld w3.heap.size W av ((args.take k).map normA) ∧ Kept [w.heap.size + 1] w3 W)) (fun i _ => args.length - (intOf i).toNat)
  case atStart => exact ⟨0, _, rfl, Nat.zero_le _, Lib.hid ⟨H2.out.1.kept H3.out.1 (by simp), by rw [List.take_zero]; exact OwnE.nil _ _ _ _ _, Kept.refl _ _⟩⟩
  case round =>
    obtain ⟨k, av, rfl, hkl, HR⟩ := hrel
    have hw2 : w.heap.size + 1 < w2.heap.size := H2.out.1.lt
    have hw3 := H3.out.1.size
    have HW := Lib.hid (And.intro hw2 hw3); clear hw2 hw3
    by_cases hlt : k < args.length
    · obtain ⟨a, hx⟩ : ∃ a, args[k]? = some a := ⟨_, List.getElem?_eq_getElem hlt⟩
      obtain ⟨g, tv, rfl, hg1, hg2, htv, hcs⟩ := H3.out.2.2 k a hx
      have hgb : g ∉ [w.heap.size + 1] := by have := HW.out.1; simp; omega
      have hcs' : ∀ j u, (zzCells a tv)[j]? = some u → wr.cell? ((⟨g, k * 4, none⟩ : Addr).add j) = some u := fun j u hj => by rw [addr_add]; exact HR.out.2.2.cell (hcs j u hj) hgb
      have htv' : TvAt B wr a tv := htv.kept HR.out.2.2 (fun b hb => by have := H.out.2.2 b hb; simp; omega)
      obtain ⟨cells, o1, o2, o3⟩ := HR.out.2.1
      have hmm : ((args.take k).map normA).length = k := by rw [List.length_map, List.length_take]; omega
      obtain ⟨kao, koc, rfl, hkoc, hoo⟩ := own_slice o1
      have hol : ∀ g, Value.ownBlock (.slice kao ((args.take k).map normA).length koc) = some g → g < wr.heap.size := fun g hg => own_lt o1 hg
      have hlt' : (k : Int) < args.length := by omega
      have hb1 := HR.out.1
      have o3r := o3
      rw [hmm] at hb1 hol o3
      have l0 : wr.cell? ⟨w.heap.size + 1, 0, none⟩ = some (.int .i64 (c : Int)) := hb1.cell 0
      have l2 : wr.cell? ⟨w.heap.size + 1, 2, none⟩ = some (.slice kao k koc) := hb1.cell 2
      have HX := Lib.hid (And.intro hx (And.intro o1 (And.intro o2 (And.intro o3 (And.intro hol o3r)))))
      have HB1 := Lib.hid hb1
      have HC := Lib.hid (And.intro hcs' htv')
      clear hx o1 o2 o3 o3r hol hkoc hoo hb1 hcs hcs' htv htv' hg1 hg2 hgb
      go_wp2_with (first
        | (refine wpList_load_cells rfl 171 (.tmp 26) rfl _ rfl (zzCells a tv) HC.out.1 _ Tryz.underlying171 rfl size_zz ?_)
        | (refine wpList_store_row (P := Tryz.prog) rfl rfl 171 (.tmp 8) (.tmp 27) rfl wr.heap.size rfl 171 _ (zzCells a tv) (Blk.new wr _ _) rfl rfl (HC.out.2.cells_one) size_zz ?_; intro w4 hb4 hk4;
           have hkA : Kept [] wr w4 := ((Kept.refl [] wr).alloc _).trans hk4 (S' := [wr.heap.size]) (fun x hx => .inr (by simp at hx; omega));
           have q3 : w4.cell? ⟨wr.heap.size, 3, none⟩ = some tv := hb4.cell 3;
           have H4 := Lib.hid (And.intro hb4 hkA); clear hb4 hk4 hkA)
        | (go_at_call 67; refine (tv_fields B w4 a tv (HC.out.2.kept H4.out.2 (by simp))).mono ?_; rintro e w5 ⟨out, rfl, v1, v2⟩; obtain ⟨fa, fc, rfl, _⟩ := id v1;
           have hb5 := H4.out.1.kept v2 (by simp);
           have r0 : w5.cell? ⟨wr.heap.size, 0, none⟩ = some (.int .i64 a.kind) := hb5.cell 0;
           have r1 : w5.cell? ⟨wr.heap.size, 1, none⟩ = some (.int .u64 (a.n : Int)) := hb5.cell 1;
           have r2 : w5.cell? ⟨wr.heap.size, 2, none⟩ = some (.string (bstr a.text)) := hb5.cell 2;
           have hkB : Kept [] wr w5 := H4.out.2.trans v2 (by simp);
           have m5 : w5.cell? ⟨w.heap.size + 1, 2, none⟩ = some (.slice kao k koc) := (HB1.out.kept hkB (by simp)).cell 2;
           have hkC : Kept [] wr (w5.alloc (.cells #[.int .i64 a.kind, .int .u64 (a.n : Int), .string (bstr a.text), .slice fa (normFs a.tab).length fc] 74)) := hkB.alloc _;
           have hmv := own_move bears_arg HX.out.2.1 HX.out.2.2.1 HX.out.2.2.2.2.2 (S := []) (fun b hb => by simp) hkC; rw [hmm] at hmv;
           have H5 := Lib.hid (And.intro v1 (And.intro v2 (And.intro hkC hmv))); clear v1 v2 hb5 hkB hkC hmv)
        | (at_builtin; refine wpList_append2 _ rfl _ _ 25 25 rfl 74 74 Tryz.underlying25 i z 4 56 Tryz.underlying25 HI.out.1 HI.out.2.1 HI.out.2.2.1 HI.out.2.2.2.1 HI.out.2.2.2.2 (by decide) (.slice kao k koc) k cells rfl H5.out.2.2.2.1 ⟨w5.heap.size, 0, none⟩ 1 1 [.int .i64 a.kind, .int .u64 (a.n : Int), .string (bstr a.text), .slice fa (normFs a.tab).length fc] rfl rfl (cells_new w5 _ _) (by intro u hu; simp only [List.mem_cons, List.mem_nil_iff, or_false] at hu; rcases hu with rfl | rfl | rfl | rfl <;> rfl) (by omega) (by omega) ?_; intro v' w8 g1 g2 g3;
           have hb8 := (HB1.out.kept H5.out.2.2.1 (by simp)).kept ((Kept.refl (Value.ownBlock (.slice kao k koc)).toList _).grown g2 (fun k hk => .inl (by simp [hk]))) (fun hm => by have := HX.out.2.2.2.1 _ (by simpa using hm); have := HW.out.1; have := HW.out.2; omega);
           have m8 : w8.cell? ⟨w.heap.size + 1, 2, none⟩ = some (.slice kao k koc) := hb8.cell 2; have f8 := hb8.free 2;
           obtain ⟨vo, vc, rfl, _, _⟩ := own_slice g1;
           have H8 := Lib.hid (And.intro g1 (And.intro g2 (And.intro g3 hb8))); clear g1 g2 g3 hb8))
      go_roundw
      case rel =>
        have hwr := HR.out.2.2.size
        have hw4 := H4.out.2.size
        have hnx : AHeld (fun b => w3.heap.size ≤ b ∧ Value.ownBlock (.slice kao k koc) ≠ some b) (w5.alloc (.cells #[.int .i64 a.kind, .int .u64 (a.n : Int), .string (bstr a.text), .slice fa (normFs a.tab).length fc] 74)) [.int .i64 a.kind, .int .u64 (a.n : Int), .string (bstr a.text), .slice fa (normFs a.tab).length fc] (normA a) :=
          ⟨_, rfl, FSl.kept (S := []) (FSl.mono H5.out.1 (fun b hb _ => ⟨by omega, fun e => by have := HX.out.2.2.2.2.1 b e; omega⟩)) ((Kept.refl [] w5).alloc _) (by simp)⟩
        obtain ⟨p1, p2⟩ := OwnE.push (xs := (args.take k).map normA) bears_arg H5.out.2.2.2.2 HX.out.2.2.2.1 (by have := H5.out.2.2.1.size; omega) hnx (by rw [hmm]; exact H8.out.1) H8.out.2.1 H8.out.2.2.1
        have htk : (args.take (k + 1)).map normA = (args.take k).map normA ++ [normA a] := by rw [List.take_add_one, HX.out.1, List.map_append]; rfl
        rw [← htk] at p1
        have hks : Kept [w.heap.size + 1] w8 (w8.setCell ⟨w.heap.size + 1, 2, none⟩ (.slice vo (k + 1) vc)) := (Kept.refl _ w8).setCell (by simp) _
        refine ⟨k + 1, _, rfl, by omega, Lib.hid ⟨by simpa using H8.out.2.2.2.setCell 2 (.slice vo (k + 1) vc), p1.kept bears_arg hks (fun b hb => by have := HW.out.1; have := HW.out.2; simp; omega), ?_⟩⟩
        exact ((HR.out.2.2.trans H5.out.2.2.1 (by simp)).trans p2 (fun x hx => .inr (HX.out.2.2.2.1 x (by simpa using hx)))).trans hks (fun x hx => .inl hx)
      case measure => simp [intOf]; omega
    · have hkm : k = args.length := by omega
      subst hkm
      have hb1 := HR.out.1
      have hrb : Blk wr w.heap.size #[.int .i64 0, .int .i64 0, .slice none 0 0] 27 := (H2.out.2.1.kept H3.out.1 (by simp)).kept HR.out.2.2 (by simp)
      have hasl := HR.out.2.1.asl
      rw [List.take_length] at hasl
      have hone := hasl.one
      have HE := Lib.hid (And.intro hb1 (And.intro hrb (And.intro hasl hone))); clear hb1 hrb hasl hone
      go_wp2_with (first
        | (refine wpList_load_row (P := Tryz.prog) rfl 27 (.tmp 6) rfl (w.heap.size + 1) rfl 27 #[.int .i64 (c : Int), .int .i64 (n : Int), av] HE.out.1 _ Tryz.underlying27 rfl size_iMeth ?_)
        | (refine wpList_store_row (P := Tryz.prog) rfl rfl 27 (.tmp 2) (.tmp 51) rfl w.heap.size rfl 27 _ [.int .i64 (c : Int), .int .i64 (n : Int), av] HE.out.2.1 rfl rfl (by intro u hu; simp only [List.mem_cons, List.mem_nil_iff, or_false] at hu; rcases hu with rfl | rfl | rfl; rfl; rfl; exact HE.out.2.2.2) size_iMeth ?_; intro w9 hb9 hk9; have HB9 := Lib.hid (And.intro hb9 hk9); clear hb9 hk9))
      refine bodyPost_ret (v := .tuple #[.agg #[.int .i64 (c : Int), .int .i64 (n : Int), av], .bool true]) (results_imeth rfl rfl HB9.out.1 rfl) rfl ⟨_, rfl, ?_, ?_⟩
      · have := HW.out.1
        have := HW.out.2
        exact (HE.out.2.2.1.kept HB9.out.2 (fun b hb => by have hb : w3.heap.size ≤ b := hb; simp; omega)).mono (fun b hb _ => by have hb : w3.heap.size ≤ b := hb; omega)
      · exact (((H2.out.2.2.trans H3.out.1 (by simp)).trans HR.out.2.2 (fun x hx => .inr (by simp at hx; omega))).trans HB9.out.2 (fun x hx => .inr (by simp at hx; omega)))
/-- What the parse of a method's frame gives. -/
def PmRes (w : World) (ch c m : Nat) (args : List MArg) (F : Value) (w' : World) : Prop :=
  ∃ mf MSG, F = .iface 124 (.pointer (some ⟨mf, 0, none⟩)) ∧ w.heap.size ≤ mf ∧ Blk w' mf #[.int .u16 (ch : Int), .int .u16 (c : Int), .int .u16 (m : Int), MSG] 130 ∧ MsgOk (fun x => w.heap.size ≤ x ∧ x < w'.heap.size) w' MSG c m args
theorem MS.drew {w0 w : World} {b d msg : Nat} {T : TypeId} {loc : List (Nat × Value)} {tabs : List (Value × List Fld)} {cells : List Value} {bs : List UInt8} (h : MS w0 b d msg T loc tabs cells bs w) : MS w0 b d msg T loc tabs cells bs w.drew :=
  h.call ((Kept.refl _ w).drew) (h.rd.kept ((Kept.refl [] w).drew) (by simp) (by simp)) (Nat.le_refl _)
theorem RS.rd {w : World} {rr mb b d : Nat} {l : List UInt8} (h : RS w rr mb b d l) : Rd w (bufR b) [b] d [] l := .buf b d l h.buf h.bd
/-- The method's frame, laid. -/
theorem pm_start {w : World} {rr mb b d : Nat} {bs : List UInt8} (h : RS w rr mb b d bs) (hl : bs.length ≤ 900000000) (cells : List Value) (T : TypeId) :
    MS (w.alloc (.cells cells.toArray T)) b d w.heap.size T [] [] cells bs (w.alloc (.cells cells.toArray T)) := by
  have hk : Kept [] w (w.alloc (.cells cells.toArray T)) := (Kept.refl [] w).alloc _
  have h1 := h.blt; have h2 := h.dlt
  exact MS.start (h.rd.kept hk (by simp) (by simp)) (Blk.new w _ _) (by omega) (by omega) (Nat.lt_of_lt_of_le h.dlt hk.size) hl
/-- The reader's own variable stays. -/
theorem pm_rr {w w1 : World} {rr mb b d : Nat} {l bs : List UInt8} (h : RS w rr mb b d l) {T : TypeId} {loc : List (Nat × Value)} {tabs : List (Value × List Fld)} {cells cells0 : List Value} (hm : MS (w.alloc (.cells cells0.toArray T)) b d w.heap.size T loc tabs cells bs w1) :
    w1.cell? ⟨rr, 0, none⟩ = some (bufR b) := by
  have h0 : w.cell? ⟨rr, 0, none⟩ = some (bufR b) := h.blk.cell 0
  have hlt := h.blk.lt
  exact hm.kept.cell (((Kept.refl [] w).alloc _).cell h0 (by simp)) (by have := h.rb; simp; omega)
/-- The message, laid behind. -/
theorem pm_msg {w w3 : World} {rr mb b d : Nat} {l bs : List UInt8} (h : RS w rr mb b d l) {T T' : TypeId} {loc : List (Nat × Value)} {tabs : List (Value × List Fld)} {cells cells0 : List Value} (hm : MS (w.alloc (.cells cells0.toArray T)) b d w.heap.size T loc tabs cells bs w3) (zero : List Value) :
    MS (w3.alloc (.cells zero.toArray T')) b d w3.heap.size T' [] [] zero bs (w3.alloc (.cells zero.toArray T')) := by
  have hk : Kept [] w3 (w3.alloc (.cells zero.toArray T')) := (Kept.refl [] w3).alloc _
  have h1 := hm.blt; have h2 := hm.dlt; have h3 := hm.kept.size
  exact MS.start (hm.rd.kept hk (by simp) (by simp)) (Blk.new w3 _ _) (by omega) (by omega) (by have := hk.size; omega) hm.sz
/-- The method's frame behind the message's reading. -/
theorem pm_frame {w w3 w5 : World} {rr mb b d : Nat} {l bs rest : List UInt8} (h : RS w rr mb b d l) {T T' : TypeId} {loc loc' : List (Nat × Value)} {tabs tabs' : List (Value × List Fld)} {cells cells0 zero cells' : List Value}
    (hm : MS (w.alloc (.cells cells0.toArray T)) b d w.heap.size T loc tabs cells bs w3) (hm' : MS (w3.alloc (.cells zero.toArray T')) b d w3.heap.size T' loc' tabs' cells' rest w5) :
    Blk w5 w.heap.size cells.toArray T ∧ Kept [b] w w5 := by
  have h1 := hm.blt; have h2 := hm.dlt; have h3 := hm.kept.size; have h4 := hm.mlt; have h5 := h.blt
  have hz : (w.alloc (.cells cells0.toArray T)).heap.size = w.heap.size + 1 := by simp
  refine ⟨(hm.blk.alloc _).kept hm'.kept (by simp; omega), ?_⟩
  refine (((((Kept.refl [] w).alloc _).mono (S' := [b]) (by simp)).trans hm.kept (fun x hx => ?_)).alloc _).trans hm'.kept (fun x hx => ?_)
  · simp at hx ⊢; omega
  · simp at hx ⊢; omega
theorem pm_fin {w w5 : World} {rr mb b d : Nat} {l rest : List UInt8} (h : RS w rr mb b d l) (hk : Kept [b] w w5) (hr : Rd w5 (bufR b) [b] d [] rest) {ch c m MSG : Value} (hf : Blk w5 w.heap.size #[ch, c, m, .nilIface] 130) :
    RS (w5.setCell ⟨w.heap.size, 3, none⟩ MSG) rr mb b d rest ∧ Kept [b] w (w5.setCell ⟨w.heap.size, 3, none⟩ MSG) ∧ Blk (w5.setCell ⟨w.heap.size, 3, none⟩ MSG) w.heap.size #[ch, c, m, MSG] 130 := by
  have hks : Kept [w.heap.size] w5 (w5.setCell ⟨w.heap.size, 3, none⟩ MSG) := (Kept.refl _ w5).setCell (by simp) _
  have h1 := h.blk.lt; have h2 := h.max.lt; have h3 := h.dlt; have h4 := h.blt
  refine ⟨?_, hk.trans hks (by simp), ?_⟩
  · have hb : Buf (w5.setCell ⟨w.heap.size, 3, none⟩ MSG) b d rest := hr.buf_inv.kept hks (by simp; omega) (by simp; omega)
    exact RS.step h (hk.trans hks (S' := [w.heap.size]) (by simp)) (by have := h.rb; simpa using this) (by have := h.mb'; simpa using this) hb
  · simpa using hf.setCell 3 MSG
/-- A method's forty cells. -/
def methCells (ch c m : Nat) (s : Value) : List Value := ((((frame0.set 1 (.int .i64 (ch : Int))).set 0 (.int .i64 1)).set 2 (.int .i64 (c : Int))).set 3 (.int .i64 (m : Int))).set 4 s
theorem meth_length (ch c m : Nat) (s : Value) : (methCells ch c m s).length = 40 := rfl
theorem meth_one (ch c m : Nat) (s : Value) (hs : s.oneCell' = true) : ∀ u ∈ methCells ch c m s, u.oneCell' = true := by
  intro u hu
  rcases List.mem_or_eq_of_mem_set hu with h | h
  · rcases List.mem_or_eq_of_mem_set h with h | h
    · rcases List.mem_or_eq_of_mem_set h with h | h
      · rcases List.mem_or_eq_of_mem_set h with h | h
        · rcases List.mem_or_eq_of_mem_set h with h | h
          · exact frame0_one u h
          · subst h; rfl
        · subst h; rfl
      · subst h; rfl
    · subst h; rfl
  · subst h; exact hs
/-- A store of three cells into a row. -/
theorem wpList_store_three {P : Program} {ops : Array Oper} {rest : List Oper} {o : Oper} {a : Act} {w : World} {Q : Exit → Act → World → Prop} (hgd : o.guard = none) (hdst : o.dst = none) (ty : TypeId) (x y : Operand) (ho : o.op = .store ty x y)
    (g i : Nat) (hx : a.eval x = .pointer (some ⟨g, i, none⟩)) (t : TypeId) (cs : List Value) (hg : Blk w g cs.toArray t) (hi : i + 3 ≤ cs.length) (v0 v1 v2 : Value) (hy : a.eval y = .agg #[v0, v1, v2]) (h0 : v0.oneCell' = true) (h1 : v1.oneCell' = true) (h2 : v2.oneCell' = true)
    (hs : (P.info? ty).map (·.size) = some 3) (h : ∀ w', Blk w' g (((cs.set i v0).set (i + 1) v1).set (i + 2) v2).toArray t → Kept [g] w w' → wpList P ops Q rest a w') : wpList P ops Q (o :: rest) a w := by
  refine wpList_store_mid hgd ty x y ho g i #[v0, v1, v2] hx hy (fun j hj => ⟨?_, hg.free _⟩) hs ?_ ?_
  · rw [hg.cell]
    have : j < 3 := hj
    simp; omega
  · simp [h0, h1, h2]
  · have e : w.setCells g i (#[v0, v1, v2] : Array Value).toList = ((w.setCell ⟨g, i, none⟩ v0).setCell ⟨g, i + 1, none⟩ v1).setCell ⟨g, i + 1 + 1, none⟩ v2 := rfl
    rw [e, hdst]
    exact h _ (((hg.setCell_list i v0).setCell_list (i + 1) v1).setCell_list (i + 2) v2) ((((Kept.refl [g] w).setCell (by simp) _).setCell (by simp) _).setCell (by simp) _)
theorem method_chMeth (k : Nat) (a : Addr) (w : World) : (method (k + 1) 124 (.pointer (some a)) "amqp091/pub/amqp091.channel").run Tryz.prog w = .ok (239, .pointer (some a)) w := by kernel_rfl
theorem nilAhead_chMeth (k : Nat) (a : Addr) (w : World) : (nilAhead (k + 1) 124 (.pointer (some a)) "amqp091/pub/amqp091.channel").run Tryz.prog w = .ok (some false) w := by kernel_rfl
set_option maxHeartbeats 400000 in
theorem channel_meth (p ch : Nat) (w : World) (hp : w.cell? ⟨p, 0, none⟩ = some (.int .u16 (ch : Int))) :
    Calls Tryz.prog 45 #[.iface 124 (.pointer (some ⟨p, 0, none⟩))] w fun e w' => e = .returned (.int .u16 (ch : Int)) ∧ w = w' := by
  have hm1 := method_chMeth
  have hm2 := nilAhead_chMeth
  go_enter Tryz.func45, Tryz.ntmps45
  go_wp2
  go_ret
  exact ⟨rfl, rfl⟩
set_option maxHeartbeats 1000000 in
set_option maxRecDepth 100000 in
theorem frame_meth0 (p ch c m : Nat) (MSG : Value) (args : List MArg) (B : Nat → Prop) (w : World) (hch : ch ≤ 65535) (hc : c < 65536) (hm : m < 65536) (hp : Blk w p #[.int .u16 (ch : Int), .int .u16 (c : Int), .int .u16 (m : Int), MSG] 130)
    (hmsg : MsgOk B w MSG c m args) (hB : ∀ b, B b → b < w.heap.size) (hl : args.length ≤ 100) (F0 F1 : List Value) (F2 : Value → List Value)
    (k0 : ∀ w : World, (Instr.alloc 35 true (.tuple #[])).run Tryz.prog w = .ok (.pointer (some ⟨w.heap.size, 0, none⟩)) (w.alloc (.cells F0.toArray 35)))
    (k1 : ∀ w, (Instr.build 35 #[(1, .int .i64 (ch : Int))]).run Tryz.prog w = .ok (.agg F1.toArray) w) (l0 : F0.length = 40) (l1 : F1.length = 40) (o1 : ∀ u ∈ F1, u.oneCell' = true)
    (z1 : F1.toArray[0]? = some (.int .i64 0)) (z2 : F1.toArray[2]? = some (.int .i64 0)) (z3 : F1.toArray[3]? = some (.int .i64 0)) (z4 : F1.toArray[4]? = some (.slice none 0 0))
    (k2 : ∀ s, (((F1.set 0 (.int .i64 1)).set 2 (.int .i64 (c : Int))).set 3 (.int .i64 (m : Int))).set 4 s = F2 s) (o2 : ∀ s, s.oneCell' = true → ∀ u ∈ F2 s, u.oneCell' = true) :
    Calls Tryz.prog 25 #[.iface 124 (.pointer (some ⟨p, 0, none⟩))] w fun e w' => ∃ out, e = .returned (.tuple #[.agg (F2 out).toArray, .bool true]) ∧ ASl (fun b => w.heap.size ≤ b) w' out (args.map normA) ∧ Kept [] w w' := by
  have e2 : IntKind.i64.wrap (ch : Int) = ch := by rw [IntKind.wrap_i64]; omega
  have l2 : ∀ s, (F2 s).length = 40 := fun s => by rw [← k2 s]; simp [l1]
  have s1 : (Tryz.prog.info? 35).map (·.size) = some F1.length := by rw [l1]; exact frame_size
  have s2 : ∀ s, (Tryz.prog.info? 35).map (·.size) = some (F2 s).length := fun s => by rw [l2]; exact frame_size
  have s3 : ∀ s, (Tryz.prog.info? 35).map (·.size) = some (F2 s).toArray.size := s2
  have m1 : F1.length = F0.length := by rw [l1, l0]
  have m2 : ∀ s, (F2 s).length = F0.length := fun s => by rw [l2, l0]
  have hpl := hp.lt
  have hmeth := fun (w' : World) (hk : Kept [] w w') => imethod_any B w' MSG c m args hc hm (hmsg.kept hk (by simp)) (fun b hb => Nat.lt_of_lt_of_le (hB b hb) hk.size) hl
  have t1 := ta_meth_meth
  have HP := Lib.hid hp; have HMM := Lib.hid hmeth; have HPL := Lib.hid hpl; have K0 := Lib.hid k0; have K1 := Lib.hid k1; have O1 := Lib.hid o1; have O2 := Lib.hid o2; have Z1 := Lib.hid (And.intro z1 (And.intro z2 (And.intro z3 z4))); have K2 := Lib.hid k2; have L1 := Lib.hid l1; have M1 := Lib.hid m1; have M2 := Lib.hid m2; have S1 := Lib.hid s1; have S2 := Lib.hid s2; have S3 := Lib.hid s3
  clear hp hmsg hB hl hc hm hmeth hpl k0 k1 l0 l1 l2 o1 o2 z1 z2 z3 z4 k2 m1 m2 s1 s2 s3
  go_enter Tryz.func25, Tryz.ntmps25
  go_wp2_with (first
    | (refine wpList_alloc rfl 2 rfl 35 rfl F0.toArray (K0.out _) ?_; intro w1 h1 h2 h3; have H1 := Lib.hid (And.intro h1 (And.intro h2 h3)); clear h1 h2 h3)
    | (refine wpList_alloc rfl 4 rfl 35 rfl F0.toArray (K0.out _) ?_; intro w2 h1 h2 h3; have H2 := Lib.hid (And.intro h1 (And.intro h2 h3)); clear h1 h2 h3)
    | (go_at_call 45; refine (channel_meth p ch _ (H1.out.2.1.cell (HP.out.cell 0) (by simp))).mono ?_; rintro e w2 ⟨rfl, rfl⟩)
    | (refine wpList_build rfl 35 #[(1, .tmp 13)] rfl #[(1, .int .i64 (ch : Int))] (by simp [Act.eval]) _ (K1.out _) ?_)
    | (refine wpList_store_row (P := Tryz.prog) rfl rfl 35 (.tmp 4) (.tmp 14) rfl w1.heap.size rfl 35 F0 F1 H2.out.1 rfl M1.out O1.out S1.out ?_; intro w3 g1 g2; have k3 : Kept [] w w3 := (H1.out.2.1.trans H2.out.2.1 (S := []) (S' := []) (by simp)).trans g2 (S' := [w1.heap.size]) (fun x hx => .inr (by have := H1.out.2.2; simp at hx; omega)); have hw1 : p ≠ w1.heap.size := by { have := HPL.out; have := H1.out.2.2; omega }; have p3 : w3.cell? ⟨p, 3, none⟩ = some MSG := k3.cell (HP.out.cell 3) (by simp); have q0 : w3.cell? ⟨w1.heap.size, 0, none⟩ = some (.int .i64 0) := (g1.cell 0).trans Z1.out.1; have f0 := g1.free 0; have HG := Lib.hid (And.intro g1 g2); have HK3 := Lib.hid k3; clear g1 g2 k3)
    | (go_at_call 46; have hq := HMM.out _ (HK3.out.setCell (p := ⟨w1.heap.size, 0, none⟩) (.inr (by have := H1.out.2.2; simp only []; omega)) (.int .i64 1)); refine hq.mono ?_; clear hq; rintro e w5 ⟨out, rfl, a1, a2⟩; have b5 := (HG.out.1.setCell_list 0 (.int .i64 1)).kept a2 (by simp);
       obtain ⟨oa, oc, rfl, _⟩ := id a1; rw [List.length_map] at a1 ⊢;
       have H5 := Lib.hid (And.intro a1 (And.intro a2 b5)); clear a1 a2 b5)
    | (refine wpList_store_three (P := Tryz.prog) rfl rfl 27 (.tmp 28) (.tmp 26) rfl w1.heap.size 2 rfl 35 (F1.set 0 (.int .i64 1)) H5.out.2.2 (by rw [List.length_set, L1.out]; decide) (.int .i64 (c : Int)) (.int .i64 (m : Int)) (.slice oa args.length oc) rfl rfl rfl rfl size_iMeth ?_; intro w6 g1 g2; have b6 : Blk w6 w1.heap.size (F2 (.slice oa args.length oc)).toArray 35 := by { rw [← K2.out]; exact g1 }; have H6 := Lib.hid (And.intro b6 g2); clear g1 g2 b6)
    | (refine wpList_load_row (P := Tryz.prog) rfl 35 (.tmp 4) rfl w1.heap.size rfl 35 (F2 (.slice oa args.length oc)).toArray H6.out.1 _ Tryz.underlying35 rfl (S3.out _) ?_)
    | (refine wpList_store_row (P := Tryz.prog) rfl rfl 35 (.tmp 2) (.tmp 68) rfl w.heap.size rfl 35 F0 (F2 (.slice oa args.length oc)) ((((((H1.out.1.kept H2.out.2.1 (by simp)).kept HG.out.2 (nin1 (by have := H1.out.2.2; omega))).setCell_other (by simp only []; have := H1.out.2.2; omega) _).kept H5.out.2.1 (by simp)).kept H6.out.2 (nin1 (by have := H1.out.2.2; omega)))) rfl (M2.out _) (O2.out _ rfl) (S2.out _) ?_; intro w7 g1 g2; have H7 := Lib.hid (And.intro g1 g2); clear g1 g2))
  have hb := H1.out.2.2
  have hk4 : Kept [] w (w3.setCell ⟨w1.heap.size, 0, none⟩ (.int .i64 1)) := HK3.out.setCell (p := ⟨w1.heap.size, 0, none⟩) (.inr (by simp only []; omega)) _
  have hk6 : Kept [w1.heap.size, w.heap.size] w5 w7 := (H6.out.2.mono (S' := [w1.heap.size, w.heap.size]) (fun x hx => .inl (by simp at hx; simp [hx]))).trans H7.out.2 (fun x hx => .inl (by simp at hx; simp [hx]))
  refine bodyPost_ret (v := .tuple #[.agg (F2 (.slice oa args.length oc)).toArray, .bool true]) (results_frame rfl rfl H7.out.1 (S3.out _)) rfl ⟨_, rfl, ?_, ?_⟩
  · have hsz := hk4.size
    have h3 : w1.heap.size < w3.heap.size := Nat.lt_of_lt_of_le H2.out.2.2 HG.out.2.size
    have h4 : (w3.setCell ⟨w1.heap.size, 0, none⟩ (.int .i64 1)).heap.size = w3.heap.size := by simp [World.setCell]
    exact (H5.out.1.kept hk6 (fun b hb => by have hb : (w3.setCell ⟨w1.heap.size, 0, none⟩ (.int .i64 1)).heap.size ≤ b := hb; simp; omega)).mono (fun b hb _ => by have hb : (w3.setCell ⟨w1.heap.size, 0, none⟩ (.int .i64 1)).heap.size ≤ b := hb; omega)
  · exact (hk4.trans H5.out.2.1 (by simp)).trans hk6 (fun x hx => .inr (by simp at hx; omega))
theorem frame_meth (p ch c m : Nat) (MSG : Value) (args : List MArg) (B : Nat → Prop) (w : World) (hch : ch ≤ 65535) (hc : c < 65536) (hm : m < 65536) (hp : Blk w p #[.int .u16 (ch : Int), .int .u16 (c : Int), .int .u16 (m : Int), MSG] 130)
    (hmsg : MsgOk B w MSG c m args) (hB : ∀ b, B b → b < w.heap.size) (hl : args.length ≤ 100) :
    Calls Tryz.prog 25 #[.iface 124 (.pointer (some ⟨p, 0, none⟩))] w fun e w' => ∃ out, e = .returned (.tuple #[.agg (methCells ch c m out).toArray, .bool true]) ∧ ASl (fun b => w.heap.size ≤ b) w' out (args.map normA) ∧ Kept [] w w' :=
  frame_meth0 p ch c m MSG args B w hch hc hm hp hmsg hB hl frame0 (frame0.set 1 (.int .i64 (ch : Int))) (methCells ch c m) alloc_frame (fun w => build_frame1 (ch : Int) w) rfl rfl (frame1_one ch) rfl rfl rfl rfl (fun _ => rfl) (meth_one ch c m)
/-- The parse of the payloads of a method. -/
def PmC (c m : Nat) (l : List UInt8) : Prop := ∀ (args : List MArg), properGo l args = true → (∀ a ∈ args, WfA a) → ∀ (rest : List UInt8) (ch sz : Nat) (w : World) (rr mb b d : Nat), RS w rr mb b d (methodB c m l args ++ rest) → (methodB c m l args ++ rest).length ≤ 900000000 →
  Calls Tryz.prog 60 #[.pointer (some ⟨rr, 0, none⟩), .int .u16 (ch : Int), .int .u32 (sz : Int)] w fun e w' => ∃ F, e = .returned (.tuple #[F, .nilIface]) ∧ Parsed rr mb b d rest (PmRes w ch c m args) F w w'
/-- What the reading of a method's frame gives. -/
def MethGot (ch c m : Nat) (args : List MArg) (k : Nat) (base : Nat) (cs : List Value) (n : Nat) (w2 : World) : Prop :=
  n = k ∧ ∃ out, cs = methCells ch c m out ∧ ASl (fun b => base ≤ b) w2 out (args.map normA)
theorem frameB1_behind (ch : Nat) (p behind : List UInt8) : frameB 1 ch p ++ behind = 1 :: UInt8.ofNat (ch / 256) :: UInt8.ofNat ch :: UInt8.ofNat (p.length / 16777216) :: UInt8.ofNat (p.length / 65536) :: UInt8.ofNat (p.length / 256) :: UInt8.ofNat p.length :: (p ++ (206 :: behind)) := by
  rw [frameB_head]; simp
theorem got_meth {c m : Nat} {l : List UInt8} (hpm : PmC c m l) (args : List MArg) (hp : properGo l args = true) (hwf : ∀ a ∈ args, WfA a) (ch : Nat) (hch : ch ≤ 65535) (hc : c < 65536) (hm : m < 65536) (hlen : (methodB c m l args).length ≤ 1000000) (hal : args.length ≤ 100)
    (behind : List UInt8) (hbl : behind.length ≤ 100) (s : Value) (d0 : Nat) (w : World) (hs : BytesAt w s d0 (frameB 1 ch (methodB c m l args) ++ behind)) : FrameGot s w (MethGot ch c m args behind.length) := by
  unfold FrameGot
  refine (zzread_any s d0 _ w hs (by rw [List.length_append, frameB_length]; omega) (fun F v n w' => v = .nilIface ∧ n = behind.length ∧ Kept [] w w' ∧ ∃ mf MSG B, F = .iface 124 (.pointer (some ⟨mf, 0, none⟩)) ∧
      Blk w' mf #[.int .u16 (ch : Int), .int .u16 (c : Int), .int .u16 (m : Int), MSG] 130 ∧ MsgOk B w' MSG c m args ∧ (∀ b, B b → b < w'.heap.size)) fun w2 rr mb b d hrs hrr hmb hbb hd hk => ?_).mono fun e w' hh => ?_
  · rw [frameB1_behind] at hrs
    have hbt := hrs.blt
    refine (frame_ok_1 rr mb b d _ _ _ _ _ _ _ behind w2 hrs (by unfold Small; simp; omega) (by unfold Small; omega)
      (fun F w3 => ∃ mf MSG, F = .iface 124 (.pointer (some ⟨mf, 0, none⟩)) ∧ w2.heap.size < mf ∧ Blk w3 mf #[.int .u16 (ch : Int), .int .u16 (c : Int), .int .u16 (m : Int), MSG] 130 ∧ ∃ B, MsgOk B w3 MSG c m args ∧ ∀ x, B x → w2.heap.size < x ∧ x < w3.heap.size)
      ?_ ?_).mono fun e w' h => ?_
    · rintro F w3 w4 ⟨mf, MSG, rfl, h1, h3, B, h4, h5⟩ hk4
      exact ⟨mf, MSG, rfl, h1, h3.kept hk4 (nin2 (by omega) (by omega)), B, h4.kept hk4 (fun x hx => by have := h5 x hx; exact nin2 (by omega) (by omega)), fun x hx => ⟨(h5 x hx).1, Nat.lt_of_lt_of_le (h5 x hx).2 hk4.size⟩⟩
    · intro w3 hr3 hlt
      rw [be2_num ch (by omega)]
      refine (hpm args hp hwf (206 :: behind) ch _ w3 rr mb b d hr3 (by simp; omega)).mono fun e w' h => ?_
      obtain ⟨F, rfl, h1⟩ := h
      refine ⟨F, rfl, h1.rs, h1.kept, ?_⟩
      obtain ⟨mf, MSG, rfl, h2, h3, h4⟩ := h1.res
      exact ⟨mf, MSG, rfl, by omega, h3, _, h4, fun x hx => ⟨by omega, hx.2⟩⟩
    · obtain ⟨F, rfl, h1, h2, mf, MSG, rfl, h3, h4, B, h5, h6⟩ := h
      obtain ⟨ao, cb, hb, _⟩ := h1.buf
      have hsz : w2.heap.size ≤ w'.heap.size := h2.size
      exact ⟨_, .nilIface, _, behind.length, cb, rfl, hb, rfl, rfl, hk.trans h2 (by simp; omega), mf, MSG, B, rfl, h4, h5, fun x hx => (h6 x hx).2⟩
  · obtain ⟨F, v, n, rfl, rfl, rfl, hk, mf, MSG, B, rfl, h1, h2, h3⟩ := hh
    refine ⟨_, behind.length, rfl, hk, ?_⟩
    refine (frame_meth mf ch c m MSG args B w' hch hc hm h1 h2 h3 hal).mono fun e w2 h => ?_
    obtain ⟨out, rfl, h3, h4⟩ := h
    exact ⟨_, rfl, meth_length _ _ _ _, meth_one _ _ _ _ h3.one, h4, rfl, out, rfl, h3.mono (fun b hb _ => Nat.le_trans hk.size hb)⟩
end Go.Proofs.YtkcdakohmfodjaaGreat
