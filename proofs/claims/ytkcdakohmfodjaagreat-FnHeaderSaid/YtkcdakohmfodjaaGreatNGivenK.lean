/-
  Lemmas on the way to the statement of YtkcdakohmfodjaaGreatHeader, joined out of these texts: GivenK. No condition.
-/
import Derived.Test.YtkcdakohmfodjaaGreatNHpW
import Derived.Test.YtkcdakohmfodjaaGreatNPropV
import Derived.Test.YtkcdakohmfodjaaGreatNRarr
namespace Go.Proofs.YtkcdakohmfodjaaGreat
open Go.RowKit
set_option linter.unusedVariables false
set_option linter.unusedSimpArgs false
/-- impl.given gives a value that is proper, as the package has it. -/
def GvC (v : Val) : Prop := ∀ (B : Nat → Prop) (cs : List Value) (d : Nat) (w : World), VHeld B w cs v → WfV v → OkV v d → costV v ≤ 2000 →
  Calls Tryz.prog 54 #[.agg cs.toArray] w fun e w' => ∃ x, e = .returned (.tuple #[x, .bool true]) ∧ GV (fun b => w.heap.size ≤ b) w' x v ∧ Kept [] w w'
/-- impl.table gives a table that is proper, as the package has it. -/
def GtC (l : List Fld) : Prop := ∀ (B : Nat → Prop) (s : Value) (d : Nat) (w : World), FSl B w s l → WfFs l → OkFs l none d → costFs l ≤ 2000 →
  Calls Tryz.prog 40 #[s] w fun e w' => ∃ b es, e = .returned (.tuple #[.map (some b), .bool true]) ∧ w.heap.size ≤ b ∧ MapAt w' b es ∧ GF (fun b => w.heap.size ≤ b) w' es l ∧ Kept [] w w'
set_option maxHeartbeats 2000000 in
set_option maxRecDepth 100000 in
theorem given_70 (n : Int) (f : Nat) (sc : Int) (text : List UInt8) (kids : List Val) (flds : List Fld) (hf : GtC flds) : GvC (.mk 70 n f sc text kids flds) := by
  intro B cs d w hv hwf hok hcost
  unfold VHeld at hv
  obtain ⟨ka, kc, fa, fc, rfl, v1, v2, v3, v4, v5, v6⟩ := hv
  unfold WfV at hwf
  unfold OkV at hok
  rw [if_neg (by decide), if_pos rfl] at hok
  unfold costV at hcost
  rw [if_neg (by decide), if_pos rfl] at hcost
  have e70 : (((70 : UInt8).toNat : Nat) : Int) = 70 := rfl
  rw [e70]
  obtain ⟨wA, hwA⟩ : ∃ wA, wA = w.alloc (.cells #[.int .u8 70, .int .i64 n, .float .f64 f, .int .i64 sc, .string (bstr text), .slice ka kids.length kc, .slice fa flds.length fc] 151) := ⟨_, rfl⟩
  have hbA : Blk wA w.heap.size #[.int .u8 70, .int .i64 n, .float .f64 f, .int .i64 sc, .string (bstr text), .slice ka kids.length kc, .slice fa flds.length fc] 151 := by rw [hwA]; exact Blk.new w _ _
  have hkA : Kept [] w wA := by rw [hwA]; exact (Kept.refl [] w).alloc _
  have hc := hf B (.slice fa flds.length fc) (d - 1) wA ⟨fa, fc, rfl, v2, v4, FAt.kept hkA (by simp) flds v6⟩ hwf.2.2.2.2.1 hok.2.2 (by omega)
  obtain ⟨g, hg⟩ : ∃ g, g = w.heap.size := ⟨_, rfl⟩
  rw [← hg] at hbA
  obtain ⟨c0, c1, c2, c3, c4, c5, c6⟩ := cells7 hbA
  have HA := Lib.hid (And.intro hkA hc); clear hbA hkA hc hf hwf hok hcost v1 v2 v3 v4 v5 v6
  go_enter Tryz.func54, Tryz.ntmps54
  go_upto_region 1 with fail
  rw [← hwA, ← hg]
  clear hwA hg
  go_wp2_with (go_at_call 40; refine HA.out.2.mono ?_; rintro e w3 ⟨b, es, rfl, t1, t2, t3, t4⟩; have H3 := Lib.hid (And.intro t1 (And.intro t2 (And.intro t3 t4))); clear t1 t2 t3 t4)
  go_ret2
  refine ⟨_, rfl, ?_, HA.out.1.trans H3.out.2.2.2 (by simp)⟩
  have hsz := HA.out.1.size
  unfold GV
  rw [if_neg (by decide), if_pos rfl]
  exact ⟨b, es, rfl, by have := H3.out.1; omega, H3.out.2.1, GF.mono (fun b hb _ => by omega) flds H3.out.2.2.1⟩
/-- An own row of no cells. -/
theorem own_empty (w : World) (T : TypeId) (base n : Nat) (h : base ≤ w.heap.size) {α : Type} (R : (Nat → Prop) → World → List Value → α → Prop) : OwnE T n R base (w.alloc (.cells #[] T)) (.slice (some ⟨w.heap.size, 0, none⟩) 0 0) [] := by
  refine ⟨[], ⟨by simp, .inr ⟨w.heap.size, 0, #[], rfl, Nat.zero_le _, Blk.new w _ _, Nat.le_refl _, Nat.zero_le _, by simp, by simp⟩⟩, rfl, fun g hg => ?_⟩
  simp only [Value.ownBlock, Option.some.injEq] at hg
  omega
/-- An own slice of such values, as the value of an array. -/
theorem gv_arr {base : Nat} {w : World} {x : Value} {n : Int} {f : Nat} {sc : Int} {text : List UInt8} {kids : List Val} {flds : List Fld} (h : OwnE 20 1 GVc base w x kids) : GV (fun b => base ≤ b) w (.iface 192 x) (.mk 65 n f sc text kids flds) := by
  obtain ⟨cells, o1, o2, o3⟩ := h
  obtain ⟨ao, c, rfl, hc, hh⟩ := own_slice o1
  unfold GV
  rw [if_pos rfl]
  refine ⟨ao, c, rfl, hc, fun hne => ?_⟩
  rcases hh with ⟨h0, _⟩ | ⟨g, rfl, hg, hcell⟩
  · exact absurd (List.eq_nil_of_length_eq_zero h0) hne
  · exact ⟨g, rfl, o3 g hg, own_lt o1 hg, gl_of kids 0 cells (o2.imp fun cs x hx => bears_gv.mono hx fun b hb _ => hb.1) hcell⟩
set_option maxHeartbeats 2000000 in
set_option maxRecDepth 100000 in
theorem given_65 (n : Int) (f : Nat) (sc : Int) (text : List UInt8) (kids : List Val) (flds : List Fld) (hf : ∀ v, v ∈ kids → GvC v) : GvC (.mk 65 n f sc text kids flds) := by
  intro B cs d w hv hwf hok hcost
  unfold VHeld at hv
  obtain ⟨ka, kc, fa, fc, rfl, v1, v2, v3, v4, v5, v6⟩ := hv
  unfold WfV at hwf
  unfold OkV at hok
  rw [if_pos rfl] at hok
  unfold costV at hcost
  rw [if_pos rfl] at hcost
  have e65 : (((65 : UInt8).toNat : Nat) : Int) = 65 := rfl
  rw [e65]
  obtain ⟨wA, hwA⟩ : ∃ wA, wA = w.alloc (.cells #[.int .u8 65, .int .i64 n, .float .f64 f, .int .i64 sc, .string (bstr text), .slice ka kids.length kc, .slice fa flds.length fc] 151) := ⟨_, rfl⟩
  have hbA : Blk wA w.heap.size #[.int .u8 65, .int .i64 n, .float .f64 f, .int .i64 sc, .string (bstr text), .slice ka kids.length kc, .slice fa flds.length fc] 151 := by rw [hwA]; exact Blk.new w _ _
  have hkA : Kept [] w wA := by rw [hwA]; exact (Kept.refl [] w).alloc _
  have hkl : (kids.length : Int) ≤ 2000 := by have := costL_len kids; omega
  obtain ⟨g, hg⟩ : ∃ g, g = w.heap.size := ⟨_, rfl⟩
  rw [← hg] at hbA
  obtain ⟨c0, c1, c2, c3, c4, c5, c6⟩ := cells7 hbA
  obtain ⟨i, z, i1, i2, i3, i4, i5⟩ := info_own any_info
  have HI := Lib.hid (And.intro i1 (And.intro i2 (And.intro i3 (And.intro i4 i5)))); clear i1 i2 i3 i4 i5
  have HB := Lib.hid (And.intro hbA (And.intro hkA (KAt.kept hkA (by simp) kids v5)))
  have HA := Lib.hid (And.intro hwf (And.intro hok (And.intro hcost (And.intro hf (And.intro v1 v3))))); clear hbA hkA hf hwf hok hcost v1 v2 v3 v4 v5 v6
  go_enter Tryz.func54, Tryz.ntmps54
  go_upto_region 1 with fail
  rw [← hwA, ← hg]
  clear hwA hg
  go_upto_region 32 with fail
  obtain ⟨wB, hwB⟩ : ∃ wB, wB = wA.alloc (.cells #[] 20) := ⟨_, rfl⟩
  have hkB : Kept [] wA wB := by rw [hwB]; exact (Kept.refl [] wA).alloc _
  have how : OwnE 20 1 GVc wA.heap.size wB (.slice (some ⟨wA.heap.size, 0, none⟩) 0 0) [] := by rw [hwB]; exact own_empty wA _ _ 1 (Nat.le_refl _) GVc
  rw [← hwB]
  clear hwB c0 c1 c2 c3 c4 c5 c6
  obtain ⟨c0, c1, c2, c3, c4, c5, c6⟩ := cells7 (HB.out.1.kept hkB (by simp))
  have hks : KSl B wA (.slice ka kids.length kc) kids := ⟨ka, kc, rfl, HA.out.2.2.2.2.1, HA.out.2.2.2.2.2, HB.out.2.2⟩
  obtain ⟨ka', kc', hka, _, _, hget⟩ := hks.get
  obtain ⟨rfl, rfl⟩ : ka = ka' ∧ kc = kc' := by cases hka; exact ⟨rfl, rfl⟩
  have HG := Lib.hid (And.intro hget (And.intro how hkB))
  clear hka hget hks how hkB
  go_wp2_with fail
  go_loopw [4, 170] (fun out ix W => ∃ (m : Nat), ix = .int .i64 (m : Int) ∧ m ≤ kids.length ∧ outLen out = m ∧ Hid (OwnE 20 1 GVc wA.heap.size W out (kids.take m) ∧ Kept [] wA W)) (fun _ ix _ => kids.length - (intOf ix).toNat)
  case atStart => exact ⟨0, rfl, Nat.zero_le _, rfl, Lib.hid ⟨by rw [List.take_zero]; exact HG.out.2.1, HG.out.2.2⟩⟩
  case round =>
    obtain ⟨m, rfl, hmk, hol, HR⟩ := hrel
    by_cases hlt : m < kids.length
    · obtain ⟨v, hx⟩ : ∃ v, kids[m]? = some v := ⟨_, List.getElem?_eq_getElem hlt⟩
      obtain ⟨ad, cs, rfl, hca, hvh⟩ := HG.out.1 m v hx
      have hca' := (hca.kept HR.out.2 (by simp)).2
      have hvh' := VHeld.kept HR.out.2 (by simp) v hvh
      have hlt' : (m : Int) < kids.length := by omega
      obtain ⟨cells, o1, o2, o3⟩ := HR.out.1
      obtain ⟨ao, oc, rfl, hoc, hoo⟩ := own_slice o1
      have hmm : (kids.take m).length = m := by rw [List.length_take]; omega
      have hwr : wA.heap.size ≤ wr.heap.size := by have := HR.out.2.size; omega
      have HX := Lib.hid (And.intro hx (And.intro o1 (And.intro o2 (And.intro o3 hwr)))); have HC := Lib.hid (And.intro hca' hvh')
      clear hx hca hvh hca' hvh' o1 o2 o3 hoc hoo hwr
      rw [hmm]
      obtain ⟨a0, a1, a2, a3, a4, a5, a6, rfl⟩ := HC.out.2.seven
      go_upto_region 35 with (first
        | (refine wpList_load_cells rfl 151 (.tmp 172) rfl _ rfl _ HC.out.1 _ Tryz.underlying151 rfl size_iVal ?_)
        | (refine wpList_store_row (P := Tryz.prog) rfl rfl 151 (.tmp 6) (.tmp 173) rfl wr.heap.size rfl 151 _ [a0, a1, a2, a3, a4, a5, a6] (Blk.new wr _ _) rfl rfl HC.out.2.one size_iVal ?_; intro w9 hb9 hk9; have HB9 := Lib.hid (And.intro hb9 (((Kept.refl [] wr).alloc _).trans hk9 (S' := [wr.heap.size]) (by simp))); clear hb9 hk9))
      obtain ⟨s0, s1, s2, s3, s4, s5, s6⟩ := cells7 HB9.out.1
      have hvc := HA.out.2.2.2.1 v (List.mem_of_getElem? HX.out.1) B _ (d - 1) w9 (VHeld.kept HB9.out.2 (by simp) v HC.out.2) (WfL.get' kids HA.out.1.2.2.2.1 m v HX.out.1) (OkL.get kids (d - 1) HA.out.2.1.2.2 m v HX.out.1) (by have := costL_get kids m v HX.out.1; have := HA.out.2.2.1; omega)
      have HV := Lib.hid hvc; clear hvc
      go_upto_region 38 with (go_at_call 54; refine HV.out.mono ?_; rintro e w6 ⟨x, rfl, p6, k6⟩; have H6 := Lib.hid (And.intro p6 k6); clear p6 k6)
      obtain ⟨wa, hwa⟩ : ∃ wa, wa = w6.alloc (.cells #[x] 20) := ⟨_, rfl⟩
      have hk6a : Kept [] w6 wa := by rw [hwa]; exact (Kept.refl [] w6).alloc _
      have hca : wa.cell? ⟨w6.heap.size, 0, none⟩ = some x := by rw [hwa]; exact (Blk.new w6 #[x] _).cell0
      have hkp : Kept [] wr wa := (HB9.out.2.trans H6.out.2 (by simp)).trans hk6a (by simp)
      obtain ⟨n1, n2⟩ := own_move bears_gv HX.out.2.1 HX.out.2.2.1 HX.out.2.2.2.1 (S := []) (by simp) hkp
      have hol' : ∀ g, Value.ownBlock (.slice ao (kids.take m).length oc) = some g → g < wr.heap.size := fun g hg => own_lt HX.out.2.1 hg
      have hsx := HB9.out.2.size
      have hpx : GVc (fun b => wA.heap.size ≤ b ∧ Value.ownBlock (.slice ao (kids.take m).length oc) ≠ some b) wa [x] v := ⟨x, rfl, GV.kept hk6a (by simp) v (GV.mono (fun b hb _ => ⟨by have := HX.out.2.2.2.2; omega, fun e => by have := hol' b e; omega⟩) v H6.out.1)⟩
      have HP := Lib.hid (And.intro n1 (And.intro n2 (And.intro hpx (And.intro hca hkp))))
      clear n1 n2 hpx hca hkp hk6a hol' hsx
      rw [hmm] at HP
      rcases H6.out.1.face with rfl | ⟨xt, xv, rfl⟩
      · subst hwa
        go_wp2_with (at_builtin; refine wpList_append2 _ rfl _ _ 192 192 rfl 20 20 Tryz.underlying192 i z 1 16 Tryz.underlying192 HI.out.1 HI.out.2.1 HI.out.2.2.1 HI.out.2.2.2.1 HI.out.2.2.2.2 (by decide) (.slice ao m oc) m cells rfl HP.out.1 ⟨w6.heap.size, 0, none⟩ 1 1 [.nilIface] rfl rfl (fun j u hj => by cases j with | zero => simp at hj; subst hj; exact HP.out.2.2.2.1 | succ j => simp at hj) (fun u hu => by simp at hu; subst hu; rfl) (by omega) (by omega) ?_; intro v' w8 g1 g2 g3; have H8 := Lib.hid (And.intro g1 (And.intro g2 g3)); clear g1 g2 g3)
        have hmm2 : (kids.take m).length = m := by rw [List.length_take]; omega
        have hob : ∀ g, Value.ownBlock (.slice ao m oc) = some g → wA.heap.size ≤ g := by have := HX.out.2.2.2.1; rw [hmm2] at this; exact this
        have hsz : wA.heap.size ≤ (w6.alloc (.cells #[.nilIface] 20)).heap.size := by have := H6.out.2.size; have := HX.out.2.2.2.2; have := HB9.out.2.size; simp; omega
        obtain ⟨p1, p2⟩ := OwnE.push (x := v) (xs := kids.take m) bears_gv HP.out.2.1 hob hsz HP.out.2.2.1 (by rw [hmm2]; exact H8.out.1) H8.out.2.1 H8.out.2.2
        obtain ⟨ao', oc', hv', _, _⟩ := own_slice H8.out.1
        have e1 : kids.take (m + 1) = kids.take m ++ [v] := by rw [List.take_add_one, HX.out.1]; rfl
        have hQ := Lib.hid (And.intro p1 (And.intro p2 (And.intro hv' (And.intro e1 hob))))
        clear p1 p2 hv' e1 hob
        go_roundw
        case rel => exact ⟨m + 1, rfl, hlt, by rw [hQ.out.2.2.1]; rfl, Lib.hid ⟨by rw [hQ.out.2.2.2.1]; exact hQ.out.1, (HR.out.2.trans HP.out.2.2.2.2 (by simp)).trans hQ.out.2.1 (fun x hx => .inr (hQ.out.2.2.2.2 x (by simpa using hx)))⟩⟩
        case measure => simp [intOf]; omega
      · subst hwa
        go_wp2_with (at_builtin; refine wpList_append2 _ rfl _ _ 192 192 rfl 20 20 Tryz.underlying192 i z 1 16 Tryz.underlying192 HI.out.1 HI.out.2.1 HI.out.2.2.1 HI.out.2.2.2.1 HI.out.2.2.2.2 (by decide) (.slice ao m oc) m cells rfl HP.out.1 ⟨w6.heap.size, 0, none⟩ 1 1 [.iface xt xv] rfl rfl (fun j u hj => by cases j with | zero => simp at hj; subst hj; exact HP.out.2.2.2.1 | succ j => simp at hj) (fun u hu => by simp at hu; subst hu; rfl) (by omega) (by omega) ?_; intro v' w8 g1 g2 g3; have H8 := Lib.hid (And.intro g1 (And.intro g2 g3)); clear g1 g2 g3)
        have hmm2 : (kids.take m).length = m := by rw [List.length_take]; omega
        have hob : ∀ g, Value.ownBlock (.slice ao m oc) = some g → wA.heap.size ≤ g := by have := HX.out.2.2.2.1; rw [hmm2] at this; exact this
        have hsz : wA.heap.size ≤ (w6.alloc (.cells #[.iface xt xv] 20)).heap.size := by have := H6.out.2.size; have := HX.out.2.2.2.2; have := HB9.out.2.size; simp; omega
        obtain ⟨p1, p2⟩ := OwnE.push (x := v) (xs := kids.take m) bears_gv HP.out.2.1 hob hsz HP.out.2.2.1 (by rw [hmm2]; exact H8.out.1) H8.out.2.1 H8.out.2.2
        obtain ⟨ao', oc', hv', _, _⟩ := own_slice H8.out.1
        have e1 : kids.take (m + 1) = kids.take m ++ [v] := by rw [List.take_add_one, HX.out.1]; rfl
        have hQ := Lib.hid (And.intro p1 (And.intro p2 (And.intro hv' (And.intro e1 hob))))
        clear p1 p2 hv' e1 hob
        go_roundw
        case rel => exact ⟨m + 1, rfl, hlt, by rw [hQ.out.2.2.1]; rfl, Lib.hid ⟨by rw [hQ.out.2.2.2.1]; exact hQ.out.1, (HR.out.2.trans HP.out.2.2.2.2 (by simp)).trans hQ.out.2.1 (fun x hx => .inr (hQ.out.2.2.2.2 x (by simpa using hx)))⟩⟩
        case measure => simp [intOf]; omega
    · have hfin : m = kids.length := by omega
      have hnl : ¬ (m : Int) < (kids.length : Int) := by omega
      have HM := Lib.hid hfin; clear hfin hlt
      obtain ⟨cells, o1, _, _⟩ := HR.out.1
      obtain ⟨ao, oc, rfl, _, _⟩ := own_slice o1
      clear o1
      go_wp2_with fail
      go_ret2
      have hgo := HR.out.1
      have hfin := HM.out
      rw [show (kids.take m).length = m by rw [List.length_take]; omega] at hgo
      rw [show kids.take m = kids by rw [HM.out, List.take_length]] at hgo
      have hsz := HB.out.2.1.size
      exact ⟨_, rfl, GV.mono (B := fun b => wA.heap.size ≤ b) (fun b hb _ => by omega) _ (gv_arr hgo), HB.out.2.1.trans HR.out.2 (by simp)⟩
end Go.Proofs.YtkcdakohmfodjaaGreat
