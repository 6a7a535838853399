/-
  Lemmas on the way to the statement of YtkcdakohmfodjaaGreatHeader, joined out of these texts: Conv, Write. No condition.
-/
import Derived.Deep.RegionHeld3
import Derived.Deep.RegionWith
import Derived.Laws.BitsAllLaws
import Derived.StillTailTactics
import Derived.Test.YtkcdakohmfodjaaGreatNOwn
import Derived.Test.YtkcdakohmfodjaaGreatProg
import Derived.WalkSpells
namespace Go.Proofs.YtkcdakohmfodjaaGreat
open Go.RowKit
set_option linter.unusedVariables false
set_option linter.unusedSimpArgs false
mutual
/-- Sizes that the machine bears. -/
def WfV : Val → Prop
  | .mk k n f sc text kids flds => text.length ≤ 140737488355328 ∧ kids.length ≤ 140737488355328 ∧ flds.length ≤ 140737488355328 ∧ WfL kids ∧ WfFs flds ∧ -9223372036854775808 ≤ n ∧ n ≤ 9223372036854775807 ∧ f < 18446744073709551616
def WfL : List Val → Prop
  | [] => True
  | v :: l => WfV v ∧ WfL l
def WfFs : List Fld → Prop
  | [] => True
  | .mk name v :: l => name.length ≤ 140737488355328 ∧ WfV v ∧ WfFs l
end
theorem WfFs.get (l : List Fld) (h : WfFs l) (k : Nat) (name : List UInt8) (v : Val) (hk : l[k]? = some (.mk name v)) : name.length ≤ 140737488355328 ∧ WfV v := by
  induction l generalizing k with
  | nil => simp at hk
  | cons x l ih =>
    cases x with
    | mk nm u =>
      unfold WfFs at h
      cases k with
      | zero => simp only [List.getElem?_cons_zero, Option.some.injEq, Fld.mk.injEq] at hk; obtain ⟨rfl, rfl⟩ := hk; exact ⟨h.1, h.2.1⟩
      | succ k => exact ih h.2.2 k (by simpa using hk)
theorem WfL.get (l : List Val) (h : WfL l) (k : Nat) (v : Val) (hk : l[k]? = some v) : WfV v := by
  induction l generalizing k with
  | nil => simp at hk
  | cons x l ih =>
    unfold WfL at h
    cases k with
    | zero => simp only [List.getElem?_cons_zero, Option.some.injEq] at hk; subst hk; exact h.1
    | succ k => exact ih h.2 k (by simpa using hk)
theorem info_own {P : Program} {t : TypeId} {n b : Nat} (h : (P.info? t).map (fun i => (i.zero.map (·.cells.size), i.size, i.bytes)) = some (some n, n, b)) : ∃ i z, P.info? t = some i ∧ i.zero = some z ∧ i.size = n ∧ i.bytes = b ∧ z.cells.size = n := by
  cases hi : P.info? t with
  | none => rw [hi] at h; cases h
  | some i =>
    rw [hi] at h
    simp only [Option.map_some, Option.some.injEq, Prod.mk.injEq] at h
    obtain ⟨h1, h2, h3⟩ := h
    cases hz : i.zero with
    | none => rw [hz] at h1; cases h1
    | some z => rw [hz] at h1; exact ⟨i, z, rfl, hz, h2, h3, by simpa using h1⟩
theorem ownFld : (Tryz.prog.info? 143).map (fun i => (i.zero.map (·.cells.size), i.size, i.bytes)) = some (some 8, 8, 112) := by kernel_rfl
theorem ownVal : (Tryz.prog.info? 141).map (fun i => (i.zero.map (·.cells.size), i.size, i.bytes)) = some (some 7, 7, 96) := by kernel_rfl
/-- The seven cells, one by one. -/
theorem VHeld.seven {B : Nat → Prop} {w : World} {cs : List Value} {v : Val} (h : VHeld B w cs v) : ∃ a0 a1 a2 a3 a4 a5 a6, cs = [a0, a1, a2, a3, a4, a5, a6] := by
  cases v with
  | mk k n f sc text kids flds => unfold VHeld at h; obtain ⟨ka, kc, fa, fc, rfl, _⟩ := h; exact ⟨_, _, _, _, _, _, _, rfl⟩
/-- What lies in a new row. -/
theorem cells_new (w : World) (cs : List Value) (t : TypeId) : ∀ j u, cs[j]? = some u → (w.alloc (.cells cs.toArray t)).cell? ((⟨w.heap.size, 0, none⟩ : Addr).add j) = some u := fun j u hj => by
  rw [addr_add, (Blk.new w cs.toArray t).cell, Nat.zero_add]
  simpa using hj
theorem size_iFld : (Tryz.prog.info? 153).map (·.size) = some 8 := by kernel_rfl
theorem size_iVal : (Tryz.prog.info? 151).map (·.size) = some 7 := by kernel_rfl
/-- laws.value of v. -/
def ValueC (v : Val) : Prop := ∀ (B : Nat → Prop) (cs : List Value) (deep : Nat) (r : Int) (rm : Nat) (w : World), VHeld B w cs v → WfV v → Blk w rm #[.int .i64 r] 3 → (∀ b, B b → b ≠ rm) → deep ≤ 10 → -140737488355328 ≤ r → r ≤ 4000 →
  Calls Tryz.prog 71 #[.agg cs.toArray, .int .i64 (deep : Int), .pointer (some ⟨rm, 0, none⟩)] w fun e w' => ∃ cs', e = .returned (.agg cs'.toArray) ∧
    VHeld (fun b => w.heap.size ≤ b) w' cs' (convV v deep r).1 ∧ Blk w' rm #[.int .i64 (convV v deep r).2] 3 ∧ Kept [rm] w w'
/-- laws.fields of l. -/
def FieldsC (l : List Fld) : Prop := ∀ (B : Nat → Prop) (s : Value) (deep : Nat) (r : Int) (rm : Nat) (w : World), FSl B w s l → WfFs l → l.length ≤ 140737488355328 → Blk w rm #[.int .i64 r] 3 → (∀ b, B b → b ≠ rm) → deep ≤ 10 → 0 ≤ r → r ≤ 4000 →
  Calls Tryz.prog 48 #[s, .int .i64 (deep : Int), .pointer (some ⟨rm, 0, none⟩)] w fun e w' => ∃ v, e = .returned v ∧
    FSl (fun b => w.heap.size ≤ b) w' v ((convFs l deep r).1.getD [Fld.zero]) ∧ Blk w' rm #[.int .i64 (convFs l deep r).2] 3 ∧ Kept [rm] w w'
/-- What is left to be done of a loop over fields. -/
def FRest (l : List Fld) (deep : Nat) (r : Int) (xs : List Fld) (suf : List Fld) (rk : Int) : Prop :=
  convFs l deep r = match convFs suf deep rk with
    | (none, q) => (none, q)
    | (some ys, q) => (some (xs ++ ys), q)
theorem FRest.start (l : List Fld) (deep : Nat) (r : Int) : FRest l deep r [] l r := by
  unfold FRest
  cases h : convFs l deep r with
  | mk a q => cases a <;> simp
theorem FRest.step {l : List Fld} {deep : Nat} {r : Int} {xs : List Fld} {name : List UInt8} {v : Val} {suf : List Fld} {rk : Int} (h : FRest l deep r xs (.mk name v :: suf) rk) (h0 : 0 ≤ (convV v deep (rk - name.length)).2) :
    FRest l deep r (xs ++ [.mk name (convV v deep (rk - name.length)).1]) suf (convV v deep (rk - name.length)).2 := by
  unfold FRest at h ⊢
  rw [h, convFs, if_neg (by omega)]
  cases convFs suf deep (convV v deep (rk - name.length)).2 with
  | mk a q => cases a <;> simp
theorem FRest.cut {l : List Fld} {deep : Nat} {r : Int} {xs : List Fld} {name : List UInt8} {v : Val} {suf : List Fld} {rk : Int} (h : FRest l deep r xs (.mk name v :: suf) rk) (h0 : (convV v deep (rk - name.length)).2 < 0) :
    convFs l deep r = (none, (convV v deep (rk - name.length)).2) := by
  unfold FRest at h
  rw [h, convFs, if_pos h0]
theorem FRest.done {l : List Fld} {deep : Nat} {r : Int} {xs : List Fld} {rk : Int} (h : FRest l deep r xs [] rk) : convFs l deep r = (some xs, rk) := by
  unfold FRest at h
  rw [h, convFs]; simp
mutual
theorem convV_le (v : Val) (deep : Nat) (r : Int) : (convV v deep r).2 ≤ r - 1 := by
  cases v with
  | mk k n f sc text kids flds =>
    unfold convV
    split
    · simp; omega
    · have h1 := convFs_le flds (deep - 1) (r - (1 + text.length))
      have h2 := convL_le kids (deep - 1) (convFs flds (deep - 1) (r - (1 + text.length))).2
      split
      · rename_i q hq; rw [hq] at h2; simp at h2 ⊢; omega
      · rename_i q a hq; rw [hq] at h2; simp at h2 ⊢; omega
theorem convL_le (l : List Val) (deep : Nat) (r : Int) : (convL l deep r).2 ≤ r := by
  cases l with
  | nil => simp [convL]
  | cons v l =>
    unfold convL
    split
    · simp
    · have h1 := convV_le v deep r
      have h2 := convL_le l deep (convV v deep r).2
      split
      · rename_i q hq; rw [hq] at h2; simp at h2 ⊢; omega
      · rename_i q a hq; rw [hq] at h2; simp at h2 ⊢; omega
theorem convFs_le (l : List Fld) (deep : Nat) (r : Int) : (convFs l deep r).2 ≤ r := by
  cases l with
  | nil => simp [convFs]
  | cons x l =>
    cases x with
    | mk name v =>
      unfold convFs
      have h1 := convV_le v deep (r - name.length)
      split
      · simp; omega
      · have h2 := convFs_le l deep (convV v deep (r - name.length)).2
        split
        · rename_i q hq; rw [hq] at h2; simp at h2 ⊢; omega
        · rename_i q a hq; rw [hq] at h2; simp at h2 ⊢; omega
end
theorem FSl.get {B : Nat → Prop} {w : World} {s : Value} {l : List Fld} (h : FSl B w s l) : ∃ fa fc, s = .slice fa l.length fc ∧ l.length ≤ fc ∧ (l ≠ [] → fa.isSome = true) ∧
    ∀ i name v, l[i]? = some (.mk name v) → ∃ ad cs, fa = some ad ∧ CellsAt B w (ad.add (i * 8)) (.string (bstr name) :: cs) ∧ VHeld B w cs v := by
  obtain ⟨fa, fc, h1, h2, h3, h4⟩ := h
  refine ⟨fa, fc, h1, h2, h3, fun i name v hi => ?_⟩
  have hne : l ≠ [] := by intro e; subst e; simp at hi
  obtain ⟨ad, rfl⟩ := Option.isSome_iff_exists.1 (h3 hne)
  have hsp : ad.spot = none := by
    cases l with
    | nil => exact absurd rfl hne
    | cons x l =>
      cases x with
      | mk nm u =>
        simp only [Option.getD_some] at h4
        unfold FAt at h4
        obtain ⟨cs, h5, _⟩ := h4
        exact h5.spot (by simp)
  obtain ⟨cs, a, b⟩ := FAt.get hsp l h4 i name v hi
  exact ⟨ad, cs, rfl, a, b⟩
theorem KSl.get {B : Nat → Prop} {w : World} {s : Value} {l : List Val} (h : KSl B w s l) : ∃ fa fc, s = .slice fa l.length fc ∧ l.length ≤ fc ∧ (l ≠ [] → fa.isSome = true) ∧
    ∀ i v, l[i]? = some v → ∃ ad cs, fa = some ad ∧ CellsAt B w (ad.add (i * 7)) cs ∧ VHeld B w cs v := by
  obtain ⟨fa, fc, h1, h2, h3, h4⟩ := h
  refine ⟨fa, fc, h1, h2, h3, fun i v hi => ?_⟩
  have hne : l ≠ [] := by intro e; subst e; simp at hi
  obtain ⟨ad, rfl⟩ := Option.isSome_iff_exists.1 (h3 hne)
  have hsp : ad.spot = none := by
    cases l with
    | nil => exact absurd rfl hne
    | cons x l =>
      simp only [Option.getD_some] at h4
      unfold KAt at h4
      obtain ⟨cs, h5, h6, _⟩ := h4
      exact h5.spot (by have := h6.ne; intro e; subst e; simp at this)
  obtain ⟨cs, a, b⟩ := KAt.get hsp l h4 i v hi
  exact ⟨ad, cs, rfl, a, b⟩
set_option maxHeartbeats 1000000 in
set_option maxRecDepth 100000 in
theorem fields_of (l : List Fld) (hv : ∀ x, x ∈ l → ValueC x.val) : FieldsC l := by
  intro B s deep r rm w hs hwf hll hrm hB hd hr0 hr1
  obtain ⟨fa, fc, rfl, hfc, hfs, hget⟩ := hs.get
  have hn : (l.length : Int) ≤ 140737488355328 := by omega
  have hd' : (deep : Int) ≤ 10 := by omega
  have H := Lib.hid (And.intro hs (And.intro hwf (And.intro hrm (And.intro hB (And.intro hget (And.intro hv hfs))))))
  clear hs hwf hrm hB hget hv hfs
  go_enter Tryz.func48, Tryz.ntmps48
  go_wp2_with fail
  go_loopw [7, 12] (fun out i W => ∃ (k : Nat) (xs : List Fld) (rk : Int), k = xs.length ∧ k ≤ l.length ∧ i = .int .i64 (k : Int) ∧ FRest l deep r xs (l.drop k) rk ∧ 0 ≤ rk ∧ (xs.length : Int) + rk ≤ 4000 ∧
    OwnE 143 8 FHeld w.heap.size W out xs ∧ Blk W rm #[.int .i64 rk] 3 ∧ Kept [rm] w W) (fun _ i _ => l.length - (intOf i).toNat)
  case atStart => exact ⟨0, [], r, rfl, Nat.zero_le _, rfl, FRest.start _ _ _, hr0, by simpa using hr1, OwnE.nil _ _ _ _ _, H.out.2.2.1, Kept.refl _ _⟩
  case round =>
    obtain ⟨k, xs, rk, hk, hkl, rfl, hrest, hrk0, hrk1, hown, hblk, hkept⟩ := hrel
    have HR := Lib.hid (And.intro hrest (And.intro hown (And.intro hblk (And.intro hkept hk)))); clear hrest hown hblk hkept hk
    by_cases hlt : k < l.length
    · obtain ⟨name, v, hx⟩ : ∃ name v, l[k]? = some (.mk name v) := by
        rw [List.getElem?_eq_getElem hlt]; cases l[k] with | mk name v => exact ⟨name, v, rfl⟩
      obtain ⟨ad, cs, rfl, hca, hvh⟩ := H.out.2.2.2.2.1 k name v hx
      have hlt' : (k : Int) < l.length := by omega
      have hca' := (hca.kept HR.out.2.2.2.1 (fun b hb => by simpa using H.out.2.2.2.1 b hb)).2
      have hvh' := VHeld.kept HR.out.2.2.2.1 (fun b hb => by simpa using H.out.2.2.2.1 b hb) v hvh
      have hlen8 : (Value.string (bstr name) :: cs).length = 8 := by rw [List.length_cons, hvh.ne]
      have HX := Lib.hid (And.intro hx (And.intro hca' (And.intro hvh' hlen8)))
      clear hx hca hca' hvh hvh' hlen8
      go_wp2_with (first
        | (refine wpList_load_cells rfl 153 (.tmp 14) rfl _ rfl _ HX.out.2.1 _ Tryz.underlying153 rfl (by rw [HX.out.2.2.2]; exact size_iFld) ?_)
        | (refine wpList_store_row (P := Tryz.prog) rfl rfl 153 (.tmp 9) (.tmp 15) rfl wr.heap.size rfl 153 _ (.string (bstr name) :: cs) (Blk.new wr _ _) rfl (by rw [HX.out.2.2.2]; rfl) (by intro u hu; rcases List.mem_cons.1 hu with rfl | hu; rfl; exact HX.out.2.2.1.one u hu) (by rw [HX.out.2.2.2]; exact size_iFld) ?_; intro w1 hb1 hk1; have HB := Lib.hid (And.intro hb1 hk1); clear hb1 hk1))
      have c0 : w1.cell? ⟨wr.heap.size, 0, none⟩ = some (.string (bstr name)) := HB.out.1.cell 0
      have hkw1 : Kept [] wr w1 := ((Kept.refl [] wr).alloc _).trans HB.out.2 (by simp)
      have hrm1 := HR.out.2.2.1.kept hkw1 (by simp)
      have c1 := hrm1.cell0
      have f1 := hrm1.free 0
      have hnl : name.length ≤ 140737488355328 ∧ WfV v := WfFs.get l H.out.2.1 k name v HX.out.1
      have hnl1 : (name.length : Int) ≤ 140737488355328 := by omega
      have hrk2 : rk ≤ 4000 := by omega
      have hwr : IntKind.i64.wrap (rk - (name.length : Int)) = rk - name.length := by rw [IntKind.wrap_i64]; omega
      have HW1 := Lib.hid (And.intro hkw1 (And.intro hrm1 hnl)); clear hkw1 hrm1 hnl
      go_still_tail 8, (by kernel_rfl)
      change wpList _ _ _ _ _ w1.drew
      go_wp2_with fail
      obtain ⟨W2, hW2⟩ : ∃ W2, W2 = (w1.setCell ⟨rm, 0, none⟩ (.int .i64 (rk - (name.length : Int)))).drew := ⟨_, rfl⟩
      rw [← hW2]
      have hrmq : rm ≠ wr.heap.size := by have := HR.out.2.2.1.lt; omega
      have hb2 : Blk W2 wr.heap.size (Value.string (bstr name) :: cs).toArray 153 := by rw [hW2]; exact (HB.out.1.setCell_other (by simpa using Ne.symm hrmq) _).drew
      have hrm2 : Blk W2 rm #[.int .i64 (rk - (name.length : Int))] 3 := by rw [hW2]; exact (HW1.out.2.1.setCell 0 _).drew
      have hk2 : Kept [rm] wr W2 := by rw [hW2]; exact ((HW1.out.1.mono (by simp)).setCell (by simp) _).drew
      have hkD : Kept [] W2 W2.drew := (Kept.refl [] W2).drew
      have hk2D : Kept [rm] wr W2.drew := hk2.drew
      have hvW := VHeld.kept hk2D (fun b hb => by simpa using H.out.2.2.2.1 b hb) v HX.out.2.2.1
      obtain ⟨a0, a1, a2, a3, a4, a5, a6, rfl⟩ := hvW.seven
      have hbD := hb2.kept hkD (by simp)
      have hc := fun w' (hk : Kept [rm] W2.drew w') => hbD.kept hk (by simpa using Ne.symm hrmq)
      have hvc := H.out.2.2.2.2.2.1 (.mk name v) (List.mem_of_getElem? HX.out.1) B _ deep (rk - (name.length : Int)) rm W2.drew hvW HW1.out.2.2.2 (hrm2.kept hkD (by simp)) H.out.2.2.2.1 hd (by omega) (by omega)
      have hle := convV_le v deep (rk - (name.length : Int))
      obtain ⟨X, hX⟩ : ∃ X, X = convV v deep (rk - (name.length : Int)) := ⟨_, rfl⟩
      have hvc : Calls Tryz.prog 71 #[.agg [a0, a1, a2, a3, a4, a5, a6].toArray, .int .i64 (deep : Int), .pointer (some ⟨rm, 0, none⟩)] W2.drew fun e w' => ∃ cs', e = .returned (.agg cs'.toArray) ∧
        VHeld (fun b => W2.drew.heap.size ≤ b) w' cs' X.1 ∧ Blk w' rm #[.int .i64 X.2] 3 ∧ Kept [rm] W2.drew w' := by rw [hX]; exact hvc
      rw [← hX] at hle
      obtain ⟨x1, r1⟩ := X
      simp only at hvc hle
      have HXX := Lib.hid hX; clear hX
      have hkr : w.heap.size ≤ wr.heap.size := HR.out.2.2.2.1.size
      have hrmw : rm < w.heap.size := H.out.2.2.1.lt
      obtain ⟨cells, o1, o2, o3⟩ := HR.out.2.1
      have hmove := fun w' (hk : Kept [rm] wr w') => own_move bears_fld o1 o2 o3 (S := [rm]) (fun b hb => by simp; omega) hk
      have hown : ∀ g, u7.ownBlock = some g → g < wr.heap.size := fun g hg => own_lt o1 hg
      have hxs : xs.length ≤ 4000 := by omega
      obtain ⟨i, z, i1, i2, i3, i4, i5⟩ := info_own ownFld
      have HI := Lib.hid (And.intro i1 (And.intro i2 (And.intro i3 (And.intro i4 i5)))); clear i1 i2 i3 i4 i5
      have HS := Lib.hid hc; have HV := Lib.hid hvc; have H2 := Lib.hid (And.intro hk2D (And.intro hb2 hrm2)); have HM := Lib.hid hmove; have HN := Lib.hid (And.intro hkr (And.intro hrmw (And.intro o3 (And.intro hown hrmq))))
      clear hb2 hrm2 hk2 hkD hk2D hvW hbD hc hvc hW2 hmove hkr hrmw hown o1 o2 o3 hrmq
      go_region_held3 (fun w' : World => w'.cell? ⟨wr.heap.size, 0, none⟩ = some (.string (bstr name)) ∧ w'.cell? ⟨wr.heap.size, 1, none⟩ = some a0 ∧ w'.cell? ⟨wr.heap.size, 2, none⟩ = some a1 ∧ w'.cell? ⟨wr.heap.size, 3, none⟩ = some a2 ∧ w'.cell? ⟨wr.heap.size, 4, none⟩ = some a3 ∧ w'.cell? ⟨wr.heap.size, 5, none⟩ = some a4 ∧ w'.cell? ⟨wr.heap.size, 6, none⟩ = some a5 ∧ w'.cell? ⟨wr.heap.size, 7, none⟩ = some a6)
        (first
          | (have hh := HS.out _ (Kept.refl [rm] _); exact ⟨hh.cell 0, hh.cell 1, hh.cell 2, hh.cell 3, hh.cell 4, hh.cell 5, hh.cell 6, hh.cell 7⟩)
          | (have hh := HS.out _ H3.out.2.2; exact ⟨hh.cell 0, hh.cell 1, hh.cell 2, hh.cell 3, hh.cell 4, hh.cell 5, hh.cell 6, hh.cell 7⟩)
          | (have hh := (HS.out _ H3.out.2.2).alloc (.cells #[.string (bstr name), b0, b1, b2, b3, b4, b5, b6] 143); exact ⟨hh.cell 0, hh.cell 1, hh.cell 2, hh.cell 3, hh.cell 4, hh.cell 5, hh.cell 6, hh.cell 7⟩)
          | (have hh := H4.out.1; exact ⟨hh.cell 0, hh.cell 1, hh.cell 2, hh.cell 3, hh.cell 4, hh.cell 5, hh.cell 6, hh.cell 7⟩))
        (first
          | (go_at_call 71; refine HV.out.mono ?_; rintro e w3 ⟨cs2, rfl, v1, v2, v3⟩; obtain ⟨b0, b1, b2, b3, b4, b5, b6, rfl⟩ := v1.seven; have H3 := Lib.hid (And.intro v1 (And.intro v2 v3)); clear v1 v2 v3)
          | (refine step_append2 _ rfl (.tmp 24) (.tmp 33) 52 rfl 143 i z 8 112 Tryz.underlying52 HI.out.1 HI.out.2.1 HI.out.2.2.1 HI.out.2.2.2.1 HI.out.2.2.2.2 (by decide) u7 xs.length cells rfl
              (HM.out _ ((H2.out.1.trans H3.out.2.2 (fun x hx => .inl hx)).alloc _)).1 ⟨w3.heap.size, 0, none⟩ 1 1 [.string (bstr name), b0, b1, b2, b3, b4, b5, b6] rfl rfl (cells_new w3 _ _)
              (by intro u hu; rcases List.mem_cons.1 hu with rfl | hu; rfl; exact H3.out.1.one u hu) (by omega) (by omega) ?_
             intro v' w4 g1 g2 g3
             have H4 := Lib.hid (And.intro (((HS.out w3 H3.out.2.2).alloc (.cells #[.string (bstr name), b0, b1, b2, b3, b4, b5, b6] 143)).kept ((Kept.refl u7.ownBlock.toList _).grown g2 (fun k hk => .inl (by simp [hk]))) (fun hm => by have := HN.out.2.2.2.1 _ (by simpa using hm); omega)) (And.intro g1 (And.intro g2 g3)))
             clear g1 g2 g3))
      have hks : Kept [rm] wr w3 := H2.out.1.trans H3.out.2.2 (fun x hx => .inl hx)
      have hka : Kept [] w3 (w3.alloc (.cells #[.string (bstr name), b0, b1, b2, b3, b4, b5, b6] 143)) := (Kept.refl [] w3).alloc _
      have hmv := HM.out _ (hks.trans hka (by simp))
      have hv3 : VHeld (fun b => w.heap.size ≤ b ∧ u7.ownBlock ≠ some b) (w3.alloc (.cells #[.string (bstr name), b0, b1, b2, b3, b4, b5, b6] 143)) [b0, b1, b2, b3, b4, b5, b6] x1 :=
        VHeld.kept hka (by simp) _ (VHeld.mono (fun b hb _ => ⟨by have := HN.out.1; have := H2.out.1.size; omega, fun e => by have := HN.out.2.2.2.1 b e; have := H2.out.1.size; omega⟩) _ H3.out.1)
      obtain ⟨p1, p2⟩ := OwnE.push (x := Fld.mk name x1) bears_fld hmv.2 HN.out.2.2.1 (by have := HN.out.1; have := hks.size; have := hka.size; omega) ⟨[b0, b1, b2, b3, b4, b5, b6], rfl, hv3⟩ H4.out.2.1 H4.out.2.2.1 H4.out.2.2.2
      have hrm4 : Blk w4 rm #[.int .i64 r1] 3 := (H3.out.2.1.kept hka (by simp)).kept p2 (fun hm => by have := HN.out.2.2.1 rm (by simpa using hm); have := HN.out.2.1; omega)
      have hk4 : Kept [rm] w w4 := ((HR.out.2.2.2.1.trans hks (fun x hx => .inl hx)).trans hka (by simp)).trans p2 (fun x hx => .inr (HN.out.2.2.1 x (by simpa using hx)))
      have c4 := hrm4.cell0
      have HE := Lib.hid (And.intro p1 (And.intro hrm4 hk4)); clear hks hka hmv hv3 p1 p2 hrm4 hk4
      have hdrop : l.drop k = .mk name v :: l.drop (k + 1) := by
        rw [List.drop_eq_getElem_cons hlt]; congr 1
        have := HX.out.1; rw [List.getElem?_eq_getElem hlt] at this; simpa using this
      have hr1' : (convV v deep (rk - (name.length : Int))).2 = r1 := by rw [← HXX.out]
      have hx1' : (convV v deep (rk - (name.length : Int))).1 = x1 := by rw [← HXX.out]
      have HD := Lib.hid (And.intro hdrop (And.intro hr1' hx1')); clear hdrop hr1' hx1'
      by_cases hneg : r1 < 0
      · go_wp2_with fail
        go_ret
        have hrest := HR.out.1
        rw [HD.out.1] at hrest
        have hcut := hrest.cut (by rw [HD.out.2.1]; exact hneg)
        rw [hcut, HD.out.2.1]
        have hkz : Kept [] w4 (w4.alloc (.cells #[.string ⟨#[]⟩, .int .u8 0, .int .i64 0, .float .f64 0, .int .i64 0, .string ⟨#[]⟩, .slice none 0 0, .slice none 0 0] 143)) := (Kept.refl [] w4).alloc _
        refine ⟨_, rfl, ?_, HE.out.2.1.kept hkz (by simp), HE.out.2.2.trans hkz (by simp)⟩
        refine ⟨some ⟨w4.heap.size, 0, none⟩, 1, rfl, Nat.le_refl _, fun _ => rfl, ?_⟩
        exact fat_of (by have := HE.out.2.2.size; omega) [Fld.zero] 0 _ ⟨_, [], (List.append_nil _).symm, rfl, ⟨_, rfl, VHeld.zero _ _⟩, rfl⟩ (fun j u hj => by have := cells_new w4 _ 143 j u hj; rwa [addr_add] at this)
      · go_wp2_with fail
        go_roundw
        case rel =>
          have hrest := HR.out.1
          rw [HD.out.1] at hrest
          have hst := hrest.step (by rw [HD.out.2.1]; omega)
          rw [HD.out.2.1, HD.out.2.2] at hst
          exact ⟨k + 1, xs ++ [.mk name x1], r1, by simp [HR.out.2.2.2.2], by omega, rfl, hst, by omega, by simp; omega, HE.out.1, HE.out.2.1, HE.out.2.2⟩
        case measure => simp [intOf]; omega
    · go_wp2_with fail
      go_ret
      have hrest := HR.out.1
      rw [List.drop_of_length_le (by omega)] at hrest
      rw [hrest.done]
      exact ⟨_, rfl, HR.out.2.1.fsl, HR.out.2.2.1, HR.out.2.2.2.1⟩
abbrev TB : TypeId := 113
theorem Blk.src {w : World} {g : Nat} {l : List UInt8} {t : TypeId} (h : Blk w g (u8s l).toArray t) (c : Nat) : Src w (.slice (some ⟨g, 0, none⟩) l.length c) g l := by
  refine .inr ⟨_, c, rfl, rfl, fun j v hj => ?_⟩
  rw [addr_add, Nat.zero_add, h.cell j]
  simpa using hj
set_option maxHeartbeats 400000 in
theorem write_any (q : Nat) (bs : List Nat) (s : Value) (d : Nat) (l m : List UInt8) (w : World) (hw : Wr TB w q bs l) (hs : Src w s d m) (hsl : ∃ ao c, s = .slice ao m.length c) (hlen : l.length + m.length ≤ 140737488355328) :
    Calls Tryz.prog 238 #[.pointer (some ⟨q, 0, none⟩), s] w fun e w' => e = .returned (.tuple #[.int .i64 (m.length : Int), .nilIface]) ∧
      ∃ bs', Wr TB w' q bs' (l ++ m) ∧ Adv q bs bs' w w' := by
  obtain ⟨ao, c, rfl⟩ := hsl
  obtain ⟨v, q1, q2, q3, q4⟩ := hw
  have c0 := q1.cell0
  have hne : ∀ b, v.ownBlock = some b → b ≠ q := fun b hb e => q4 (by rw [q3, hb, e]; simp)
  have HQ := Lib.hid (And.intro q1 (And.intro q2 (And.intro q3 hne))); have HS := Lib.hid hs
  clear q1 q2 q3 q4 hs hne
  go_enter Tryz.func238, Tryz.ntmps238
  go_wp2_with (refine wpList_append_bytes rfl (.tmp 10) (.tmp 11) 22 22 rfl Tryz.underlying22 Tryz.underlying22 v _ l m l.length m.length rfl rfl rfl rfl HQ.out.2.1 d HS.out hlen ?_; intro ao2 c2 w1 g1 g2 g3; have k1 := HQ.out.1.kept g2 (fun hm => HQ.out.2.2.2 q (by simpa using hm) rfl); have c1 := k1.cell0; have f1 := k1.free 0; have HG := Lib.hid (And.intro g1 (And.intro g2 (And.intro g3 k1))); clear g1 g2 g3 k1)
  go_ret2
  refine ⟨rfl, _, ⟨_, HG.out.2.2.2.setCell 0 _, ?_, rfl, ?_⟩, ⟨?_, ?_⟩⟩
  · have h := ownsRow_kept (S := [q]) HG.out.1 ((Kept.refl [q] w1).setCell (p := ⟨q, 0, none⟩) (by simp) (.slice ao2 (l.length + m.length) c2)) (fun b hb => nin1 (by
      rcases HG.out.2.2.1 with h | h
      · exact HQ.out.2.2.2 b (by rw [← h]; exact hb)
      · rw [h] at hb; cases hb; have := HQ.out.1.lt; omega))
    rw [List.length_append]; exact h
  · intro hm
    simp only [Option.mem_toList, Option.mem_def] at hm
    rcases HG.out.2.2.1 with h | h
    · exact HQ.out.2.2.2 q (by rw [← h]; exact hm) rfl
    · rw [h] at hm; cases hm; have := HQ.out.1.lt; omega
  · exact (HG.out.2.1.mono (by rw [HQ.out.2.2.1]; intro x hx; exact .inl (List.mem_cons_of_mem _ hx))).setCell (by simp) _
  · intro b hb
    simp only [Option.mem_toList, Option.mem_def] at hb
    rcases HG.out.2.2.1 with h | h
    · exact .inl (by rw [HQ.out.2.2.1, ← h]; simpa using hb)
    · rw [h] at hb; cases hb; exact .inr (Nat.le_refl _)
theorem mask_byte (a s : Nat) : (a &&& (255 * 2 ^ s)) / 2 ^ s % 256 = a / 2 ^ s % 256 := by
  rw [← Nat.shiftRight_eq_div_pow, ← Nat.shiftRight_eq_div_pow, Nat.shiftRight_and_distrib, Nat.shiftRight_eq_div_pow (255 * 2 ^ s), Nat.mul_div_cancel _ (Nat.two_pow_pos s)]
  have : (a >>> s) &&& 255 = (a >>> s) % 256 := Nat.and_two_pow_sub_one_eq_mod _ 8
  rw [this, Nat.mod_mod]
theorem mask16 (a s b d : Nat) (hb : b = 255 * 2 ^ s) (hd : d = 2 ^ s) (ha : a < 65536) (hbl : b < 65536) : bits .and .u16 (a : Int) (b : Int) / (d : Int) % 256 = ((UInt8.ofNat (a / d)).toNat : Int) := by
  rw [u16_and_nat a b ha hbl, ← Int.natCast_ediv, show (256 : Int) = ((256 : Nat) : Int) from rfl, ← Int.natCast_emod]
  subst hb hd
  rw [mask_byte]
  simp
theorem mask64 (a s b d : Nat) (hb : b = 255 * 2 ^ s) (hd : d = 2 ^ s) (ha : a < 18446744073709551616) (hbl : b < 18446744073709551616) : bits .and .u64 (a : Int) (b : Int) / (d : Int) % 256 = ((UInt8.ofNat (a / d)).toNat : Int) := by
  rw [u64_and_nat a b ha hbl, ← Int.natCast_ediv, show (256 : Int) = ((256 : Nat) : Int) from rfl, ← Int.natCast_emod]
  subst hb hd
  rw [mask_byte]
  simp
theorem be1 (n : Nat) : Lib.beBytes 1 n = [UInt8.ofNat n] := by
  apply List.ext_getElem?
  intro i
  by_cases h : i < 1
  · rw [beBytes_get 1 n i h]; have : i = 0 := by omega
    subst this; simp
  · rw [List.getElem?_eq_none (by simp [Lib.beBytes_length]; omega), List.getElem?_eq_none (by simp; omega)]
theorem be2 (n : Nat) : Lib.beBytes 2 n = [UInt8.ofNat (n / 256), UInt8.ofNat n] := by
  apply List.ext_getElem?
  intro i
  by_cases h : i < 2
  · rw [beBytes_get 2 n i h]
    match i, h with
    | 0, _ => simp
    | 1, _ => simp
  · rw [List.getElem?_eq_none (by simp [Lib.beBytes_length]; omega), List.getElem?_eq_none (by simp; omega)]
theorem be4 (n : Nat) : Lib.beBytes 4 n = [UInt8.ofNat (n / 16777216), UInt8.ofNat (n / 65536), UInt8.ofNat (n / 256), UInt8.ofNat n] := by
  apply List.ext_getElem?
  intro i
  by_cases h : i < 4
  · rw [beBytes_get 4 n i h]
    match i, h with
    | 0, _ => simp
    | 1, _ => simp
    | 2, _ => simp
    | 3, _ => simp
  · rw [List.getElem?_eq_none (by simp [Lib.beBytes_length]; omega), List.getElem?_eq_none (by simp; omega)]
theorem frameB_head (ty ch : Nat) (m : List UInt8) : frameB ty ch m = [UInt8.ofNat ty, UInt8.ofNat (ch / 256), UInt8.ofNat ch, UInt8.ofNat (m.length / 16777216), UInt8.ofNat (m.length / 65536), UInt8.ofNat (m.length / 256), UInt8.ofNat m.length] ++ m ++ [206] := by
  simp [frameB, be1, be2, be4]
theorem method_wbuf (k : Nat) (a : Addr) (w : World) : (method (k + 1) 111 (.pointer (some a)) "Write").run Tryz.prog w = .ok (238, .pointer (some a)) w := by kernel_rfl
theorem nilAhead_wbuf (k : Nat) (a : Addr) (w : World) : (nilAhead (k + 1) 111 (.pointer (some a)) "Write").run Tryz.prog w = .ok (some false) w := by kernel_rfl
set_option maxHeartbeats 1000000 in
set_option maxRecDepth 100000 in
theorem writeFrame_any (q ty ch : Nat) (s : Value) (m : List UInt8) (w : World) (bs : List Nat) (hw : Wr TB w q bs []) (d : Nat) (hs : Src w s d m) (hdq : d ≠ q) (hdb : d ∉ bs) (hdw : d < w.heap.size) (hsl : ∃ ao c, s = .slice ao m.length c) (hty : ty ≤ 255) (hch : ch ≤ 65535) (hlen : m.length ≤ 1000000) :
    Calls Tryz.prog 201 #[.iface 111 (.pointer (some ⟨q, 0, none⟩)), .int .u8 (ty : Int), .int .u16 (ch : Int), s] w fun e w' => e = .returned .nilIface ∧
      ∃ bs', Wr TB w' q bs' (frameB ty ch m) ∧ Adv q bs bs' w w' := by
  obtain ⟨ao, c, rfl⟩ := hsl
  have hm1 := method_wbuf
  have hm2 := nilAhead_wbuf
  have hlz : (m.length : Int) ≤ 1000000 := by omega
  have hcz : (ch : Int) ≤ 65535 := by omega
  obtain ⟨x0, e0, y0⟩ : ∃ x : UInt8, (ty : Int) = (x.toNat : Int) ∧ x = UInt8.ofNat ty := ⟨_, by simp; omega, rfl⟩
  obtain ⟨x1, e1, y1⟩ : ∃ x : UInt8, bits BinOp.and IntKind.u16 (ch : Int) 65280 / 256 % 256 = (x.toNat : Int) ∧ x = UInt8.ofNat (ch / 256) := ⟨_, mask16 ch 8 65280 256 rfl rfl (by omega) (by omega), rfl⟩
  obtain ⟨x2, e2, y2⟩ : ∃ x : UInt8, bits BinOp.and IntKind.u16 (ch : Int) 255 % 256 = (x.toNat : Int) ∧ x = UInt8.ofNat ch := ⟨_, by have := mask16 ch 0 255 1 rfl rfl (by omega) (by omega); simpa using this, rfl⟩
  obtain ⟨x3, e3, y3⟩ : ∃ x : UInt8, bits BinOp.and IntKind.u64 (m.length : Int) 4278190080 / 16777216 % 256 = (x.toNat : Int) ∧ x = UInt8.ofNat (m.length / 16777216) := ⟨_, mask64 m.length 24 4278190080 16777216 rfl rfl (by omega) (by omega), rfl⟩
  obtain ⟨x4, e4, y4⟩ : ∃ x : UInt8, bits BinOp.and IntKind.u64 (m.length : Int) 16711680 / 65536 % 256 = (x.toNat : Int) ∧ x = UInt8.ofNat (m.length / 65536) := ⟨_, mask64 m.length 16 16711680 65536 rfl rfl (by omega) (by omega), rfl⟩
  obtain ⟨x5, e5, y5⟩ : ∃ x : UInt8, bits BinOp.and IntKind.u64 (m.length : Int) 65280 / 256 % 256 = (x.toNat : Int) ∧ x = UInt8.ofNat (m.length / 256) := ⟨_, mask64 m.length 8 65280 256 rfl rfl (by omega) (by omega), rfl⟩
  obtain ⟨x6, e6, y6⟩ : ∃ x : UInt8, bits BinOp.and IntKind.u64 (m.length : Int) 255 % 256 = (x.toNat : Int) ∧ x = UInt8.ofNat m.length := ⟨_, by have := mask64 m.length 0 255 1 rfl rfl (by omega) (by omega); simpa using this, rfl⟩
  have hfb : frameB ty ch m = [x0, x1, x2, x3, x4, x5, x6] ++ m ++ [206] := by rw [frameB_head, y0, y1, y2, y3, y4, y5, y6]
  have HF := Lib.hid hfb
  have HE := Lib.hid e0
  clear hfb y0 y1 y2 y3 y4 y5 y6 e0
  rw [HE.out]
  have HW := Lib.hid (And.intro hw hs)
  clear hw hs
  go_enter Tryz.func201, Tryz.ntmps201
  go_wp2_with fail
  have hk0 : Kept [] w ((w.alloc (.cells #[.int .u8 206] 5)).alloc (.cells (u8s [x0, x1, x2, x3, x4, x5, x6]).toArray 5)) := ((Kept.refl [] w).alloc _).alloc _
  have hb0 : Blk ((w.alloc (.cells #[.int .u8 206] 5)).alloc (.cells (u8s [x0, x1, x2, x3, x4, x5, x6]).toArray 5)) (w.heap.size + 1) (u8s [x0, x1, x2, x3, x4, x5, x6]).toArray 5 := Blk.new_at (by simp)
  have hend : Blk ((w.alloc (.cells #[.int .u8 206] 5)).alloc (.cells (u8s [x0, x1, x2, x3, x4, x5, x6]).toArray 5)) w.heap.size (u8s [206]).toArray 5 := (Blk.new w _ _).alloc _
  have hqw := HW.out.1.lt
  have hbw := HW.out.1.blt
  have hw0 := HW.out.1.kept hk0 (by simp) (by simp)
  have hs0 := HW.out.2.kept hk0 (by simp)
  have HD := Lib.hid (And.intro hdq (And.intro hdb (And.intro hdw (And.intro hqw (And.intro hbw hk0))))); clear hdq hdb hdw hqw hbw
  generalize hwa : (w.alloc (.cells #[.int .u8 206] 5)).alloc (.cells (u8s [x0, x1, x2, x3, x4, x5, x6]).toArray 5) = wa at *
  have hwa' : (w.alloc (.cells #[.int .u8 206] 5)).alloc (.cells #[.int .u8 (x0.toNat : Int), .int .u8 (x1.toNat : Int), .int .u8 (x2.toNat : Int), .int .u8 (x3.toNat : Int), .int .u8 (x4.toNat : Int), .int .u8 (x5.toNat : Int), .int .u8 (x6.toNat : Int)] 5) = wa := hwa
  rw [hwa']
  have hsz : wa.heap.size = w.heap.size + 2 := by rw [← hwa]; simp
  have HZ := Lib.hid hsz; clear hwa hwa' hsz
  refine (write_any q bs _ (w.heap.size + 1) [] [x0, x1, x2, x3, x4, x5, x6] wa hw0 (hb0.src 7) ⟨_, 7, rfl⟩ (by simp)).mono ?_
  rintro e w1 ⟨rfl, bs1, hw1, ha1⟩
  have hs1 : Src w1 (.slice ao m.length c) d m := hs0.kept ha1.kept (by
    simp only [List.mem_cons, not_or]
    exact ⟨HD.out.1, HD.out.2.1⟩)
  have hend1 := hend.kept ha1.kept (by
    simp only [List.mem_cons, not_or]
    exact ⟨by have := HD.out.2.2.2.1; omega, fun hm => by have := HD.out.2.2.2.2.1 _ hm; omega⟩)
  have H1 := Lib.hid (And.intro hw1 (And.intro ha1 (And.intro hs1 hend1)))
  clear hw1 ha1 hs1 hend1 hs0 hend hw0 hb0 hk0
  go_wp2_with fail
  refine (write_any q bs1 _ d _ m w1 H1.out.1 H1.out.2.2.1 ⟨_, _, rfl⟩ (by simp; omega)).mono ?_
  rintro e w2 ⟨rfl, bs2, hw2, ha2⟩
  have ha12 := H1.out.2.1.trans ha2
  have hend2 := H1.out.2.2.2.kept ha2.kept (by
    simp only [List.mem_cons, not_or]
    refine ⟨by have := HD.out.2.2.2.1; omega, fun hm => ?_⟩
    rcases H1.out.2.1.own _ hm with h | h
    · have := HD.out.2.2.2.2.1 _ h; omega
    · have := HZ.out; omega)
  have H2 := Lib.hid (And.intro hw2 (And.intro ha12 hend2))
  clear hw2 ha12 hend2 ha2
  go_wp2_with fail
  refine (write_any q bs2 _ w.heap.size _ [206] w2 H2.out.1 (H2.out.2.2.src 1) ⟨_, 1, rfl⟩ (by simp; omega)).mono ?_
  rintro e w3 ⟨rfl, bs3, hw3, ha3⟩
  have ha13 := H2.out.2.1.trans ha3
  have H3 := Lib.hid (And.intro hw3 ha13)
  clear hw3 ha13 ha3
  go_wp2
  go_ret
  refine ⟨rfl, bs3, ?_, ?_⟩
  · rw [HF.out]; exact H3.out.1
  · refine ⟨(HD.out.2.2.2.2.2.mono (by simp)).trans H3.out.2.kept (fun x hx => .inl hx), fun b hb => ?_⟩
    rcases H3.out.2.own b hb with h | h
    · exact .inl h
    · have := HZ.out; exact .inr (by omega)
end Go.Proofs.YtkcdakohmfodjaaGreat
