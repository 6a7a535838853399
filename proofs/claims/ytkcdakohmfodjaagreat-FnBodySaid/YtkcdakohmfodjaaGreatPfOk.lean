/-
  ParseFrame: what it answers where the frame is read.
-/
import Derived.Test.YtkcdakohmfodjaaGreatPf
import Derived.StillTactics
namespace Go.Proofs.YtkcdakohmfodjaaGreat
open Go.RowKit
set_option linter.unusedVariables false
set_option linter.unusedSimpArgs false

theorem heap_same {w : World} {g : Nat} (f : Obj → Obj) {o : Obj} (h : w.heap[g]? = some o) (hf : f o = o) : ({ w with heap := w.heap.modify g f } : World) = w := by
  have hlt := lt_of_block h
  have h' : w.heap[g] = o := by simpa [Array.getElem?_eq_getElem hlt] using h
  have : w.heap.modify g f = w.heap := by
    apply Array.ext
    · simp
    · intro i h1 h2
      rw [Array.getElem_modify]
      split
      · rename_i he; subst he; rw [h', hf]
      · rfl
  rw [this]

theorem setRow_same {w : World} {g : Nat} {t : TypeId} {cs : Array Value} (h : Blk w g cs t) : w.setRow g cs = w := heap_same _ h rfl

theorem setCell_same {w : World} {g : Nat} {t : TypeId} {v : Value} (h : Blk w g #[v] t) : w.setCell ⟨g, 0, none⟩ v = w := heap_same _ h rfl

section
variable {P : Program}
/-- A load of a whole value from a variable that is known whole. -/
theorem wpList_load_row {ops : Array Oper} {rest : List Oper} {o : Oper} {a : Act} {w : World} {Q : Exit → Act → World → Prop} (hgd : o.guard = none) (ty : TypeId) (x : Operand) (ho : o.op = .load ty x)
    (g : Nat) (hx : a.eval x = .pointer (some ⟨g, 0, none⟩)) (t : TypeId) (cs : Array Value) (hg : Blk w g cs t) (d : TypeDesc)
    (hu : P.underlying ty = some d) (hd : (match d with | .struct _ | .array _ _ => true | _ => false) = true) (hi : (P.info? ty).map (·.size) = some cs.size)
    (h : wpList P ops Q rest (a.put o.dst (.agg cs)) w) : wpList P ops Q (o :: rest) a w := by
  refine wpList_plain hgd fun K hK => ?_
  have hr := run_loadAt_row (P := P) w g t ty cs d hg hu hd hi
  unfold Oper.wp execOp
  simp only [ho, hx, Sem.run_bind, Sem.run_pure, hr, Result.andThen_ok, Oper.upon_skip]
  exact hK _ _ h
end

section
variable {P : Program} {ops : Array Oper} {rest : List Oper} {o : Oper} {a : Act} {w : World} {Q : Act → Prop}
/-- A load of a whole value, in a region that leaves the world as it is. -/
theorem wpStill_load_row (hgd : o.guard = none) (ty : TypeId) (x : Operand) (ho : o.op = .load ty x) (g : Nat) (hx : a.eval x = .pointer (some ⟨g, 0, none⟩)) (t : TypeId) (cs : Array Value) (hg : Blk w g cs t) (d : TypeDesc)
    (hu : P.underlying ty = some d) (hd : (match d with | .struct _ | .array _ _ => true | _ => false) = true) (hi : (P.info? ty).map (·.size) = some cs.size)
    (h : wpStill P ops w Q rest (a.put o.dst (.agg cs))) : wpStill P ops w Q (o :: rest) a := by
  refine wpStill_step fun K hK => ?_
  have hr := run_loadAt_row (P := P) w g t ty cs d hg hu hd hi
  rw [if_pos (by simp [Region.wanted, hgd])]
  unfold Oper.still execOp
  simp only [ho, hx, Sem.run_bind, Sem.run_pure, hr, Result.andThen_ok, Oper.stillUpon_value]
  exact hK _ h

/-- A store of the value that is there, in a region that leaves the world as it is. -/
theorem wpStill_store_row (hgd : o.guard = none) (hdst : o.dst = none) (ty : TypeId) (x y : Operand) (ho : o.op = .store ty x y) (g : Nat) (hx : a.eval x = .pointer (some ⟨g, 0, none⟩)) (t : TypeId) (cs : List Value) (hg : Blk w g cs.toArray t)
    (hv : (a.eval y).cells = cs.toArray) (h1 : ∀ u ∈ cs, u.oneCell' = true) (hi : (P.info? ty).map (·.size) = some cs.length)
    (h : wpStill P ops w Q rest a) : wpStill P ops w Q (o :: rest) a := by
  refine wpStill_step fun K hK => ?_
  have hr := run_storeAt_row (P := P) w g t ty cs cs (a.eval y) hg hv rfl h1 hi
  rw [setRow_same hg] at hr
  rw [if_pos (by simp [Region.wanted, hgd])]
  unfold Oper.still execOp
  simp only [ho, hx, Sem.run_bind, Sem.run_pure, hr, Result.andThen_ok, Oper.stillUpon_skip, hdst, Act.put]
  exact hK _ h
end

/-- What the reading of a frame and the making of its data do: the forty cells and the bytes left. -/
def FrameGot (s : Value) (w1 : World) (R : Nat → List Value → Nat → World → Prop) : Prop :=
  Calls Tryz.prog 24 #[s, .int .u32 0] w1 fun e w' => ∃ (F : Value) (n : Nat), e = .returned (.tuple #[F, .int .i64 (n : Int), .nilIface]) ∧ Kept [] w1 w' ∧
    Calls Tryz.prog 25 #[F] w' fun e w2 => ∃ cs : List Value, e = .returned (.tuple #[.agg cs.toArray, .bool true]) ∧ cs.length = 40 ∧ (∀ u ∈ cs, u.oneCell' = true) ∧ Kept [] w' w2 ∧ R w1.heap.size cs n w2

set_option maxHeartbeats 400000 in
theorem parse1_ok (dt f ok re : Nat) (s : Value) (w : World) (R : Nat → List Value → Nat → World → Prop) (hd : w.cell? ⟨dt, 0, none⟩ = some s) (hs : ∃ ao n c, s = .slice ao n c)
    (hf : Blk w f frame0.toArray 35) (ho : ∃ v, Blk w ok #[v] 4) (hr : ∃ v, Blk w re #[v] 3) (h1 : f ≠ ok) (h2 : f ≠ re) (h3 : ok ≠ re) (hp : FrameGot s w R) :
    Calls Tryz.prog 23 #[.pointer (some ⟨dt, 0, none⟩), .pointer (some ⟨f, 0, none⟩), .pointer (some ⟨ok, 0, none⟩), .pointer (some ⟨re, 0, none⟩)] w fun e w' =>
      e = .returned (.tuple #[]) ∧ ∃ (cs : List Value) (n : Nat) (w2 : World), cs.length = 40 ∧ (∀ u ∈ cs, u.oneCell' = true) ∧ R w.heap.size cs n w2 ∧ Kept [] w w2 ∧ Kept [f, ok, re] w2 w' ∧
        Blk w' f cs.toArray 35 ∧ Blk w' ok #[.bool true] 4 ∧ Blk w' re #[.int .i64 (n : Int)] 3 := by
  obtain ⟨ao, n, c, rfl⟩ := hs
  obtain ⟨vo, ho⟩ := ho
  obtain ⟨vr, hr⟩ := hr
  have HP := Lib.hid hp; have HB := Lib.hid (And.intro hf (And.intro ho hr)); clear hp hf ho hr
  go_enter Tryz.func23, Tryz.ntmps23
  go_wp2_with (first
    | (go_at_call 24; refine HP.out.mono ?_; rintro e w1 ⟨F, n, rfl, hk, hc⟩; have HC := Lib.hid (And.intro hk hc); clear hk hc)
    | (go_at_call 25; refine HC.out.2.mono ?_; rintro e w2 ⟨cs, rfl, hl, h1c, hk2, hR⟩; have HR := Lib.hid (And.intro hl (And.intro h1c (And.intro (HC.out.1.trans hk2 (by simp)) hR))); clear hl h1c hk2 hR)
    | (refine wpList_store_row rfl rfl 35 (.tmp 1) (.tmp 18) rfl f rfl 35 frame0 cs (HB.out.1.kept HR.out.2.2.1 (by simp)) rfl HR.out.1 HR.out.2.1 (by rw [frame_size, HR.out.1]) ?_; intro w3 g1 g2; have b2 := (HB.out.2.1.kept HR.out.2.2.1 (by simp)).kept g2 (nin1 (Ne.symm h1)); have b3 := (HB.out.2.2.kept HR.out.2.2.1 (by simp)).kept g2 (nin1 (Ne.symm h2)); have q2 := b2.cell0; have f2 := b2.free 0; have q3 := b3.cell0; have f3 := b3.free 0; have HG := Lib.hid (And.intro g1 (And.intro g2 (And.intro b2 b3))); clear g1 g2 b2 b3))
  go_end0
  obtain ⟨g1, g2, b2, b3⟩ := HG.out
  have k0 : Kept [f, ok, re] w2 ((w3.setCell ⟨ok, 0, none⟩ (.bool true)).setCell ⟨re, 0, none⟩ (.int .i64 (n : Int))) := Kept.setCell (Kept.setCell (g2.mono (by simp)) (p := ⟨ok, 0, none⟩) (by simp) (.bool true)) (p := ⟨re, 0, none⟩) (by simp) (.int .i64 (n : Int))
  exact ⟨rfl, cs, n, w2, HR.out.1, HR.out.2.1, HR.out.2.2.2, HR.out.2.2.1, k0, (g1.setCell_other (by simpa using h1) _).setCell_other (by simpa using h2) _, (b2.setCell 0 (.bool true)).setCell_other (by simpa using h3) _, (b3.setCell_other (by simpa using Ne.symm h3) _).setCell 0 (.int .i64 (n : Int))⟩

theorem FrameGot.kept {s : Value} {w w' : World} {R : Nat → List Value → Nat → World → Prop} (h : FrameGot s w R) (he : w = w') : FrameGot s w' R := he ▸ h

set_option maxHeartbeats 1000000 in
set_option maxRecDepth 100000 in
theorem parse_ok (s : Value) (w : World) (hs : ∃ ao n c, s = .slice ao n c) (R : Nat → List Value → Nat → World → Prop) (hp : ∀ w1, Kept [] w w1 → FrameGot s w1 R) :
    Calls Tryz.prog 9 #[s] w fun e w' => ∃ (cs : List Value) (n base : Nat) (w2 : World) (S : List Nat), e = .returned (.tuple #[.agg cs.toArray, .int .i64 (n : Int), .bool true]) ∧
      cs.length = 40 ∧ (∀ u ∈ cs, u.oneCell' = true) ∧ w.heap.size ≤ base ∧ (∀ x ∈ S, x < base) ∧ R base cs n w2 ∧ Kept S w2 w' ∧ Kept [] w w' := by
  obtain ⟨ao, n, c, rfl⟩ := hs
  have ha := alloc_frame
  have hmf := mf_any
  obtain ⟨wa, hwa⟩ : ∃ wa, wa = (((w.alloc (.cells #[.slice ao n c] 22)).alloc (.cells frame0.toArray 35)).alloc (.cells #[.int .i64 0] 3)).alloc (.cells #[.bool false] 4) := ⟨_, rfl⟩
  have hka : Kept [] w wa := by subst hwa; exact ((((Kept.refl [] w).alloc _).alloc _).alloc _).alloc _
  have hb0 : Blk wa w.heap.size #[.slice ao n c] 22 := by subst hwa; exact (((Blk.new w _ _).alloc _).alloc _).alloc _
  have hb1 : Blk wa (w.heap.size + 1) frame0.toArray 35 := by subst hwa; exact ((Blk.new_at (by simp)).alloc _).alloc _
  have hb2 : Blk wa (w.heap.size + 1 + 1) #[.int .i64 0] 3 := by subst hwa; exact (Blk.new_at (by simp)).alloc _
  have hb3 : Blk wa (w.heap.size + 1 + 1 + 1) #[.bool false] 4 := by subst hwa; exact Blk.new_at (by simp)
  have hsz : wa.heap.size = w.heap.size + 1 + 1 + 1 + 1 := by subst hwa; simp
  have hkq : Kept [] wa (wa.alloc (.cells #[.bool false] 4)) := (Kept.refl [] wa).alloc _
  have hc1 := parse1_ok w.heap.size (w.heap.size + 1) (w.heap.size + 1 + 1 + 1) (w.heap.size + 1 + 1) (.slice ao n c) (wa.alloc (.cells #[.bool false] 4)) R (hb0.kept hkq (by simp)).cell0 ⟨ao, n, c, rfl⟩
    (hb1.kept hkq (by simp)) ⟨_, hb3.kept hkq (by simp)⟩ ⟨_, hb2.kept hkq (by simp)⟩ (by omega) (by omega) (by omega) (hp _ (hka.trans hkq (by simp)))
  have hq := quietly_parse _ _ _ _ wa (fun w' => ∃ (cs : List Value) (n : Nat) (w2 : World), cs.length = 40 ∧ (∀ u ∈ cs, u.oneCell' = true) ∧ R (wa.alloc (.cells #[.bool false] 4)).heap.size cs n w2 ∧ Kept [] (wa.alloc (.cells #[.bool false] 4)) w2 ∧ Kept [w.heap.size + 1, w.heap.size + 1 + 1 + 1, w.heap.size + 1 + 1] w2 w' ∧
        Blk w' (w.heap.size + 1) cs.toArray 35 ∧ Blk w' (w.heap.size + 1 + 1 + 1) #[.bool true] 4 ∧ Blk w' (w.heap.size + 1 + 1) #[.int .i64 (n : Int)] 3)
    (fun w' hk => by
      obtain ⟨cs, n, w2, _, _, _, h4, h5, _⟩ := hk
      exact ((Blk.new wa _ _).kept h4 (by simp)).kept h5 (by simp; omega)) hc1
  have HQ := Lib.hid hq; have HA := Lib.hid (And.intro hka hkq); have HZ := Lib.hid hsz
  have HW := Lib.hid hwa
  clear hq hc1 hka hkq hb0 hb1 hb2 hb3 hsz hp hwa
  go_enter Tryz.func9, Tryz.ntmps9
  go_wp2_with fail
  have hq := HQ.out
  rw [HW.out] at hq
  refine hq.mono ?_
  clear hq
  rintro e w' ⟨rfl, w1, ⟨cs, n1, w2, x1, x2, x3, x4, x5, b1, b3, b2⟩, rfl⟩
  rw [← HW.out] at x3 x4
  rw [← HW.out, HZ.out]
  obtain ⟨a1, a2⟩ := HA.out
  have hks : Kept [wa.heap.size] w1 (w1.setCell ⟨wa.heap.size, 0, none⟩ (.bool true)) := (Kept.refl _ w1).setCell (by simp) _
  rw [HZ.out] at hks
  have b1 := b1.kept hks (by simp)
  have b2 := b2.kept hks (by simp)
  have b3 := b3.kept hks (by simp)
  have hk5 := (x5.mono (S' := [w.heap.size + 1, w.heap.size + 1 + 1 + 1, w.heap.size + 1 + 1, w.heap.size + 1 + 1 + 1 + 1]) (fun x hx => .inl (by simp at hx ⊢; omega))).trans hks (fun x hx => .inl (by simp at hx ⊢; omega))
  have hkf : Kept [] w (w1.setCell ⟨w.heap.size + 1 + 1 + 1 + 1, 0, none⟩ (.bool true)) := ((a1.trans a2 (by simp)).trans x4 (by simp)).trans hk5 (fun x hx => .inr (by simp at hx; omega))
  generalize w1.setCell ⟨w.heap.size + 1 + 1 + 1 + 1, 0, none⟩ (.bool true) = w3 at b1 b2 b3 hkf hk5 ⊢
  have q2 := b2.cell0
  have q3 := b3.cell0
  have f2 := b2.free 0
  have f3 := b3.free 0
  have l3 := setCell_same (w := w3.drew) b2
  have l4 := setCell_same (w := w3.drew) b3
  have HB := Lib.hid (And.intro b1 (And.intro b2 (And.intro b3 (And.intro hkf (And.intro hk5 (And.intro x1 (And.intro x2 x3)))))))
  clear b1 b2 b3 hkf hks hk5 x1 x2 x3 x4 x5 a1 a2
  go_wp2_with fail
  refine wp_region_still_lit (by kernel_rfl) (by kernel_rfl) ?_
  change wpStill _ _ w3.drew _ _ _
  refine wpStill_load_row rfl 35 (.tmp 2) rfl (w.heap.size + 1) rfl 35 cs.toArray HB.out.1 _ Tryz.underlying35 rfl (by simp [HB.out.2.2.2.2.2.1, frame_size]) ?_
  still_step
  refine wpStill_store_row rfl rfl 35 (.tmp 2) (.tmp 15) rfl (w.heap.size + 1) rfl 35 cs HB.out.1 rfl HB.out.2.2.2.2.2.2.1 (by simp [HB.out.2.2.2.2.2.1, frame_size]) ?_
  still_step
  still_step
  refine wpStill_nil ?_
  go_wp2_with fail
  obtain ⟨b1, b2, b3, hkf, hk5, x1, x2, x3⟩ := HB.out
  have hk0 : Kept [] w3 w3.drew := (Kept.refl [] w3).drew
  refine bodyPost_ret (v := .tuple #[.agg cs.toArray, .int .i64 (n1 : Int), .bool true]) (results_parse (f := w.heap.size + 1) (re := w.heap.size + 1 + 1) (ok := w.heap.size + 1 + 1 + 1) rfl rfl rfl (b1.kept hk0 (by simp)) (by simp [x1]) (b2.kept hk0 (by simp)).cell0 (b3.kept hk0 (by simp)).cell0) rfl
    ⟨cs, n1, _, w2, _, rfl, x1, x2, ?_, ?_, x3, hk5.trans hk0 (by simp), hkf.trans hk0 (by simp)⟩
  · have := HZ.out; simp; omega
  · intro x hx; have := HZ.out; simp at hx ⊢; omega

end Go.Proofs.YtkcdakohmfodjaaGreat
