/-
  Lemmas on the way to the statement of YtkcdakohmfodjaaGreatMethodRead, joined out of these texts: Fmt, Rfw, Rtab, SortP, Rend. No condition.
-/
import Derived.Test.YtkcdakohmfodjaaGreatMAB
import Derived.Test.YtkcdakohmfodjaaGreatMAH
import Derived.Test.YtkcdakohmfodjaaGreatMAK
import Derived.Test.YtkcdakohmfodjaaGreatNRfv
namespace Go.Proofs.YtkcdakohmfodjaaGreat
open Go.RowKit
set_option linter.unusedVariables false
set_option linter.unusedSimpArgs false
set_option maxHeartbeats 400000 in
set_option maxRecDepth 100000 in
theorem written1_beat (fr ch b ok c0 : Nat) (w : World) (hf : w.cell? ⟨fr, 0, none⟩ = some (.func (.func 35) #[] #[])) (hc : w.cell? ⟨ch, 0, none⟩ = some (.int .i64 (c0 : Int))) (hc0 : c0 ≤ 65535)
    (hb : ∃ v, Blk w b #[v] 22) (ho : ∃ v, Blk w ok #[v] 4) (hbo : b ≠ ok) (l : List UInt8)
    (hmk : Calls Tryz.prog 35 #[.int .u16 (c0 : Int)] w fun e w' => ∃ p, e = .returned (.tuple #[.iface 89 (.pointer (some ⟨p, 0, none⟩)), .bool true]) ∧ Kept [] w w' ∧
      Calls Tryz.prog 52 #[.iface 89 (.pointer (some ⟨p, 0, none⟩))] w' fun e w2 => ∃ v g, e = .returned (.tuple #[v, .nilIface]) ∧ Row w2 v g l ∧ w'.heap.size ≤ g ∧ Kept [] w' w2) :
    Calls Tryz.prog 51 #[.pointer (some ⟨fr, 0, none⟩), .pointer (some ⟨ch, 0, none⟩), .pointer (some ⟨b, 0, none⟩), .pointer (some ⟨ok, 0, none⟩)] w fun e w' => e = .returned (.tuple #[]) ∧
      ∃ v g, Row w' v g l ∧ w.heap.size ≤ g ∧ Kept [b, ok] w w' ∧ Blk w' b #[v] 22 ∧ Blk w' ok #[.bool true] 4 := by
  have e1 : IntKind.u16.wrap (c0 : Int) = c0 := by rw [IntKind.wrap_u16]; omega
  have HM := Lib.hid hmk
  obtain ⟨vb, hb⟩ := hb
  obtain ⟨vo, ho⟩ := ho
  have HB := Lib.hid (And.intro hb ho)
  have hbw := hb.lt
  have how := ho.lt
  clear hmk hb ho
  go_enter Tryz.func51, Tryz.ntmps51
  go_wp2_with (first
    | (go_at_call 35; refine HM.out.mono ?_; rintro e w1 ⟨p, rfl, hk1, hz1⟩; have HZ := Lib.hid (And.intro hk1 hz1); clear hk1 hz1)
    | (go_at_call 52; refine HZ.out.2.mono ?_; rintro e w2 ⟨v, g, rfl, hz1, hz2, hz3⟩; have hk2 := HZ.out.1.trans hz3 (by simp); obtain ⟨c, rfl, hrow⟩ := hz1; have hb1 := HB.out.1.kept hk2 (by simp); have hb2 := HB.out.2.kept hk2 (by simp); have q1 := hb1.cell0; have q2 := hb2.cell0; have f1 := hb1.free 0; have f2 := hb2.free 0; have HR := Lib.hid (And.intro hrow (And.intro (Nat.le_trans HZ.out.1.size hz2) (And.intro hk2 (And.intro hb1 hb2)))); clear hrow hz2 hz3 hk2 hb1 hb2))
  go_region
  all_goals
    go_wp2
    go_end0
    have hgw := HR.out.2.1
    have k0 : Kept [b, ok] w2 ((w2.drew.setCell ⟨b, 0, none⟩ (.slice (some ⟨g, 0, none⟩) l.length c)).setCell ⟨ok, 0, none⟩ (.bool true)) := Kept.setCell (Kept.setCell (Kept.refl [b, ok] w2).drew (p := ⟨b, 0, none⟩) (by simp) (.slice (some ⟨g, 0, none⟩) l.length c)) (p := ⟨ok, 0, none⟩) (by simp) (.bool true)
    have r0 : Row w2 (.slice (some ⟨g, 0, none⟩) l.length c) g l := ⟨c, rfl, HR.out.1⟩
    have b0 : Blk ((w2.drew.setCell ⟨b, 0, none⟩ (.slice (some ⟨g, 0, none⟩) l.length c)).setCell ⟨ok, 0, none⟩ (.bool true)) b #[.slice (some ⟨g, 0, none⟩) l.length c] 22 := Blk.setCell_other (Blk.setCell (w := w2.drew) HR.out.2.2.2.1 0 _) (by simpa using hbo) _
    have o0 : Blk ((w2.drew.setCell ⟨b, 0, none⟩ (.slice (some ⟨g, 0, none⟩) l.length c)).setCell ⟨ok, 0, none⟩ (.bool true)) ok #[.bool true] 4 := Blk.setCell (Blk.setCell_other (w := w2.drew) HR.out.2.2.2.2 (by simpa using Ne.symm hbo) _) 0 _
    exact ⟨rfl, _, g, r0.kept k0 (nin2 (by omega) (by omega)), hgw, (HR.out.2.2.1.mono (by simp)).trans k0 (fun x hx => .inl hx), b0, o0⟩
set_option maxHeartbeats 1000000 in
set_option maxRecDepth 100000 in
theorem written_beat (c0 : Nat) (w : World) (hc0 : c0 ≤ 65535) (l : List UInt8)
    (hmk : ∀ w1, Kept [] w w1 → Calls Tryz.prog 35 #[.int .u16 (c0 : Int)] w1 fun e w' => ∃ p, e = .returned (.tuple #[.iface 89 (.pointer (some ⟨p, 0, none⟩)), .bool true]) ∧ Kept [] w1 w' ∧
      Calls Tryz.prog 52 #[.iface 89 (.pointer (some ⟨p, 0, none⟩))] w' fun e w2 => ∃ v g, e = .returned (.tuple #[v, .nilIface]) ∧ Row w2 v g l ∧ w'.heap.size ≤ g ∧ Kept [] w' w2) :
    Calls Tryz.prog 33 #[.int .i64 (c0 : Int), .func (.func 35) #[] #[]] w fun e w' => ∃ v g, e = .returned (.tuple #[v, .bool true]) ∧ Row w' v g l ∧ w.heap.size ≤ g ∧ Kept [] w w' := by
  have hmf := mf_any
  have e1 : IntKind.u16.wrap (c0 : Int) = c0 := by rw [IntKind.wrap_u16]; omega
  have e2 : IntKind.i64.wrap (c0 : Int) = c0 := by rw [IntKind.wrap_i64]; omega
  obtain ⟨wa, hwa⟩ : ∃ wa, wa = (((w.alloc (.cells #[.int .i64 (c0 : Int)] 3)).alloc (.cells #[.func (.func 35) #[] #[]] 88)).alloc (.cells #[.slice none 0 0] 22)).alloc (.cells #[.bool false] 4) := ⟨_, rfl⟩
  have hka : Kept [] w wa := by subst hwa; exact ((((Kept.refl [] w).alloc _).alloc _).alloc _).alloc _
  have hb0 : Blk wa w.heap.size #[.int .i64 (c0 : Int)] 3 := by subst hwa; exact (((Blk.new w _ _).alloc _).alloc _).alloc _
  have hb1 : Blk wa (w.heap.size + 1) #[.func (.func 35) #[] #[]] 88 := by subst hwa; exact ((Blk.new_at (by simp)).alloc _).alloc _
  have hb2 : Blk wa (w.heap.size + 1 + 1) #[.slice none 0 0] 22 := by subst hwa; exact (Blk.new_at (by simp)).alloc _
  have hb3 : Blk wa (w.heap.size + 1 + 1 + 1) #[.bool false] 4 := by subst hwa; exact Blk.new_at (by simp)
  have hsz : wa.heap.size = w.heap.size + 1 + 1 + 1 + 1 := by subst hwa; simp
  have hkq : Kept [] wa (wa.alloc (.cells #[.bool false] 4)) := (Kept.refl [] wa).alloc _
  have hc1 := written1_beat (w.heap.size + 1) w.heap.size (w.heap.size + 1 + 1) (w.heap.size + 1 + 1 + 1) c0 (wa.alloc (.cells #[.bool false] 4)) (hb1.kept hkq (by simp)).cell0 (hb0.kept hkq (by simp)).cell0 hc0 ⟨_, hb2.kept hkq (by simp)⟩ ⟨_, hb3.kept hkq (by simp)⟩ (by omega) l (hmk _ (hka.trans hkq (by simp)))
  have hq := quietly_write _ _ _ _ wa (fun w' => ∃ v g, Row w' v g l ∧ (wa.alloc (.cells #[.bool false] 4)).heap.size ≤ g ∧ Kept [w.heap.size + 1 + 1, w.heap.size + 1 + 1 + 1] (wa.alloc (.cells #[.bool false] 4)) w' ∧ Blk w' (w.heap.size + 1 + 1) #[v] 22 ∧ Blk w' (w.heap.size + 1 + 1 + 1) #[.bool true] 4)
    (fun w' hk => by obtain ⟨v, g, _, _, h3, _, _⟩ := hk; exact (Blk.new wa _ _).kept h3 (nin2 (by omega) (by omega))) hc1
  have HQ := Lib.hid hq; have HA := Lib.hid (And.intro hka hkq); have HZ := Lib.hid hsz
  have HW := Lib.hid hwa
  clear hq hc1 hka hkq hb0 hb1 hb2 hb3 hsz hmk hwa
  go_enter Tryz.func33, Tryz.ntmps33
  go_wp2_with fail
  rw [← HW.out]
  refine HQ.out.mono ?_
  rintro e w' ⟨rfl, w1, ⟨v, g, g1, g2, g3, g4, g5⟩, rfl⟩
  rw [HZ.out]
  have hg : w.heap.size + 1 + 1 + 1 + 1 + 1 ≤ g := by have := HZ.out; simp only [World.size_alloc] at g2; omega
  have hks : Kept [w.heap.size + 1 + 1 + 1 + 1] w1 (w1.setCell ⟨w.heap.size + 1 + 1 + 1 + 1, 0, none⟩ (.bool true)) := (Kept.refl _ w1).setCell (by simp) _
  have b2 := g4.kept hks (nin1 (by omega))
  have b3 := g5.kept hks (nin1 (by omega))
  have r1 := g1.kept hks (nin1 (by omega))
  have hkf : Kept [] w (w1.setCell ⟨w.heap.size + 1 + 1 + 1 + 1, 0, none⟩ (.bool true)) := Kept.setCell ((HA.out.1.trans HA.out.2 (by simp)).trans g3 (by simp; omega)) (by simp; omega) _
  generalize w1.setCell ⟨w.heap.size + 1 + 1 + 1 + 1, 0, none⟩ (.bool true) = w2 at b2 b3 r1 hkf ⊢
  obtain ⟨c, rfl, hrow⟩ := r1
  have q2 := b2.cell0
  have q3 := b3.cell0
  have f2 := b2.free 0
  have f3 := b3.free 0
  have HB := Lib.hid (And.intro b2 (And.intro b3 (And.intro hkf hrow)))
  clear b2 b3 hkf hks g1 g2 g3 g4 g5 hrow
  go_wp2
  have k0 : Kept [w.heap.size + 1 + 1, w.heap.size + 1 + 1 + 1] w2 ((w2.setCell ⟨w.heap.size + 1 + 1, 0, none⟩ (.slice (some ⟨g, 0, none⟩) l.length c)).setCell ⟨w.heap.size + 1 + 1 + 1, 0, none⟩ (.bool true)) := Kept.setCell (Kept.setCell (Kept.refl [w.heap.size + 1 + 1, w.heap.size + 1 + 1 + 1] w2) (p := ⟨w.heap.size + 1 + 1, 0, none⟩) (by simp) (.slice (some ⟨g, 0, none⟩) l.length c)) (p := ⟨w.heap.size + 1 + 1 + 1, 0, none⟩) (by simp) (.bool true)
  have b0 := (Blk.setCell (w := w2) HB.out.1 0 (.slice (some ⟨g, 0, none⟩) l.length c)).setCell_other (p := ⟨w.heap.size + 1 + 1 + 1, 0, none⟩) (by simp only []; omega) (.bool true)
  have o0 := (Blk.setCell_other (w := w2) HB.out.2.1 (p := ⟨w.heap.size + 1 + 1, 0, none⟩) (by simp only []; omega) (.slice (some ⟨g, 0, none⟩) l.length c)).setCell 0 (.bool true)
  have p0 := b0.cell0
  have p1 := o0.cell0
  refine bodyPost_ret (v := .tuple #[.slice (some ⟨g, 0, none⟩) l.length c, .bool true]) (by simp [results, Tryz.results33, go_sem, loadVar, asAddr, p0, p1]) rfl ⟨_, g, rfl, Row.kept ⟨c, rfl, HB.out.2.2.2⟩ k0 (nin2 (by omega) (by omega)), by omega, HB.out.2.2.1.trans k0 (by simp; omega)⟩
set_option maxHeartbeats 400000 in
theorem mkBeat_any (w : World) : Calls Tryz.prog 35 #[.int .u16 0] w fun e w' => e = .returned (.tuple #[.iface 89 (.pointer (some ⟨w.heap.size, 0, none⟩)), .bool true]) ∧
    w.alloc (.cells #[.int .u16 0] 91) = w' := by
  go_enter Tryz.func35, Tryz.ntmps35
  go_wp2
  go_ret2
  exact ⟨rfl, rfl⟩
theorem writtenBeat_any (w : World) : Calls Tryz.prog 33 #[.int .i64 0, .func (.func 35) #[] #[]] w fun e w' => ∃ v g, e = .returned (.tuple #[v, .bool true]) ∧ Row w' v g (frameB 8 0 []) ∧ w.heap.size ≤ g ∧ Kept [] w w' := by
  refine written_beat 0 w (by omega) (frameB 8 0 []) fun w1 hk => ?_
  refine (mkBeat_any w1).mono fun e w' h => ?_
  obtain ⟨rfl, rfl⟩ := h
  refine ⟨_, rfl, (Kept.refl [] w1).alloc _, ?_⟩
  refine zz_beat w1.heap.size _ (frameB 8 0 []) (by rw [frameB_length]; simp) fun w2 q hk2 hq hw => ?_
  have hb : Blk w2 w1.heap.size #[.int .u16 0] 91 := (Blk.new w1 _ _).kept hk2 (by simp)
  exact beatWrite_any q w1.heap.size [] w2 hw hb.cell0
set_option maxHeartbeats 400000 in
theorem formatBeat_any (w : World) : Calls Tryz.prog 15 #[] w fun e w' => ∃ v g, e = .returned (.tuple #[v, .bool true]) ∧ Row w' v g (frameB 8 0 []) ∧ w.heap.size ≤ g ∧ Kept [] w w' := by
  have hc := writtenBeat_any w
  have HC := Lib.hid hc; clear hc
  go_enter Tryz.func15, Tryz.ntmps15
  go_wp2_with (go_at_call 33; refine HC.out.mono ?_; rintro e w1 ⟨v, g, rfl, hR⟩)
  go_ret2
  exact ⟨v, g, rfl, hR⟩
set_option maxHeartbeats 400000 in
theorem works_any (w : World) : Calls Tryz.prog 7 #[] w fun e w' => e = .returned (.bool true) ∧ Kept [] w w' := by
  have hc := formatBeat_any w
  have HC := Lib.hid hc; clear hc
  go_enter Tryz.func7, Tryz.ntmps7
  go_wp2_with (go_at_call 15; refine HC.out.mono ?_; rintro e w1 ⟨v, g, rfl, hR, hR2, hR3⟩; obtain ⟨c, rfl, hR4⟩ := hR; rw [show (frameB 8 0 []).length = 8 by rw [frameB_length]; rfl]; have HR := Lib.hid hR3; clear hR2 hR3 hR4)
  go_ret
  exact ⟨rfl, HR.out⟩
set_option maxHeartbeats 1000000 in
set_option maxRecDepth 100000 in
theorem rfv_65 {w : World} {r : Value} {ps : List Nat} {d : Nat} {Ns : List Nat} (dep : Int) (h0 : 0 ≤ dep) (h1 : dep ≤ 1000) (body : List UInt8) (h : Rd w r ps d Ns (65 :: body)) (hl : body.length ≤ 900000000) (hav : 1 ≤ avail Ns (65 :: body)) (hd : d < w.heap.size) (Q : Value → World → Prop)
    (hc : ∀ W, Kept ps w W → Rd W r ps d (Ns.map (· - 1)) body → Calls Tryz.prog 177 #[r, .int .i64 (dep + 1)] W fun e w' => ∃ x, e = .returned (.tuple #[x, .nilIface]) ∧ Q x w') :
    Calls Tryz.prog 165 #[r, .int .i64 dep] w fun e w' => ∃ x, e = .returned (.tuple #[.iface 192 x, .nilIface]) ∧ Q x w' := by
  have HC := Lib.hid hc; clear hc
  have hdw : IntKind.i64.wrap (dep + 1) = dep + 1 := by rw [IntKind.wrap_i64]; omega
  have hka : Kept [] w (w.alloc (.cells #[.int .u8 0] 5)) := (Kept.refl [] w).alloc _
  have hb0 : Blk (w.alloc (.cells #[.int .u8 0] 5)) w.heap.size #[.int .u8 0] 5 := Blk.new w _ _
  have hgp : ∀ b, w.heap.size ≤ b → b ∉ ps := fun b hb hm => by have := h.mem_lt _ hm; omega
  have hav1 : avail (Ns.map (· - 1)) body = avail Ns (65 :: body) - 1 := avail_map Ns [65] body
  have hf := rfix_u8 [65] body rfl (h.kept hka (by simp) (by simp)) (by omega) (by simp only [List.cons_append, List.nil_append]; omega) (Nat.lt_of_lt_of_le hd hka.size) w.heap.size 0 _ hb0.cell0 (hb0.free 0) (hgp _ (Nat.le_refl _)) (by omega)
  rw [show Lib.beNat [65] = 65 from rfl] at hf
  have HF := Lib.hid hf; have H := Lib.hid (And.intro hka (And.intro hb0 (And.intro hgp (And.intro hav1 (And.intro hl (And.intro hd hav))))))
  clear hf hka hb0 hgp hav1 hl hav h hd
  go_enter Tryz.func165, Tryz.ntmps165
  go_upto_region 4 with (go_at_call 77; refine HF.out.mono ?_; rintro e w2 ⟨rfl, w1, k1, r1, rfl⟩)
  obtain ⟨ka, b0, gp, av, hl, hd, hav⟩ := H.out
  have hks : Kept [w.heap.size] w1 (w1.setCell ⟨w.heap.size, 0, none⟩ (.int .u8 65)) := (Kept.refl _ w1).setCell (by simp) _
  have hr2 := r1.kept hks (fun p hp e => gp w.heap.size (Nat.le_refl _) (by simp at e; rw [← e]; exact hp)) (by simp; omega)
  have hb2 : Blk (w1.setCell ⟨w.heap.size, 0, none⟩ (.int .u8 65)) w.heap.size #[.int .u8 65] 5 := (b0.kept k1 (gp w.heap.size (Nat.le_refl _))).setCell 0 _
  have hk2 : Kept ps w (w1.setCell ⟨w.heap.size, 0, none⟩ (.int .u8 65)) := ((ka.mono (by simp)).trans k1 (fun x hx => .inl hx)).trans hks (by simp)
  change Code.wp _ _ _ _ (w1.setCell ⟨w.heap.size, 0, none⟩ (.int .u8 65))
  generalize w1.setCell ⟨w.heap.size, 0, none⟩ (.int .u8 65) = w3 at hr2 hb2 hk2 ⊢
  have c0 := hb2.cell0
  have HR := Lib.hid (HC.out w3 hk2 hr2)
  clear hk2 hr2 hb2 hks r1 k1 ka b0 gp av hl hd
  go_wp2_with (go_at_call 177; refine HR.out.mono ?_; rintro e w2 ⟨x, rfl, hq⟩; have HQ := Lib.hid hq; clear hq)
  go_ret2
  exact ⟨_, rfl, HQ.out⟩
set_option maxHeartbeats 1000000 in
set_option maxRecDepth 100000 in
theorem rfv_70 {w : World} {r : Value} {ps : List Nat} {d : Nat} {Ns : List Nat} (dep : Int) (h0 : 0 ≤ dep) (h1 : dep ≤ 1000) (body : List UInt8) (h : Rd w r ps d Ns (70 :: body)) (hl : body.length ≤ 900000000) (hav : 1 ≤ avail Ns (70 :: body)) (hd : d < w.heap.size) (Q : Value → World → Prop)
    (hc : ∀ W, Kept ps w W → Rd W r ps d (Ns.map (· - 1)) body → Calls Tryz.prog 158 #[r, .int .i64 (dep + 1)] W fun e w' => ∃ x, e = .returned (.tuple #[x, .nilIface]) ∧ Q x w') :
    Calls Tryz.prog 165 #[r, .int .i64 dep] w fun e w' => ∃ x, e = .returned (.tuple #[.iface 96 x, .nilIface]) ∧ Q x w' := by
  have HC := Lib.hid hc; clear hc
  have hdw : IntKind.i64.wrap (dep + 1) = dep + 1 := by rw [IntKind.wrap_i64]; omega
  have hka : Kept [] w (w.alloc (.cells #[.int .u8 0] 5)) := (Kept.refl [] w).alloc _
  have hb0 : Blk (w.alloc (.cells #[.int .u8 0] 5)) w.heap.size #[.int .u8 0] 5 := Blk.new w _ _
  have hgp : ∀ b, w.heap.size ≤ b → b ∉ ps := fun b hb hm => by have := h.mem_lt _ hm; omega
  have hav1 : avail (Ns.map (· - 1)) body = avail Ns (70 :: body) - 1 := avail_map Ns [70] body
  have hf := rfix_u8 [70] body rfl (h.kept hka (by simp) (by simp)) (by omega) (by simp only [List.cons_append, List.nil_append]; omega) (Nat.lt_of_lt_of_le hd hka.size) w.heap.size 0 _ hb0.cell0 (hb0.free 0) (hgp _ (Nat.le_refl _)) (by omega)
  rw [show Lib.beNat [70] = 70 from rfl] at hf
  have HF := Lib.hid hf; have H := Lib.hid (And.intro hka (And.intro hb0 (And.intro hgp (And.intro hav1 (And.intro hl (And.intro hd hav))))))
  clear hf hka hb0 hgp hav1 hl hav h hd
  go_enter Tryz.func165, Tryz.ntmps165
  go_upto_region 4 with (go_at_call 77; refine HF.out.mono ?_; rintro e w2 ⟨rfl, w1, k1, r1, rfl⟩)
  obtain ⟨ka, b0, gp, av, hl, hd, hav⟩ := H.out
  have hks : Kept [w.heap.size] w1 (w1.setCell ⟨w.heap.size, 0, none⟩ (.int .u8 70)) := (Kept.refl _ w1).setCell (by simp) _
  have hr2 := r1.kept hks (fun p hp e => gp w.heap.size (Nat.le_refl _) (by simp at e; rw [← e]; exact hp)) (by simp; omega)
  have hb2 : Blk (w1.setCell ⟨w.heap.size, 0, none⟩ (.int .u8 70)) w.heap.size #[.int .u8 70] 5 := (b0.kept k1 (gp w.heap.size (Nat.le_refl _))).setCell 0 _
  have hk2 : Kept ps w (w1.setCell ⟨w.heap.size, 0, none⟩ (.int .u8 70)) := ((ka.mono (by simp)).trans k1 (fun x hx => .inl hx)).trans hks (by simp)
  change Code.wp _ _ _ _ (w1.setCell ⟨w.heap.size, 0, none⟩ (.int .u8 70))
  generalize w1.setCell ⟨w.heap.size, 0, none⟩ (.int .u8 70) = w3 at hr2 hb2 hk2 ⊢
  have c0 := hb2.cell0
  have HR := Lib.hid (HC.out w3 hk2 hr2)
  clear hk2 hr2 hb2 hks r1 k1 ka b0 gp av hl hd
  go_wp2_with (go_at_call 158; refine HR.out.mono ?_; rintro e w2 ⟨x, rfl, hq⟩; have HQ := Lib.hid hq; clear hq)
  go_ret2
  exact ⟨_, rfl, HQ.out⟩
set_option maxHeartbeats 1000000 in
set_option maxRecDepth 100000 in
theorem rfv_83 {w : World} {r : Value} {ps : List Nat} {d : Nat} {Ns : List Nat} (dep : Int) (h0 : 0 ≤ dep) (h1 : dep ≤ 1000) (body : List UInt8) (h : Rd w r ps d Ns (83 :: body)) (hl : body.length ≤ 900000000) (hav : 1 ≤ avail Ns (83 :: body)) (hd : d < w.heap.size) (Q : Value → World → Prop)
    (hc : ∀ W, Kept ps w W → Rd W r ps d (Ns.map (· - 1)) body → Calls Tryz.prog 157 #[r] W fun e w' => ∃ x, e = .returned (.tuple #[x, .nilIface]) ∧ Q x w') :
    Calls Tryz.prog 165 #[r, .int .i64 dep] w fun e w' => ∃ x, e = .returned (.tuple #[.iface 9 x, .nilIface]) ∧ Q x w' := by
  have HC := Lib.hid hc; clear hc
  have hka : Kept [] w (w.alloc (.cells #[.int .u8 0] 5)) := (Kept.refl [] w).alloc _
  have hb0 : Blk (w.alloc (.cells #[.int .u8 0] 5)) w.heap.size #[.int .u8 0] 5 := Blk.new w _ _
  have hgp : ∀ b, w.heap.size ≤ b → b ∉ ps := fun b hb hm => by have := h.mem_lt _ hm; omega
  have hav1 : avail (Ns.map (· - 1)) body = avail Ns (83 :: body) - 1 := avail_map Ns [83] body
  have hf := rfix_u8 [83] body rfl (h.kept hka (by simp) (by simp)) (by omega) (by simp only [List.cons_append, List.nil_append]; omega) (Nat.lt_of_lt_of_le hd hka.size) w.heap.size 0 _ hb0.cell0 (hb0.free 0) (hgp _ (Nat.le_refl _)) (by omega)
  rw [show Lib.beNat [83] = 83 from rfl] at hf
  have HF := Lib.hid hf; have H := Lib.hid (And.intro hka (And.intro hb0 (And.intro hgp (And.intro hav1 (And.intro hl (And.intro hd hav))))))
  clear hf hka hb0 hgp hav1 hl hav h hd
  go_enter Tryz.func165, Tryz.ntmps165
  go_upto_region 4 with (go_at_call 77; refine HF.out.mono ?_; rintro e w2 ⟨rfl, w1, k1, r1, rfl⟩)
  obtain ⟨ka, b0, gp, av, hl, hd, hav⟩ := H.out
  have hks : Kept [w.heap.size] w1 (w1.setCell ⟨w.heap.size, 0, none⟩ (.int .u8 83)) := (Kept.refl _ w1).setCell (by simp) _
  have hr2 := r1.kept hks (fun p hp e => gp w.heap.size (Nat.le_refl _) (by simp at e; rw [← e]; exact hp)) (by simp; omega)
  have hb2 : Blk (w1.setCell ⟨w.heap.size, 0, none⟩ (.int .u8 83)) w.heap.size #[.int .u8 83] 5 := (b0.kept k1 (gp w.heap.size (Nat.le_refl _))).setCell 0 _
  have hk2 : Kept ps w (w1.setCell ⟨w.heap.size, 0, none⟩ (.int .u8 83)) := ((ka.mono (by simp)).trans k1 (fun x hx => .inl hx)).trans hks (by simp)
  change Code.wp _ _ _ _ (w1.setCell ⟨w.heap.size, 0, none⟩ (.int .u8 83))
  generalize w1.setCell ⟨w.heap.size, 0, none⟩ (.int .u8 83) = w3 at hr2 hb2 hk2 ⊢
  have c0 := hb2.cell0
  have HR := Lib.hid (HC.out w3 hk2 hr2)
  clear hk2 hr2 hb2 hks r1 k1 ka b0 gp av hl hd
  go_wp2_with (go_at_call 157; refine HR.out.mono ?_; rintro e w2 ⟨x, rfl, hq⟩; have HQ := Lib.hid hq; clear hq)
  go_ret2
  exact ⟨_, rfl, HQ.out⟩
set_option maxHeartbeats 1000000 in
set_option maxRecDepth 100000 in
theorem rfv_84 {w : World} {r : Value} {ps : List Nat} {d : Nat} {Ns : List Nat} (dep : Int) (h0 : 0 ≤ dep) (h1 : dep ≤ 1000) (body : List UInt8) (h : Rd w r ps d Ns (84 :: body)) (hl : body.length ≤ 900000000) (hav : 1 ≤ avail Ns (84 :: body)) (hd : d < w.heap.size) (Q : Value → World → Prop)
    (hc : ∀ W, Kept ps w W → Rd W r ps d (Ns.map (· - 1)) body → Calls Tryz.prog 146 #[r] W fun e w' => ∃ x, e = .returned (.tuple #[x, .nilIface]) ∧ Q x w') :
    Calls Tryz.prog 165 #[r, .int .i64 dep] w fun e w' => ∃ x, e = .returned (.tuple #[.iface 99 x, .nilIface]) ∧ Q x w' := by
  have HC := Lib.hid hc; clear hc
  have hka : Kept [] w (w.alloc (.cells #[.int .u8 0] 5)) := (Kept.refl [] w).alloc _
  have hb0 : Blk (w.alloc (.cells #[.int .u8 0] 5)) w.heap.size #[.int .u8 0] 5 := Blk.new w _ _
  have hgp : ∀ b, w.heap.size ≤ b → b ∉ ps := fun b hb hm => by have := h.mem_lt _ hm; omega
  have hav1 : avail (Ns.map (· - 1)) body = avail Ns (84 :: body) - 1 := avail_map Ns [84] body
  have hf := rfix_u8 [84] body rfl (h.kept hka (by simp) (by simp)) (by omega) (by simp only [List.cons_append, List.nil_append]; omega) (Nat.lt_of_lt_of_le hd hka.size) w.heap.size 0 _ hb0.cell0 (hb0.free 0) (hgp _ (Nat.le_refl _)) (by omega)
  rw [show Lib.beNat [84] = 84 from rfl] at hf
  have HF := Lib.hid hf; have H := Lib.hid (And.intro hka (And.intro hb0 (And.intro hgp (And.intro hav1 (And.intro hl (And.intro hd hav))))))
  clear hf hka hb0 hgp hav1 hl hav h hd
  go_enter Tryz.func165, Tryz.ntmps165
  go_upto_region 4 with (go_at_call 77; refine HF.out.mono ?_; rintro e w2 ⟨rfl, w1, k1, r1, rfl⟩)
  obtain ⟨ka, b0, gp, av, hl, hd, hav⟩ := H.out
  have hks : Kept [w.heap.size] w1 (w1.setCell ⟨w.heap.size, 0, none⟩ (.int .u8 84)) := (Kept.refl _ w1).setCell (by simp) _
  have hr2 := r1.kept hks (fun p hp e => gp w.heap.size (Nat.le_refl _) (by simp at e; rw [← e]; exact hp)) (by simp; omega)
  have hb2 : Blk (w1.setCell ⟨w.heap.size, 0, none⟩ (.int .u8 84)) w.heap.size #[.int .u8 84] 5 := (b0.kept k1 (gp w.heap.size (Nat.le_refl _))).setCell 0 _
  have hk2 : Kept ps w (w1.setCell ⟨w.heap.size, 0, none⟩ (.int .u8 84)) := ((ka.mono (by simp)).trans k1 (fun x hx => .inl hx)).trans hks (by simp)
  change Code.wp _ _ _ _ (w1.setCell ⟨w.heap.size, 0, none⟩ (.int .u8 84))
  generalize w1.setCell ⟨w.heap.size, 0, none⟩ (.int .u8 84) = w3 at hr2 hb2 hk2 ⊢
  have c0 := hb2.cell0
  have HR := Lib.hid (HC.out w3 hk2 hr2)
  clear hk2 hr2 hb2 hks r1 k1 ka b0 gp av hl hd
  go_wp2_with (go_at_call 146; refine HR.out.mono ?_; rintro e w2 ⟨x, rfl, hq⟩; have HQ := Lib.hid hq; clear hq)
  go_ret2
  exact ⟨_, rfl, HQ.out⟩
set_option maxHeartbeats 1000000 in
set_option maxRecDepth 100000 in
theorem rfv_68 {w : World} {r : Value} {ps : List Nat} {d : Nat} {Ns : List Nat} (dep : Int) (h0 : 0 ≤ dep) (h1 : dep ≤ 1000) (body : List UInt8) (h : Rd w r ps d Ns (68 :: body)) (hl : body.length ≤ 900000000) (hav : 1 ≤ avail Ns (68 :: body)) (hd : d < w.heap.size) (Q : Value → World → Prop)
    (hc : ∀ W, Kept ps w W → Rd W r ps d (Ns.map (· - 1)) body → Calls Tryz.prog 176 #[r] W fun e w' => ∃ x, e = .returned (.tuple #[x, .nilIface]) ∧ Q x w') :
    Calls Tryz.prog 165 #[r, .int .i64 dep] w fun e w' => ∃ x, e = .returned (.tuple #[.iface 191 x, .nilIface]) ∧ Q x w' := by
  have HC := Lib.hid hc; clear hc
  have hka : Kept [] w (w.alloc (.cells #[.int .u8 0] 5)) := (Kept.refl [] w).alloc _
  have hb0 : Blk (w.alloc (.cells #[.int .u8 0] 5)) w.heap.size #[.int .u8 0] 5 := Blk.new w _ _
  have hgp : ∀ b, w.heap.size ≤ b → b ∉ ps := fun b hb hm => by have := h.mem_lt _ hm; omega
  have hav1 : avail (Ns.map (· - 1)) body = avail Ns (68 :: body) - 1 := avail_map Ns [68] body
  have hf := rfix_u8 [68] body rfl (h.kept hka (by simp) (by simp)) (by omega) (by simp only [List.cons_append, List.nil_append]; omega) (Nat.lt_of_lt_of_le hd hka.size) w.heap.size 0 _ hb0.cell0 (hb0.free 0) (hgp _ (Nat.le_refl _)) (by omega)
  rw [show Lib.beNat [68] = 68 from rfl] at hf
  have HF := Lib.hid hf; have H := Lib.hid (And.intro hka (And.intro hb0 (And.intro hgp (And.intro hav1 (And.intro hl (And.intro hd hav))))))
  clear hf hka hb0 hgp hav1 hl hav h hd
  go_enter Tryz.func165, Tryz.ntmps165
  go_upto_region 4 with (go_at_call 77; refine HF.out.mono ?_; rintro e w2 ⟨rfl, w1, k1, r1, rfl⟩)
  obtain ⟨ka, b0, gp, av, hl, hd, hav⟩ := H.out
  have hks : Kept [w.heap.size] w1 (w1.setCell ⟨w.heap.size, 0, none⟩ (.int .u8 68)) := (Kept.refl _ w1).setCell (by simp) _
  have hr2 := r1.kept hks (fun p hp e => gp w.heap.size (Nat.le_refl _) (by simp at e; rw [← e]; exact hp)) (by simp; omega)
  have hb2 : Blk (w1.setCell ⟨w.heap.size, 0, none⟩ (.int .u8 68)) w.heap.size #[.int .u8 68] 5 := (b0.kept k1 (gp w.heap.size (Nat.le_refl _))).setCell 0 _
  have hk2 : Kept ps w (w1.setCell ⟨w.heap.size, 0, none⟩ (.int .u8 68)) := ((ka.mono (by simp)).trans k1 (fun x hx => .inl hx)).trans hks (by simp)
  change Code.wp _ _ _ _ (w1.setCell ⟨w.heap.size, 0, none⟩ (.int .u8 68))
  generalize w1.setCell ⟨w.heap.size, 0, none⟩ (.int .u8 68) = w3 at hr2 hb2 hk2 ⊢
  have c0 := hb2.cell0
  have HR := Lib.hid (HC.out w3 hk2 hr2)
  clear hk2 hr2 hb2 hks r1 k1 ka b0 gp av hl hd
  go_wp2_with (go_at_call 176; refine HR.out.mono ?_; rintro e w2 ⟨x, rfl, hq⟩; have HQ := Lib.hid hq; clear hq)
  go_ret2
  exact ⟨_, rfl, HQ.out⟩
set_option maxHeartbeats 1000000 in
set_option maxRecDepth 100000 in
theorem rfv_86 {w : World} {r : Value} {ps : List Nat} {d : Nat} {Ns : List Nat} (dep : Int) (body : List UInt8) (h : Rd w r ps d Ns (86 :: body)) (hl : body.length ≤ 900000000) (hav : 1 ≤ avail Ns (86 :: body)) (hd : d < w.heap.size) :
    Calls Tryz.prog 165 #[r, .int .i64 dep] w fun e w' => e = .returned (.tuple #[.nilIface, .nilIface]) ∧ Rd w' r ps d (Ns.map (· - 1)) body ∧ Kept ps w w' := by
  have hka : Kept [] w (w.alloc (.cells #[.int .u8 0] 5)) := (Kept.refl [] w).alloc _
  have hb0 : Blk (w.alloc (.cells #[.int .u8 0] 5)) w.heap.size #[.int .u8 0] 5 := Blk.new w _ _
  have hgp : ∀ b, w.heap.size ≤ b → b ∉ ps := fun b hb hm => by have := h.mem_lt _ hm; omega
  have hav1 : avail (Ns.map (· - 1)) body = avail Ns (86 :: body) - 1 := avail_map Ns [86] body
  have hf := rfix_u8 [86] body rfl (h.kept hka (by simp) (by simp)) (by omega) (by simp only [List.cons_append, List.nil_append]; omega) (Nat.lt_of_lt_of_le hd hka.size) w.heap.size 0 _ hb0.cell0 (hb0.free 0) (hgp _ (Nat.le_refl _)) (by omega)
  rw [show Lib.beNat [86] = 86 from rfl] at hf
  have HF := Lib.hid hf; have H := Lib.hid (And.intro hka (And.intro hb0 (And.intro hgp (And.intro hav1 (And.intro hl (And.intro hd hav))))))
  clear hf hka hb0 hgp hav1 hl hav h hd
  go_enter Tryz.func165, Tryz.ntmps165
  go_upto_region 4 with (go_at_call 77; refine HF.out.mono ?_; rintro e w2 ⟨rfl, w1, k1, r1, rfl⟩)
  obtain ⟨ka, b0, gp, av, hl, hd, hav⟩ := H.out
  have hks : Kept [w.heap.size] w1 (w1.setCell ⟨w.heap.size, 0, none⟩ (.int .u8 86)) := (Kept.refl _ w1).setCell (by simp) _
  have hr2 := r1.kept hks (fun p hp e => gp w.heap.size (Nat.le_refl _) (by simp at e; rw [← e]; exact hp)) (by simp; omega)
  have hb2 : Blk (w1.setCell ⟨w.heap.size, 0, none⟩ (.int .u8 86)) w.heap.size #[.int .u8 86] 5 := (b0.kept k1 (gp w.heap.size (Nat.le_refl _))).setCell 0 _
  have hk2 : Kept ps w (w1.setCell ⟨w.heap.size, 0, none⟩ (.int .u8 86)) := ((ka.mono (by simp)).trans k1 (fun x hx => .inl hx)).trans hks (by simp)
  change Code.wp _ _ _ _ (w1.setCell ⟨w.heap.size, 0, none⟩ (.int .u8 86))
  generalize w1.setCell ⟨w.heap.size, 0, none⟩ (.int .u8 86) = w3 at hr2 hb2 hk2 ⊢
  have c0 := hb2.cell0
  have HK := Lib.hid (And.intro hr2 hk2)
  clear hk2 hr2 hb2 hks r1 k1 ka b0 gp av hl hd
  go_wp2
  go_ret2
  exact ⟨rfl, HK.out⟩
set_option maxHeartbeats 1000000 in
set_option maxRecDepth 100000 in
theorem rfv_120 {w : World} {r : Value} {ps : List Nat} {d : Nat} {Ns : List Nat} (dep : Int) (s rest body : List UInt8) (hbody : body = Lib.beBytes 4 s.length ++ (s ++ rest)) (hs : s.length ≤ 65536) (h : Rd w r ps d Ns (120 :: body)) (hl : body.length ≤ 900000000) (hav : 5 + s.length ≤ avail Ns (120 :: body)) (hd : d < w.heap.size) :
    Calls Tryz.prog 165 #[r, .int .i64 dep] w fun e w' => ∃ g, e = .returned (.tuple #[.iface 22 (.slice (some ⟨g, 0, none⟩) s.length s.length), .nilIface]) ∧ w.heap.size ≤ g ∧ Blk w' g (u8s s).toArray 5 ∧ Rd w' r ps d (Ns.map (· - (5 + s.length))) rest ∧ Kept ps w w' := by
  have hka : Kept [] w (w.alloc (.cells #[.int .u8 0] 5)) := (Kept.refl [] w).alloc _
  have hb0 : Blk (w.alloc (.cells #[.int .u8 0] 5)) w.heap.size #[.int .u8 0] 5 := Blk.new w _ _
  have hgp : ∀ b, w.heap.size ≤ b → b ∉ ps := fun b hb hm => by have := h.mem_lt _ hm; omega
  have hav1 : avail (Ns.map (· - 1)) body = avail Ns (120 :: body) - 1 := avail_map Ns [120] body
  have hf := rfix_u8 [120] body rfl (h.kept hka (by simp) (by simp)) (by omega) (by simp only [List.cons_append, List.nil_append]; omega) (Nat.lt_of_lt_of_le hd hka.size) w.heap.size 0 _ hb0.cell0 (hb0.free 0) (hgp _ (Nat.le_refl _)) (by omega)
  rw [show Lib.beNat [120] = 120 from rfl] at hf
  have HF := Lib.hid hf; have H := Lib.hid (And.intro hka (And.intro hb0 (And.intro hgp (And.intro hav1 (And.intro hl (And.intro hd hav))))))
  clear hf hka hb0 hgp hav1 hl hav h hd
  go_enter Tryz.func165, Tryz.ntmps165
  go_upto_region 4 with (go_at_call 77; refine HF.out.mono ?_; rintro e w2 ⟨rfl, w1, k1, r1, rfl⟩)
  obtain ⟨ka, b0, gp, av, hl, hd, hav⟩ := H.out
  have hks : Kept [w.heap.size] w1 (w1.setCell ⟨w.heap.size, 0, none⟩ (.int .u8 120)) := (Kept.refl _ w1).setCell (by simp) _
  have hr2 := r1.kept hks (fun p hp e => gp w.heap.size (Nat.le_refl _) (by simp at e; rw [← e]; exact hp)) (by simp; omega)
  have hb2 : Blk (w1.setCell ⟨w.heap.size, 0, none⟩ (.int .u8 120)) w.heap.size #[.int .u8 120] 5 := (b0.kept k1 (gp w.heap.size (Nat.le_refl _))).setCell 0 _
  have hk2 : Kept ps w (w1.setCell ⟨w.heap.size, 0, none⟩ (.int .u8 120)) := ((ka.mono (by simp)).trans k1 (fun x hx => .inl hx)).trans hks (by simp)
  change Code.wp _ _ _ _ (w1.setCell ⟨w.heap.size, 0, none⟩ (.int .u8 120))
  generalize w1.setCell ⟨w.heap.size, 0, none⟩ (.int .u8 120) = w3 at hr2 hb2 hk2 ⊢
  have c0 := hb2.cell0
  subst hbody
  have hbl4 := Lib.beBytes_length 4 s.length
  have hrl : rest.length ≤ 900000000 := by simp only [List.length_append] at hl; omega
  have hkb : Kept [] w3 (w3.alloc (.cells #[.int .i32 0] 21)) := (Kept.refl [] w3).alloc _
  have hb3 : Blk (w3.alloc (.cells #[.int .i32 0] 21)) w3.heap.size #[.int .i32 0] 21 := Blk.new w3 _ _
  have hs3 := hk2.size
  have hg := rfix_i32 (Lib.beBytes 4 s.length) (s ++ rest) hbl4 (hr2.kept hkb (by simp) (by simp)) (by simp; omega) (by omega) (Nat.lt_of_lt_of_le hd (Nat.le_trans hk2.size hkb.size)) w3.heap.size 0 _ hb3.cell0 (hb3.free 0) (gp _ hs3) (by omega)
  have hw32 : IntKind.i32.wrap ((s.length : Nat) : Int) = (s.length : Int) := by rw [IntKind.wrap_i32]; omega
  rw [be_four s.length (by omega), hw32] at hg
  have hav2 : s.length ≤ avail ((Ns.map (· - 1)).map (· - 4)) (s ++ rest) := by
    have : avail ((Ns.map (· - 1)).map (· - (Lib.beBytes 4 s.length).length)) (s ++ rest) = avail (Ns.map (· - 1)) (Lib.beBytes 4 s.length ++ (s ++ rest)) - (Lib.beBytes 4 s.length).length := avail_map _ _ _
    rw [hbl4] at this
    omega
  have HR := Lib.hid hg; have HK := Lib.hid (And.intro hk2 (And.intro hkb (And.intro hb3 (And.intro (gp _ hs3) (And.intro (show w3.heap.size ≠ d by omega) (And.intro hav2 (And.intro hrl (And.intro hs (Nat.lt_of_lt_of_le hd hk2.size)))))))))
  have hcv : IntKind.i64.wrap ((s.length : Nat) : Int) = (s.length : Int) := by rw [IntKind.wrap_i64]; omega
  have hnn : ¬ ((s.length : Nat) : Int) < 0 := by omega
  clear hg hk2 hr2 hb2 hks r1 k1 ka b0 gp av hl hd hkb hb3 hs3 hav2 hrl hs hav hw32 hbl4
  go_wp2_with (first
    | (go_at_call 77; refine HR.out.mono ?_; rintro e w2 ⟨rfl, w4, k4, r4, rfl⟩; have hks : Kept [w3.heap.size] w4 (w4.setCell ⟨w3.heap.size, 0, none⟩ (.int .i32 (s.length : Int))) := (Kept.refl _ w4).setCell (by simp) _; have hb5 : Blk (w4.setCell ⟨w3.heap.size, 0, none⟩ (.int .i32 (s.length : Int))) w3.heap.size #[.int .i32 (s.length : Int)] 21 := (HK.out.2.2.1.kept k4 HK.out.2.2.2.1).setCell 0 _; have c5 := hb5.cell0; have hr5 := r4.kept hks (fun p hp e => HK.out.2.2.2.1 (by simp at e; rw [← e]; exact hp)) (by simpa using Ne.symm HK.out.2.2.2.2.1); have hk5 := ((HK.out.1.trans (HK.out.2.1.mono (by simp)) (fun x hx => .inl hx)).trans k4 (fun x hx => .inl hx)).trans hks (fun x hx => by simp at hx; subst hx; exact .inr HK.out.1.size); have hz5 := Nat.le_trans (Nat.le_trans HK.out.2.1.size k4.size) hks.size; have hrb := readBytes_le s rest hr5 HK.out.2.2.2.2.2.2.2.1 (Nat.le_trans HK.out.2.2.2.2.2.2.1 (by decide)) HK.out.2.2.2.2.2.1 (Nat.lt_of_lt_of_le HK.out.2.2.2.2.2.2.2.2 hz5); have H5 := Lib.hid (And.intro hrb hk5); clear hks hb5 k4 r4 hr5 hk5 hz5 hrb)
    | (go_at_call 148; refine H5.out.1.mono ?_; rintro e w6 ⟨g, rfl, g1, g2, g3, g4⟩; have H6 := Lib.hid (And.intro g1 (And.intro g2 (And.intro g3 g4))); clear g1 g2 g3 g4))
  go_ret2
  obtain ⟨g1, g2, g3, g4⟩ := H6.out
  refine ⟨_, rfl, Nat.le_trans H5.out.2.size g1, g2, ?_, H5.out.2.trans g4 (fun x hx => .inl hx)⟩
  rw [map_sub_sub, map_sub_sub, show 1 + (4 + s.length) = 5 + s.length by omega] at g3
  exact g3
set_option maxHeartbeats 1000000 in
set_option maxRecDepth 100000 in
theorem rfv_66 {w : World} {r : Value} {ps : List Nat} {d : Nat} {Ns : List Nat} (dep : Int) (b1 : UInt8) (rest body : List UInt8) (hbody : body = b1 :: rest) (h : Rd w r ps d Ns (66 :: body)) (hl : body.length ≤ 900000000) (hav : 2 ≤ avail Ns (66 :: body)) (hd : d < w.heap.size) :
    Calls Tryz.prog 165 #[r, .int .i64 dep] w fun e w' => e = .returned (.tuple #[.iface 5 (.int .u8 (b1.toNat : Int)), .nilIface]) ∧ Rd w' r ps d (Ns.map (· - 2)) rest ∧ Kept ps w w' := by
  have hka : Kept [] w (w.alloc (.cells #[.int .u8 0] 5)) := (Kept.refl [] w).alloc _
  have hb0 : Blk (w.alloc (.cells #[.int .u8 0] 5)) w.heap.size #[.int .u8 0] 5 := Blk.new w _ _
  have hgp : ∀ b, w.heap.size ≤ b → b ∉ ps := fun b hb hm => by have := h.mem_lt _ hm; omega
  have hav1 : avail (Ns.map (· - 1)) body = avail Ns (66 :: body) - 1 := avail_map Ns [66] body
  have hf := rfix_u8 [66] body rfl (h.kept hka (by simp) (by simp)) (by omega) (by simp only [List.cons_append, List.nil_append]; omega) (Nat.lt_of_lt_of_le hd hka.size) w.heap.size 0 _ hb0.cell0 (hb0.free 0) (hgp _ (Nat.le_refl _)) (by omega)
  rw [show Lib.beNat [66] = 66 from rfl] at hf
  have HF := Lib.hid hf; have H := Lib.hid (And.intro hka (And.intro hb0 (And.intro hgp (And.intro hav1 (And.intro hl (And.intro hd hav))))))
  clear hf hka hb0 hgp hav1 hl hav h hd
  go_enter Tryz.func165, Tryz.ntmps165
  go_upto_region 4 with (go_at_call 77; refine HF.out.mono ?_; rintro e w2 ⟨rfl, w1, k1, r1, rfl⟩)
  obtain ⟨ka, b0, gp, av, hl, hd, hav⟩ := H.out
  have hks : Kept [w.heap.size] w1 (w1.setCell ⟨w.heap.size, 0, none⟩ (.int .u8 66)) := (Kept.refl _ w1).setCell (by simp) _
  have hr2 := r1.kept hks (fun p hp e => gp w.heap.size (Nat.le_refl _) (by simp at e; rw [← e]; exact hp)) (by simp; omega)
  have hb2 : Blk (w1.setCell ⟨w.heap.size, 0, none⟩ (.int .u8 66)) w.heap.size #[.int .u8 66] 5 := (b0.kept k1 (gp w.heap.size (Nat.le_refl _))).setCell 0 _
  have hk2 : Kept ps w (w1.setCell ⟨w.heap.size, 0, none⟩ (.int .u8 66)) := ((ka.mono (by simp)).trans k1 (fun x hx => .inl hx)).trans hks (by simp)
  change Code.wp _ _ _ _ (w1.setCell ⟨w.heap.size, 0, none⟩ (.int .u8 66))
  generalize w1.setCell ⟨w.heap.size, 0, none⟩ (.int .u8 66) = w3 at hr2 hb2 hk2 ⊢
  have c0 := hb2.cell0
  subst hbody
  have hkb : Kept [] w3 (w3.alloc (.cells #[.int .u8 0] 419)) := (Kept.refl [] w3).alloc _
  have hb3 : Blk (w3.alloc (.cells #[.int .u8 0] 419)) w3.heap.size (List.replicate 1 (Value.int .u8 0)).toArray 419 := Blk.new w3 _ _
  have hs3 := hk2.size
  have hfull := (hr2.kept hkb (by simp) (by simp)).full (by unfold Small; omega) 1 1 w3.heap.size 0 _ (by omega) (Nat.le_refl _) (by unfold Small; omega) hb3 (by simp) (gp _ hs3) (by omega) (by omega)
  have HF2 := Lib.hid hfull
  have HK := Lib.hid (And.intro hk2 (And.intro hkb (gp _ hs3)))
  clear hfull hk2 hr2 hb2 hks r1 k1 ka b0 gp av hl hd hav hkb hb3 hs3
  go_wp2_with (go_at_call 56; refine HF2.out.mono ?_; rintro e w5 ⟨rfl, g1, g2, g3⟩; rw [splice_all 1 _ _ (by simp)] at g2; have c5 : w5.cell? ⟨w3.heap.size, 0, none⟩ = some (.int .u8 (b1.toNat : Int)) := g2.cell 0; have H5 := Lib.hid (And.intro g1 ((HK.out.1.trans (HK.out.2.1.mono (by simp)) (fun x hx => .inl hx)).trans g3 (fun x hx => by simp only [List.mem_cons] at hx; rcases hx with rfl | hx; exact .inr HK.out.1.size; exact .inl hx))); clear g1 g2 g3)
  go_ret2
  refine ⟨rfl, ?_, H5.out.2⟩
  have := H5.out.1
  rw [map_sub_sub] at this
  simpa using this
theorem len_map {w : World} {b : Nat} {es : List (Value × Value)} (h : MapAt w b es) (ty : TypeId) : (Builtin.len_ #[96] ty #[.map (some b)]).run Tryz.prog w = .ok (.int .i64 es.length) w := by
  unfold MapAt at h
  simp [Builtin.len_, run_underlying Tryz.underlying96, MapKept.run_getObj_map h, goInt, mapEnts_length]
theorem bytes_ne (a b : List UInt8) (h : a ≠ b) : ((⟨a.toArray⟩ : ByteArray) == ⟨b.toArray⟩) = false := by
  show (a.toArray == b.toArray) = false
  simpa using h
theorem bytesLess_irrefl (a : List UInt8) : Op.bytesLess a a = false := by
  induction a with
  | nil => rfl
  | cons x a ih => simp [Op.bytesLess, ih]
theorem bytesLess_trans : ∀ (a b c : List UInt8), Op.bytesLess a b = true → Op.bytesLess b c = true → Op.bytesLess a c = true
  | _, [], _, h, _ => by cases ‹List UInt8› <;> simp [Op.bytesLess] at h
  | a, y :: b, [], _, h => by simp [Op.bytesLess] at h
  | [], y :: b, z :: c, _, _ => rfl
  | x :: a, y :: b, z :: c, h, h' => by
    simp only [Op.bytesLess, Bool.or_eq_true, decide_eq_true_eq, Bool.and_eq_true, beq_iff_eq] at h h' ⊢
    rcases h with h | ⟨rfl, h⟩
    · rcases h' with h' | ⟨rfl, h'⟩
      · exact .inl (UInt8.lt_trans h h')
      · exact .inl h
    · rcases h' with h' | ⟨rfl, h'⟩
      · exact .inl h'
      · exact .inr ⟨rfl, bytesLess_trans a b c h h'⟩
theorem OkFs.above : ∀ (l : List Fld) (p : List UInt8) (d : Nat), OkFs l (some p) d → ∀ x ∈ l, Op.bytesLess p x.name = true
  | [], p, d, _, x, hx => by simp at hx
  | .mk nm u :: l, p, d, h, x, hx => by
    unfold OkFs at h
    have h1 := h.2.1 p rfl
    rcases List.mem_cons.1 hx with rfl | hx
    · exact h1
    · exact bytesLess_trans _ _ _ h1 (OkFs.above l nm d h.2.2.2 x hx)
/-- A name is none of those ahead of it. -/
theorem OkFs.fresh : ∀ (l : List Fld) (p : Option (List UInt8)) (d : Nat), OkFs l p d → ∀ (m : Nat) (name : List UInt8) (v : Val), l[m]? = some (.mk name v) → ∀ x ∈ l.take m, x.name ≠ name
  | [], p, d, _, m, name, v, hm, x, hx => by simp at hx
  | .mk nm u :: l, p, d, h, 0, name, v, hm, x, hx => by simp at hx
  | .mk nm u :: l, p, d, h, m + 1, name, v, hm, x, hx => by
    unfold OkFs at h
    simp only [List.getElem?_cons_succ] at hm
    rw [List.take_succ_cons] at hx
    rcases List.mem_cons.1 hx with rfl | hx
    · intro e
      have := OkFs.above l nm d h.2.2.2 (.mk name v) (List.mem_of_getElem? hm)
      simp only [Fld.name] at this e
      rw [e, bytesLess_irrefl] at this
      exact Bool.noConfusion this
    · exact OkFs.fresh l _ d h.2.2.2 m name v hm x hx
/-- The package's reading of v. -/
def RdVC (v : Val) : Prop := ∀ (d : Nat) (dep : Int) (w : World) (r : Value) (ps : List Nat) (db : Nat) (Ns : List Nat) (rest : List UInt8), WfV v → OkV v d → costV v ≤ 2000 → 0 ≤ dep → dep + d ≤ 30 →
  Rd w r ps db Ns (encV v ++ rest) → (encV v ++ rest).length ≤ 900000000 → (encV v).length ≤ avail Ns (encV v ++ rest) → db < w.heap.size →
  Calls Tryz.prog 165 #[r, .int .i64 dep] w fun e w' => ∃ x, e = .returned (.tuple #[x, .nilIface]) ∧ PV (fun b => w.heap.size ≤ b) w' x v ∧ Rd w' r ps db (Ns.map (· - (encV v).length)) rest ∧ Kept ps w w'
/-- The package's reading of a table. -/
def RdFC (fs : List Fld) : Prop := ∀ (p : Option (List UInt8)) (d : Nat) (dep : Int) (w : World) (r : Value) (ps : List Nat) (db : Nat) (Ns : List Nat) (rest : List UInt8), WfFs fs → OkFs fs p d → costFs fs ≤ 2000 → 0 ≤ dep → dep + d ≤ 30 →
  Rd w r ps db Ns (encT fs ++ rest) → (encT fs ++ rest).length ≤ 900000000 → (encT fs).length ≤ avail Ns (encT fs ++ rest) → db < w.heap.size →
  Calls Tryz.prog 158 #[r, .int .i64 dep] w fun e w' => ∃ b es, e = .returned (.tuple #[.map (some b), .nilIface]) ∧ w.heap.size ≤ b ∧ MapAt w' b es ∧ PF (fun b => w.heap.size ≤ b) w' es fs ∧ Rd w' r ps db (Ns.map (· - (encT fs).length)) rest ∧ Kept ps w w'
/-- The bytes that are left in the buffer at nb. -/
def leftIn (nb : Nat) (w : World) : Nat := match w.cell? ⟨nb, 0, none⟩ with | some (.slice _ n _) => n | _ => 0
theorem Buf.leftIn {w : World} {b d : Nat} {l : List UInt8} (h : Buf w b d l) : leftIn b w = l.length := by
  obtain ⟨ao, c, h1, _, _⟩ := h
  unfold Go.Proofs.YtkcdakohmfodjaaGreat.leftIn
  rw [h1.cell0]
theorem costFs_len (l : List Fld) : l.length ≤ costFs l := by
  induction l with
  | nil => simp [costFs]
  | cons x l ih => cases x with | mk nm u => unfold costFs; simp only [List.length_cons]; omega
section
variable {P : Program} {ops : Array Oper} {rest : List Oper} {o : Oper} {a : Act} {w : World} {Q : Exit → Act → World → Prop}
/-- 'm[k] = v' of a key that is new, as an assignment. -/
theorem wpList_update_new (hgd : o.guard = none) (hdst : o.dst = none) (t : TypeId) (m k v : Operand) (ho : o.op = .mapUpdate t m k v) (b : Nat) (es : List (Value × Value)) (h : MapAt w b es) (hm : a.eval m = .map (some b)) (kt e : TypeId) (kd : TypeDesc)
    (ht : P.underlying t = some (.map kt e)) (hu : P.underlying kt = some kd) (hp : (match kd with | .int _ | .string | .bool => true | _ => false) = true) (kv vv : Value) (hkv : a.eval k = kv) (hvv : a.eval v = vv) (hk : ∀ e ∈ es, Instr.sameNow kd kv e.1 = some false)
    (hK : ∀ w', MapAt w' b (es ++ [(kv, vv)]) → Kept [b] w w' → wpList P ops Q rest a w') : wpList P ops Q (o :: rest) a w := by
  refine wpList_plain hgd fun K hK' => ?_
  obtain ⟨w', hr, h1, h2⟩ := run_mapUpdate_new (P := P) h ht hu hp kv vv hk
  unfold Oper.wp execOp
  simp only [ho, hm, hkv, hvv, Sem.run_bind, Sem.run_pure, hr, Result.andThen_ok, Oper.upon_skip, hdst, Act.put]
  exact hK' _ _ (hK w' h1 h2)
end
set_option maxHeartbeats 2000000 in
set_option maxRecDepth 100000 in
theorem rtab_of (fs : List Fld) (hv : ∀ x, x ∈ fs → RdVC x.val) : RdFC fs := by
  intro p d dep w r ps db Ns rest hwf hok hcost hd0 hd1 hr hlen hav hdb
  have hel := encFs_len fs
  have hbl4 := Lib.beBytes_length 4 (encFs fs).length
  unfold encT at hr hlen hav
  rw [List.append_assoc] at hr hlen hav
  have hlen' : (encFs fs).length + rest.length + 4 ≤ 900000000 := by simp only [List.length_append] at hlen; omega
  have hgp : ∀ b, w.heap.size ≤ b → b ∉ ps := fun b hb hm => by have := hr.mem_lt _ hm; omega
  have hka : Kept [] w (w.alloc (.cells #[.slice none 0 0] 113)) := (Kept.refl [] w).alloc _
  have hb0 : Blk (w.alloc (.cells #[.slice none 0 0] 113)) w.heap.size #[.slice none 0 0] 113 := Blk.new w _ _
  have hlg := rlong (encFs fs) rest (hr.kept hka (by simp) (by simp)) (by omega) (by omega) (by simp only [List.length_append] at hav; omega) (Nat.lt_of_lt_of_le hdb hka.size)
  have HL := Lib.hid hlg
  have H := Lib.hid (And.intro hwf (And.intro hok (And.intro hcost (And.intro hel (And.intro hlen' (And.intro hgp (And.intro hka (And.intro hb0 (And.intro hv hdb)))))))))
  have hdep : ¬ (32 : Int) < dep := by omega
  have hmk : ∀ w : World, (Instr.makeMap 96 none).run Tryz.prog w = .ok (.map (some w.heap.size)) (w.alloc (.map #[] 0)) := fun w => run_makeMap _ w
  clear hlg hwf hok hcost hel hlen' hgp hka hb0 hv hdb hbl4 hr hlen hav
  go_enter Tryz.func158, Tryz.ntmps158
  go_wp2_with (first
    | (go_at_call 157; refine HL.out.mono ?_; rintro e w2 ⟨rfl, r2, k2⟩; have hws := writeString_new w.heap.size (encFs fs) w2 (H.out.2.2.2.2.2.2.2.1.kept k2 (H.out.2.2.2.2.2.1 _ (Nat.le_refl _))) (by have := H.out.2.2.2.2.1; omega); have H2 := Lib.hid (And.intro r2 (And.intro k2 hws)); clear r2 k2 hws)
    | (go_at_call 164; refine H2.out.2.2.mono ?_; rintro e w3 ⟨rfl, d3, h3a, h3b, h3c, h3d⟩; have H3 := Lib.hid (And.intro h3a (And.intro h3b (And.intro h3c h3d))); clear h3a h3b h3c h3d))
  generalize hmb : w3.heap.size = mb at *
  obtain ⟨W1, hW1⟩ : ∃ W1, W1 = w3.alloc (.map #[] 0) := ⟨_, rfl⟩
  rw [← hW1]
  have hm1 : MapAt W1 mb [] := by rw [hW1, ← hmb]; exact MapAt.new w3
  have hk31 : Kept [] w3 W1 := by rw [hW1]; exact (Kept.refl [] w3).alloc _
  have hz1 : W1.heap.size = mb + 1 := by rw [hW1]; simp [hmb]
  have hbf1 := H3.out.2.2.1.kept hk31 (by simp) (by simp)
  have hnb : w.heap.size < mb := by
    have h1 := H2.out.2.1.size; have h2 := H3.out.2.2.2.size
    simp at h1; omega
  have hd3 : w.heap.size < d3 := by
    have h1 := H2.out.2.1.size; have := H3.out.1
    simp at h1; omega
  have hdm : encFs fs ≠ [] → d3 < mb := H3.out.2.1
  have HH := Lib.hid (And.intro hk31 (And.intro hz1 (And.intro hnb (And.intro hd3 hdm)))); clear hk31 hz1 hnb hd3 hdm hmk hW1
  go_loopw [4, 5] (fun mv ev W => mv = .map (some mb) ∧ ev = .nilIface ∧ ∃ (m : Nat) (es : List (Value × Value)), m ≤ fs.length ∧ es.length = m ∧ Hid (Buf W w.heap.size d3 (encFs (fs.drop m)) ∧ MapAt W mb es ∧ PF (fun b => mb + 1 ≤ b) W es (fs.take m) ∧ Kept [w.heap.size, mb] W1 W)) (fun _ _ W => leftIn w.heap.size W)
  case atStart => exact ⟨rfl, rfl, 0, [], Nat.zero_le _, rfl, Lib.hid ⟨hbf1, hm1, by rw [List.take_zero]; unfold PF; rfl, Kept.refl _ _⟩⟩
  case round =>
    obtain ⟨rfl, rfl, m, es, hmk, hem, HR⟩ := hrel
    have hln := blen_any w.heap.size d3 (encFs (fs.drop m)) wr HR.out.1
    have HN := Lib.hid hln; clear hln
    by_cases hlt : m < fs.length
    · obtain ⟨name, v, hx⟩ : ∃ name v, fs[m]? = some (.mk name v) := by
        rw [List.getElem?_eq_getElem hlt]; cases fs[m] with | mk name v => exact ⟨name, v, rfl⟩
      have hdrop : fs.drop m = .mk name v :: fs.drop (m + 1) := by
        rw [List.getElem?_eq_getElem hlt, Option.some.injEq] at hx
        rw [← hx]; exact List.drop_eq_getElem_cons hlt
      have henc : encFs (fs.drop m) = Lib.beBytes 1 name.length ++ (name ++ (encV v ++ encFs (fs.drop (m + 1)))) := by rw [hdrop]; simp [encFs, List.append_assoc]
      have hlen : (encFs (fs.drop m)).length ≤ (encFs fs).length := by
        have := encFs_append (fs.take m) (fs.drop m)
        rw [List.take_append_drop] at this
        rw [this, List.length_append]; omega
      have hb1 := Lib.beBytes_length 1 name.length
      have hpos : (0 : Int) < ((encFs (fs.drop m)).length : Int) := by rw [henc]; simp only [List.length_append]; omega
      have hne : encFs fs ≠ [] := by intro e; rw [e] at hlen; simp only [List.length_nil] at hlen; omega
      have hdm := HH.out.2.2.2.2 hne
      have hwsz : mb + 1 ≤ wr.heap.size := by have := HR.out.2.2.2.size; have := HH.out.2.1; omega
      have hnm := OkFs.get fs _ _ H.out.2.1 m name v hx
      have hrd : Rd wr (.iface 111 (.pointer (some ⟨w.heap.size, 0, none⟩))) [w.heap.size] d3 [] (encFs (fs.drop m)) := .buf _ _ _ HR.out.1 (by have := HH.out.2.2.2.1; omega)
      have hrd' := hrd
      rw [henc] at hrd
      have hll : 1 + (name.length + ((encV v).length + (encFs (fs.drop (m + 1))).length)) ≤ 900000000 := by
        have h1 := hlen; rw [henc] at h1; simp only [List.length_append] at h1
        have := H.out.2.2.2.1; have := H.out.2.2.1
        omega
      have hsh := rshort name _ hrd hnm.1 (by simp only [List.length_append]; omega) (by simp [avail]; omega) (by omega)
      have hfr := OkFs.fresh fs _ _ H.out.2.1 m name v hx
      have hkeys := HR.out.2.2.1.keys
      have hnew : ∀ e ∈ es, Instr.sameNow .string (.string ⟨name.toArray⟩) e.1 = some false := by
        intro e he
        have h1 : e.1 ∈ es.map Prod.fst := List.mem_map_of_mem he
        rw [hkeys] at h1
        obtain ⟨x, hx1, hx2⟩ := List.mem_map.1 h1
        have h2 := hfr x hx1
        rw [← hx2]
        have h3 : name ≠ x.name := fun e => h2 e.symm
        exact congrArg some (bytes_ne _ _ h3)
      have hcv := costFs_get fs m name v hx
      have hwv := (WfFs.get fs H.out.1 m name v hx).2
      have hvc := fun (W : World) hr hd3w => H.out.2.2.2.2.2.2.2.2.1 (.mk name v) (List.mem_of_getElem? hx) d dep W (.iface 111 (.pointer (some ⟨w.heap.size, 0, none⟩))) [w.heap.size] d3 [] (encFs (fs.drop (m + 1))) hwv hnm.2 (by have := H.out.2.2.1; simp only [Fld.val]; omega) hd0 hd1 hr (by simp only [Fld.val, List.length_append]; omega) (by simp [avail]) hd3w
      have hes : ¬ (8192 : Int) ≤ (m : Int) := by have := costFs_len fs; have := H.out.2.2.1; omega
      have HS := Lib.hid hsh; have HV := Lib.hid hvc; have HX := Lib.hid (And.intro hx (And.intro hnew (And.intro hdm hwsz)))
      have HE := Lib.hid (And.intro henc hrd')
      clear hsh hvc hx hnew hcv hwv hkeys hfr hll hrd hrd' hnm hdm hwsz hb1 hlen hdrop hne henc
      go_wp2_with (first
        | (go_at_call 44; refine HN.out.mono ?_; rintro e w4 ⟨rfl, rfl⟩)
        | (go_at_call 144; refine HS.out.mono ?_; rintro e w5 ⟨rfl, r5, k5⟩; have hv5 := HV.out w5 r5 (by have := k5.size; have := HX.out.2.2; omega); have H5 := Lib.hid (And.intro k5 hv5); clear hv5 r5 k5)
        | (go_at_call 165; refine H5.out.2.mono ?_; rintro e w6 ⟨x, rfl, p6, r6, k6⟩; have hk6 : Kept [w.heap.size] wr w6 := H5.out.1.trans k6 (fun x hx => .inl hx); have hm6 : MapAt w6 mb es := HR.out.2.1.kept hk6 (by simp; have := HH.out.2.2.1; omega); have hlm := fun ty => len_map hm6 ty; rw [hem] at hlm; have H6 := Lib.hid (And.intro p6 (And.intro r6 (And.intro hk6 hm6))); clear p6 r6 k6 hk6 hm6)
        | (refine wpList_update_new rfl rfl 96 (.tmp 46) (.tmp 47) (.tmp 48) rfl mb es H6.out.2.2.2 rfl _ _ _ Tryz.underlying96 Tryz.underlying9 rfl (.string ⟨name.toArray⟩) x rfl rfl HX.out.2.1 ?_; intro w7 m7 k7; have H7 := Lib.hid (And.intro m7 k7); clear m7 k7))
      go_roundw
      case rel =>
        have hbf := H6.out.2.1.buf_inv
        have hz5 := H5.out.1.size
        have hk7 : Kept [w.heap.size, mb] wr w7 := (H6.out.2.2.1.mono (by simp)).trans H7.out.2 (by simp)
        refine ⟨rfl, rfl, m + 1, es ++ [(.string ⟨name.toArray⟩, x)], hlt, by simp [hem], Lib.hid ⟨hbf.kept H7.out.2 (by simp; have := HH.out.2.2.1; omega) (by simp; have := HX.out.2.2.1; omega), H7.out.1, ?_, HR.out.2.2.2.trans hk7 (fun x hx => .inl hx)⟩⟩
        have e1 : fs.take (m + 1) = fs.take m ++ [.mk name v] := by rw [List.take_add_one, HX.out.1]; rfl
        rw [e1]
        refine PF.snoc name v x (PV.kept H7.out.2 (fun b hb => by simp; omega) v (PV.mono (fun b hb _ => by have := HX.out.2.2.2; omega) v H6.out.1)) _ _ ?_
        exact PF.kept hk7 (fun b hb => by simp; have := HH.out.2.2.1; omega) _ HR.out.2.2.1
      case measure =>
        have hbf := H6.out.2.1.buf_inv
        have hb7 := hbf.kept H7.out.2 (by simp; have := HH.out.2.2.1; omega) (by simp; have := HX.out.2.2.1; omega)
        rw [hb7.leftIn, HR.out.1.leftIn, HE.out.1]
        simp only [List.length_append, Lib.beBytes_length]
        omega
    · have hfin : fs.drop m = [] := List.drop_of_length_le (by omega)
      have hbe := HR.out.1
      rw [hfin] at hbe
      have hln2 : Calls Tryz.prog 44 #[.pointer (some ⟨w.heap.size, 0, none⟩)] wr fun e w' => e = .returned (.int .i64 0) ∧ wr = w' := blen_any w.heap.size d3 [] wr hbe
      have HN2 := Lib.hid hln2; clear hln2 hbe
      go_wp2_with (go_at_call 44; refine HN2.out.mono ?_; rintro e w4 ⟨rfl, rfl⟩)
      go_ret2
      have hkr : Kept [w.heap.size] w2 wr := (H3.out.2.2.2.trans (HH.out.1.mono (by simp)) (fun x hx => .inl hx)).trans HR.out.2.2.2 (fun x hx => by
        simp only [List.mem_cons, List.not_mem_nil, or_false] at hx
        rcases hx with rfl | rfl
        · exact .inl (by simp)
        · exact .inr (by rw [← hmb]; exact H3.out.2.2.2.size))
      have hka := H.out.2.2.2.2.2.2.1
      have hwk : Kept ps w wr := ((hka.mono (by simp)).trans H2.out.2.1 (fun x hx => .inl hx)).trans hkr (fun x hx => by simp at hx; exact .inr (by omega))
      refine ⟨mb, es, rfl, Nat.le_of_lt HH.out.2.2.1, HR.out.2.1, ?_, ?_, hwk⟩
      · have := HR.out.2.2.1
        rw [List.take_of_length_le (by omega)] at this
        exact PF.mono (fun b hb _ => by have := HH.out.2.2.1; omega) _ this
      · have e2 : (encT fs).length = 4 + (encFs fs).length := by unfold encT; rw [List.length_append, Lib.beBytes_length]
        rw [e2]
        exact H2.out.1.kept hkr (fun p hp => by simp; intro e; exact H.out.2.2.2.2.2.1 _ (Nat.le_refl _) (e ▸ hp)) (by simp; have := H.out.2.2.2.2.2.2.2.2.2; omega)
end Go.Proofs.YtkcdakohmfodjaaGreat
namespace Go.Proofs.YtkcdakohmfodjaaGreat
set_option linter.unusedVariables false
set_option linter.unusedSimpArgs false
theorem bytesLess_tri : ∀ (a b : List UInt8), Op.bytesLess a b = false → Op.bytesLess b a = false → a = b
  | [], [], _, _ => rfl
  | [], y :: b, h, _ => by simp [Op.bytesLess] at h
  | x :: a, [], _, h => by simp [Op.bytesLess] at h
  | x :: a, y :: b, h, h' => by
    simp only [Op.bytesLess, Bool.or_eq_false_iff, decide_eq_false_iff_not, Bool.and_eq_false_imp, beq_iff_eq] at h h'
    have hxy : x = y := UInt8.le_antisymm (UInt8.not_lt.1 h'.1) (UInt8.not_lt.1 h.1)
    rw [bytesLess_tri a b (h.2 hxy) (h'.2 hxy.symm), hxy]
/-- A permutation of a list's images is the images of a permutation. -/
theorem perm_lift {α β : Type} (f : α → β) : ∀ {a b : List β}, a.Perm b → ∀ xs : List α, xs.map f = a → ∃ ys : List α, ys.Perm xs ∧ ys.map f = b := by
  intro a b h
  induction h with
  | nil => intro xs hx; exact ⟨xs, List.Perm.refl _, hx⟩
  | cons x _ ih =>
    intro xs hx
    cases xs with
    | nil => simp at hx
    | cons z xs =>
      simp only [List.map_cons, List.cons.injEq] at hx
      obtain ⟨ys, h1, h2⟩ := ih xs hx.2
      exact ⟨z :: ys, h1.cons z, by simp [h2, hx.1]⟩
  | swap x y l =>
    intro xs hx
    match xs, hx with
    | [], hx => simp at hx
    | [_], hx => simp at hx
    | z :: u :: xs, hx =>
      simp only [List.map_cons, List.cons.injEq] at hx
      exact ⟨u :: z :: xs, List.Perm.swap z u xs, by simp [hx.1, hx.2.1, hx.2.2]⟩
  | trans _ _ ih1 ih2 =>
    intro xs hx
    obtain ⟨ys, h1, h2⟩ := ih1 xs hx
    obtain ⟨zs, h3, h4⟩ := ih2 ys h2
    exact ⟨zs, h3.trans h1, h4⟩
/-- Fields whose names grow: the only sorted order. -/
theorem sorted_unique (L : List Fld) (hL : L.Pairwise (fun x y => Op.bytesLess x.name y.name = true)) (l : List Fld) (hp : l.Perm L) (hs : l.Pairwise (fun x y => Op.bytesLess y.name x.name = false)) : l = L := by
  refine List.Perm.eq_of_pairwise (le := fun x y => Op.bytesLess y.name x.name = false) ?_ hs ?_ hp
  · intro a b ha hb h1 h2
    have ha := hp.subset ha
    obtain ⟨i, hi, rfl⟩ := List.mem_iff_getElem.1 ha
    obtain ⟨j, hj, rfl⟩ := List.mem_iff_getElem.1 hb
    rcases Nat.lt_trichotomy i j with h | h | h
    · have := List.pairwise_iff_getElem.1 hL i j hi hj h; rw [h2] at this; cases this
    · subst h; rfl
    · have := List.pairwise_iff_getElem.1 hL j i hj hi h; rw [h1] at this; cases this
  · refine hL.imp fun {a b} h => ?_
    cases h' : Op.bytesLess b.name a.name with
    | false => rfl
    | true => have := bytesLess_trans _ _ _ h h'; rw [bytesLess_irrefl] at this; cases this
theorem OkFs.pairs : ∀ (l : List Fld) (p : Option (List UInt8)) (d : Nat), OkFs l p d → l.Pairwise (fun x y => Op.bytesLess x.name y.name = true)
  | [], _, _, _ => List.Pairwise.nil
  | .mk nm u :: l, p, d, h => by
    unfold OkFs at h
    exact List.Pairwise.cons (OkFs.above l nm d h.2.2.2) (OkFs.pairs l _ d h.2.2.2)
theorem range_perm {n : Nat} {is : List Nat} (hn : is.Nodup) (hl : ∀ i ∈ is, i < n) (ha : ∀ i, i < n → i ∈ is) : is.Perm (List.range n) :=
  (List.perm_ext_iff_of_nodup hn List.nodup_range).2 fun i => ⟨fun h => List.mem_range.2 (hl i h), fun h => ha i (List.mem_range.1 h)⟩
theorem range_map {α : Type} [Inhabited α] (l : List α) : (List.range l.length).map (fun i => l[i]!) = l := by
  apply List.ext_getElem
  · simp
  · intro i h1 h2
    simp at h1
    simp [h1]
end Go.Proofs.YtkcdakohmfodjaaGreat
namespace Go.Proofs.YtkcdakohmfodjaaGreat
open Go.RowKit
set_option linter.unusedVariables false
set_option linter.unusedSimpArgs false
set_option maxHeartbeats 1000000 in
set_option maxRecDepth 100000 in
theorem rfix_u8_end {w : World} {r : Value} {ps : List Nat} {d : Nat} {Ns : List Nat} (l : List UInt8) (h : Rd w r ps d Ns l) (hl : l.length ≤ 1000000000) (hav : avail Ns l = 0) (hd : d < w.heap.size) (pb po : Nat) :
    Calls Tryz.prog 77 #[r, .iface 375 (.pointer (some ⟨pb, po, none⟩))] w fun e w' => e = .returned EOFV ∧ Kept [] w w' := by
  obtain ⟨wa, hwa⟩ : ∃ wa, wa = w.alloc (.cells (List.replicate 1 (.int .u8 0)).toArray 5) := ⟨_, rfl⟩
  have hmk : (Instr.makeSlice 22 (.int .i64 1) (.int .i64 1)).run Tryz.prog w = .ok (.slice (some ⟨w.heap.size, 0, none⟩) 1 1) wa := by rw [hwa]; exact make_bytes 1 (by omega) w
  have hka : Kept [] w wa := by rw [hwa]; exact (Kept.refl [] w).alloc _
  have hfull := (h.kept hka (by simp) (by simp)).full_end (by unfold Small; omega) 1 1 w.heap.size 0 _ (by omega) (Nat.le_refl _) (by unfold Small; omega) (by rw [hwa]; exact Blk.new w (List.replicate 1 (Value.int .u8 0)).toArray 5) (by simp) (fun hm => by have := h.mem_lt _ hm; omega) (by omega) hav
  have HF := Lib.hid hfull; have HK := Lib.hid hka
  clear hfull hka h hav hwa
  have t0 := ta_u8_u8
  have t1 := ta_u8_i8
  have t2 := ta_u8_u16
  have t3 := ta_u8_i16
  have t4 := ta_u8_u32
  have t5 := ta_u8_i32
  have t6 := ta_u8_f32
  have t7 := ta_u8_u64
  have t8 := ta_u8_i64
  have t9 := ta_u8_f64
  go_enter Tryz.func77, Tryz.ntmps77
  go_wp2_with (go_at_call 56; refine HF.out.mono ?_; rintro e w2 ⟨rfl, rfl⟩)
  go_ret
  exact ⟨rfl, HK.out.drew⟩
set_option maxHeartbeats 1000000 in
set_option maxRecDepth 100000 in
theorem rfv_end {w : World} {r : Value} {ps : List Nat} {d : Nat} {Ns : List Nat} (dep : Int) (l : List UInt8) (h : Rd w r ps d Ns l) (hl : l.length ≤ 1000000000) (hav : avail Ns l = 0) (hd : d < w.heap.size) :
    Calls Tryz.prog 165 #[r, .int .i64 dep] w fun e w' => e = .returned (.tuple #[.nilIface, EOFV]) ∧ Kept [] w w' := by
  have hka : Kept [] w (w.alloc (.cells #[.int .u8 0] 5)) := (Kept.refl [] w).alloc _
  have hf := rfix_u8_end l (h.kept hka (by simp) (by simp)) hl hav (Nat.lt_of_lt_of_le hd hka.size) w.heap.size 0
  have HF := Lib.hid hf; have HK := Lib.hid hka
  clear hf hka h hav
  go_enter Tryz.func165, Tryz.ntmps165
  go_wp2_with (go_at_call 77; refine HF.out.mono ?_; rintro e w2 ⟨rfl, k2⟩; have K2 := Lib.hid k2; clear k2)
  go_ret2
  exact ⟨rfl, HK.out.trans K2.out (by simp)⟩
end Go.Proofs.YtkcdakohmfodjaaGreat
