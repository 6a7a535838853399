/-
  written: a frame made by a closure and written; what formats a heartbeat and a body; the law's 'works'. (Printed by wip/gen/fmt.py.)
-/
import Derived.Test.YtkcdakohmfodjaaGreatForm
import Derived.Test.YtkcdakohmfodjaaGreatQuiet
import Derived.Test.YtkcdakohmfodjaaGreatRow
namespace Go.Proofs.YtkcdakohmfodjaaGreat
open Go.RowKit
set_option linter.unusedVariables false
set_option linter.unusedSimpArgs false

set_option maxHeartbeats 400000 in
set_option maxRecDepth 100000 in
theorem written1_beat (fr ch b ok c0 : Nat) (w : World) (hf : w.cell? ⟨fr, 0, none⟩ = some (.func (.func 35) #[] #[])) (hc : w.cell? ⟨ch, 0, none⟩ = some (.int .i64 (c0 : Int))) (hc0 : c0 ≤ 65535)
    (hb : ∃ v, Blk w b #[v] 22) (ho : ∃ v, Blk w ok #[v] 4) (hbo : b ≠ ok) (l : List UInt8)
    (hmk : Calls Tryz.prog 35 #[.int .u16 (c0 : Int)] w fun e w' => ∃ p, e = .returned (.tuple #[.iface 89 (.pointer (some ⟨p, 0, none⟩)), .bool true]) ∧ Kept [] w w' ∧
      Calls Tryz.prog 52 #[.iface 89 (.pointer (some ⟨p, 0, none⟩))] w' fun e w2 => ∃ v g, e = .returned (.tuple #[v, .nilIface]) ∧ Row w2 v g l ∧ w'.heap.size ≤ g ∧ Kept [] w' w2) :
    Calls Tryz.prog 51 #[.pointer (some ⟨fr, 0, none⟩), .pointer (some ⟨ch, 0, none⟩), .pointer (some ⟨b, 0, none⟩), .pointer (some ⟨ok, 0, none⟩)] w fun e w' => e = .returned (.tuple #[]) ∧
      ∃ v g, Row w' v g l ∧ w.heap.size ≤ g ∧ Kept [b, ok] w w' ∧ Blk w' b #[v] 22 ∧ Blk w' ok #[.bool true] 4 := by
  have e1 : IntKind.u16.wrap (c0 : Int) = c0 := by rw [IntKind.wrap_u16]; omega
  have HM := Lib.hid hmk
  obtain ⟨vb, hb⟩ := hb
  obtain ⟨vo, ho⟩ := ho
  have HB := Lib.hid (And.intro hb ho)
  have hbw := hb.lt
  have how := ho.lt
  clear hmk hb ho
  go_enter Tryz.func51, Tryz.ntmps51
  go_wp2_with (first
    | (go_at_call 35; refine HM.out.mono ?_; rintro e w1 ⟨p, rfl, hk1, hz1⟩; have HZ := Lib.hid (And.intro hk1 hz1); clear hk1 hz1)
    | (go_at_call 52; refine HZ.out.2.mono ?_; rintro e w2 ⟨v, g, rfl, hz1, hz2, hz3⟩; have hk2 := HZ.out.1.trans hz3 (by simp); obtain ⟨c, rfl, hrow⟩ := hz1; have hb1 := HB.out.1.kept hk2 (by simp); have hb2 := HB.out.2.kept hk2 (by simp); have q1 := hb1.cell0; have q2 := hb2.cell0; have f1 := hb1.free 0; have f2 := hb2.free 0; have HR := Lib.hid (And.intro hrow (And.intro (Nat.le_trans HZ.out.1.size hz2) (And.intro hk2 (And.intro hb1 hb2)))); clear hrow hz2 hz3 hk2 hb1 hb2))
  go_region
  all_goals
    go_wp2
    go_end0
    have hgw := HR.out.2.1
    have k0 : Kept [b, ok] w2 ((w2.drew.setCell ⟨b, 0, none⟩ (.slice (some ⟨g, 0, none⟩) l.length c)).setCell ⟨ok, 0, none⟩ (.bool true)) := Kept.setCell (Kept.setCell (Kept.refl [b, ok] w2).drew (p := ⟨b, 0, none⟩) (by simp) (.slice (some ⟨g, 0, none⟩) l.length c)) (p := ⟨ok, 0, none⟩) (by simp) (.bool true)
    have r0 : Row w2 (.slice (some ⟨g, 0, none⟩) l.length c) g l := ⟨c, rfl, HR.out.1⟩
    have b0 : Blk ((w2.drew.setCell ⟨b, 0, none⟩ (.slice (some ⟨g, 0, none⟩) l.length c)).setCell ⟨ok, 0, none⟩ (.bool true)) b #[.slice (some ⟨g, 0, none⟩) l.length c] 22 := Blk.setCell_other (Blk.setCell (w := w2.drew) HR.out.2.2.2.1 0 _) (by simpa using hbo) _
    have o0 : Blk ((w2.drew.setCell ⟨b, 0, none⟩ (.slice (some ⟨g, 0, none⟩) l.length c)).setCell ⟨ok, 0, none⟩ (.bool true)) ok #[.bool true] 4 := Blk.setCell (Blk.setCell_other (w := w2.drew) HR.out.2.2.2.2 (by simpa using Ne.symm hbo) _) 0 _
    exact ⟨rfl, _, g, r0.kept k0 (nin2 (by omega) (by omega)), hgw, (HR.out.2.2.1.mono (by simp)).trans k0 (fun x hx => .inl hx), b0, o0⟩

set_option maxHeartbeats 1000000 in
set_option maxRecDepth 100000 in
theorem written_beat (c0 : Nat) (w : World) (hc0 : c0 ≤ 65535) (l : List UInt8)
    (hmk : ∀ w1, Kept [] w w1 → Calls Tryz.prog 35 #[.int .u16 (c0 : Int)] w1 fun e w' => ∃ p, e = .returned (.tuple #[.iface 89 (.pointer (some ⟨p, 0, none⟩)), .bool true]) ∧ Kept [] w1 w' ∧
      Calls Tryz.prog 52 #[.iface 89 (.pointer (some ⟨p, 0, none⟩))] w' fun e w2 => ∃ v g, e = .returned (.tuple #[v, .nilIface]) ∧ Row w2 v g l ∧ w'.heap.size ≤ g ∧ Kept [] w' w2) :
    Calls Tryz.prog 33 #[.int .i64 (c0 : Int), .func (.func 35) #[] #[]] w fun e w' => ∃ v g, e = .returned (.tuple #[v, .bool true]) ∧ Row w' v g l ∧ w.heap.size ≤ g ∧ Kept [] w w' := by
  have hmf := mf_any
  have e1 : IntKind.u16.wrap (c0 : Int) = c0 := by rw [IntKind.wrap_u16]; omega
  have e2 : IntKind.i64.wrap (c0 : Int) = c0 := by rw [IntKind.wrap_i64]; omega
  obtain ⟨wa, hwa⟩ : ∃ wa, wa = (((w.alloc (.cells #[.int .i64 (c0 : Int)] 3)).alloc (.cells #[.func (.func 35) #[] #[]] 88)).alloc (.cells #[.slice none 0 0] 22)).alloc (.cells #[.bool false] 4) := ⟨_, rfl⟩
  have hka : Kept [] w wa := by subst hwa; exact ((((Kept.refl [] w).alloc _).alloc _).alloc _).alloc _
  have hb0 : Blk wa w.heap.size #[.int .i64 (c0 : Int)] 3 := by subst hwa; exact (((Blk.new w _ _).alloc _).alloc _).alloc _
  have hb1 : Blk wa (w.heap.size + 1) #[.func (.func 35) #[] #[]] 88 := by subst hwa; exact ((Blk.new_at (by simp)).alloc _).alloc _
  have hb2 : Blk wa (w.heap.size + 1 + 1) #[.slice none 0 0] 22 := by subst hwa; exact (Blk.new_at (by simp)).alloc _
  have hb3 : Blk wa (w.heap.size + 1 + 1 + 1) #[.bool false] 4 := by subst hwa; exact Blk.new_at (by simp)
  have hsz : wa.heap.size = w.heap.size + 1 + 1 + 1 + 1 := by subst hwa; simp
  have hkq : Kept [] wa (wa.alloc (.cells #[.bool false] 4)) := (Kept.refl [] wa).alloc _
  have hc1 := written1_beat (w.heap.size + 1) w.heap.size (w.heap.size + 1 + 1) (w.heap.size + 1 + 1 + 1) c0 (wa.alloc (.cells #[.bool false] 4)) (hb1.kept hkq (by simp)).cell0 (hb0.kept hkq (by simp)).cell0 hc0 ⟨_, hb2.kept hkq (by simp)⟩ ⟨_, hb3.kept hkq (by simp)⟩ (by omega) l (hmk _ (hka.trans hkq (by simp)))
  have hq := quietly_write _ _ _ _ wa (fun w' => ∃ v g, Row w' v g l ∧ (wa.alloc (.cells #[.bool false] 4)).heap.size ≤ g ∧ Kept [w.heap.size + 1 + 1, w.heap.size + 1 + 1 + 1] (wa.alloc (.cells #[.bool false] 4)) w' ∧ Blk w' (w.heap.size + 1 + 1) #[v] 22 ∧ Blk w' (w.heap.size + 1 + 1 + 1) #[.bool true] 4)
    (fun w' hk => by obtain ⟨v, g, _, _, h3, _, _⟩ := hk; exact (Blk.new wa _ _).kept h3 (nin2 (by omega) (by omega))) hc1
  have HQ := Lib.hid hq; have HA := Lib.hid (And.intro hka hkq); have HZ := Lib.hid hsz
  have HW := Lib.hid hwa
  clear hq hc1 hka hkq hb0 hb1 hb2 hb3 hsz hmk hwa
  go_enter Tryz.func33, Tryz.ntmps33
  go_wp2_with fail
  rw [← HW.out]
  refine HQ.out.mono ?_
  rintro e w' ⟨rfl, w1, ⟨v, g, g1, g2, g3, g4, g5⟩, rfl⟩
  rw [HZ.out]
  have hg : w.heap.size + 1 + 1 + 1 + 1 + 1 ≤ g := by have := HZ.out; simp only [World.size_alloc] at g2; omega
  have hks : Kept [w.heap.size + 1 + 1 + 1 + 1] w1 (w1.setCell ⟨w.heap.size + 1 + 1 + 1 + 1, 0, none⟩ (.bool true)) := (Kept.refl _ w1).setCell (by simp) _
  have b2 := g4.kept hks (nin1 (by omega))
  have b3 := g5.kept hks (nin1 (by omega))
  have r1 := g1.kept hks (nin1 (by omega))
  have hkf : Kept [] w (w1.setCell ⟨w.heap.size + 1 + 1 + 1 + 1, 0, none⟩ (.bool true)) := Kept.setCell ((HA.out.1.trans HA.out.2 (by simp)).trans g3 (by simp; omega)) (by simp; omega) _
  generalize w1.setCell ⟨w.heap.size + 1 + 1 + 1 + 1, 0, none⟩ (.bool true) = w2 at b2 b3 r1 hkf ⊢
  obtain ⟨c, rfl, hrow⟩ := r1
  have q2 := b2.cell0
  have q3 := b3.cell0
  have f2 := b2.free 0
  have f3 := b3.free 0
  have HB := Lib.hid (And.intro b2 (And.intro b3 (And.intro hkf hrow)))
  clear b2 b3 hkf hks g1 g2 g3 g4 g5 hrow
  go_wp2
  have k0 : Kept [w.heap.size + 1 + 1, w.heap.size + 1 + 1 + 1] w2 ((w2.setCell ⟨w.heap.size + 1 + 1, 0, none⟩ (.slice (some ⟨g, 0, none⟩) l.length c)).setCell ⟨w.heap.size + 1 + 1 + 1, 0, none⟩ (.bool true)) := Kept.setCell (Kept.setCell (Kept.refl [w.heap.size + 1 + 1, w.heap.size + 1 + 1 + 1] w2) (p := ⟨w.heap.size + 1 + 1, 0, none⟩) (by simp) (.slice (some ⟨g, 0, none⟩) l.length c)) (p := ⟨w.heap.size + 1 + 1 + 1, 0, none⟩) (by simp) (.bool true)
  have b0 := (Blk.setCell (w := w2) HB.out.1 0 (.slice (some ⟨g, 0, none⟩) l.length c)).setCell_other (p := ⟨w.heap.size + 1 + 1 + 1, 0, none⟩) (by simp only []; omega) (.bool true)
  have o0 := (Blk.setCell_other (w := w2) HB.out.2.1 (p := ⟨w.heap.size + 1 + 1, 0, none⟩) (by simp only []; omega) (.slice (some ⟨g, 0, none⟩) l.length c)).setCell 0 (.bool true)
  have p0 := b0.cell0
  have p1 := o0.cell0
  refine bodyPost_ret (v := .tuple #[.slice (some ⟨g, 0, none⟩) l.length c, .bool true]) (by simp [results, Tryz.results33, go_sem, loadVar, asAddr, p0, p1]) rfl ⟨_, g, rfl, Row.kept ⟨c, rfl, HB.out.2.2.2⟩ k0 (nin2 (by omega) (by omega)), by omega, HB.out.2.2.1.trans k0 (by simp; omega)⟩

set_option maxHeartbeats 400000 in
theorem mkBeat_any (w : World) : Calls Tryz.prog 35 #[.int .u16 0] w fun e w' => e = .returned (.tuple #[.iface 89 (.pointer (some ⟨w.heap.size, 0, none⟩)), .bool true]) ∧
    w.alloc (.cells #[.int .u16 0] 91) = w' := by
  go_enter Tryz.func35, Tryz.ntmps35
  go_wp2
  go_ret2
  exact ⟨rfl, rfl⟩

theorem writtenBeat_any (w : World) : Calls Tryz.prog 33 #[.int .i64 0, .func (.func 35) #[] #[]] w fun e w' => ∃ v g, e = .returned (.tuple #[v, .bool true]) ∧ Row w' v g (frameB 8 0 []) ∧ w.heap.size ≤ g ∧ Kept [] w w' := by
  refine written_beat 0 w (by omega) (frameB 8 0 []) fun w1 hk => ?_
  refine (mkBeat_any w1).mono fun e w' h => ?_
  obtain ⟨rfl, rfl⟩ := h
  refine ⟨_, rfl, (Kept.refl [] w1).alloc _, ?_⟩
  refine zz_beat w1.heap.size _ (frameB 8 0 []) (by rw [frameB_length]; simp) fun w2 q hk2 hq hw => ?_
  have hb : Blk w2 w1.heap.size #[.int .u16 0] 91 := (Blk.new w1 _ _).kept hk2 (by simp)
  exact beatWrite_any q w1.heap.size [] w2 hw hb.cell0

set_option maxHeartbeats 400000 in
theorem formatBeat_any (w : World) : Calls Tryz.prog 15 #[] w fun e w' => ∃ v g, e = .returned (.tuple #[v, .bool true]) ∧ Row w' v g (frameB 8 0 []) ∧ w.heap.size ≤ g ∧ Kept [] w w' := by
  have hc := writtenBeat_any w
  have HC := Lib.hid hc; clear hc
  go_enter Tryz.func15, Tryz.ntmps15
  go_wp2_with (go_at_call 33; refine HC.out.mono ?_; rintro e w1 ⟨v, g, rfl, hR⟩)
  go_ret2
  exact ⟨v, g, rfl, hR⟩

set_option maxHeartbeats 400000 in
theorem works_any (w : World) : Calls Tryz.prog 7 #[] w fun e w' => e = .returned (.bool true) ∧ Kept [] w w' := by
  have hc := formatBeat_any w
  have HC := Lib.hid hc; clear hc
  go_enter Tryz.func7, Tryz.ntmps7
  go_wp2_with (go_at_call 15; refine HC.out.mono ?_; rintro e w1 ⟨v, g, rfl, hR, hR2, hR3⟩; obtain ⟨c, rfl, hR4⟩ := hR; rw [show (frameB 8 0 []).length = 8 by rw [frameB_length]; rfl]; have HR := Lib.hid hR3; clear hR2 hR3 hR4)
  go_ret
  exact ⟨rfl, HR.out⟩

end Go.Proofs.YtkcdakohmfodjaaGreat
