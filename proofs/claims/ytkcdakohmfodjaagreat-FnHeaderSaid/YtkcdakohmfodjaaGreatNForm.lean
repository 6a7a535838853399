/-
  Lemmas on the way to the statement of YtkcdakohmfodjaaGreatHeader, joined out of these texts: Form, Fmt. No condition.
-/
import Derived.Test.YtkcdakohmfodjaaGreatNConv
import Derived.Test.YtkcdakohmfodjaaGreatNFloat
import Derived.Test.YtkcdakohmfodjaaGreatNOwn
import Derived.Test.YtkcdakohmfodjaaGreatNValLaw
namespace Go.Proofs.YtkcdakohmfodjaaGreat
open Go.RowKit
set_option linter.unusedVariables false
set_option linter.unusedSimpArgs false
/-- A written row that is not empty, as a slice. -/
theorem Wr.row {w : World} {q : Nat} {bs : List Nat} {l : List UInt8} (h : Wr TB w q bs l) (hl : 0 < l.length) : ∃ v g c, v = .slice (some ⟨g, 0, none⟩) l.length c ∧ w.cell? ⟨q, 0, none⟩ = some v ∧ Row w v g l ∧ bs = [g] := by
  obtain ⟨v, h1, h2, h3, h4⟩ := h
  obtain ⟨g, c, rfl, h5, h6⟩ := own_form h2 hl
  exact ⟨_, g, c, rfl, h1.cell0, ⟨c, rfl, h2⟩, by rw [h3, h6]; rfl⟩
theorem method_beat (k : Nat) (a : Addr) (w : World) : (method (k + 1) 89 (.pointer (some a)) "amqp091/pub/amqp091.write").run Tryz.prog w = .ok (203, .pointer (some a)) w := by kernel_rfl
theorem nilAhead_beat (k : Nat) (a : Addr) (w : World) : (nilAhead (k + 1) 89 (.pointer (some a)) "amqp091/pub/amqp091.write").run Tryz.prog w = .ok (some false) w := by kernel_rfl
set_option maxHeartbeats 400000 in
set_option maxRecDepth 100000 in
theorem wf_beat (wr q p : Nat) (w : World) (hwr : w.cell? ⟨wr, 0, none⟩ = some (.iface 111 (.pointer (some ⟨q, 0, none⟩)))) (R : World → Prop)
    (hc : Calls Tryz.prog 203 #[.pointer (some ⟨p, 0, none⟩), .iface 111 (.pointer (some ⟨q, 0, none⟩))] w.drew fun e w' => e = .returned .nilIface ∧ R w') :
    Calls Tryz.prog 74 #[.pointer (some ⟨wr, 0, none⟩), .iface 89 (.pointer (some ⟨p, 0, none⟩))] w fun e w' => e = .returned .nilIface ∧ R w' := by
  have hm1 := method_beat
  have hm2 := nilAhead_beat
  go_enter Tryz.func74, Tryz.ntmps74
  go_wp2
  go_region_with (go_at_call 203; refine hc.mono ?_; rintro e w' ⟨rfl, hR⟩)
  all_goals
    go_wp2
    go_ret
    exact ⟨rfl, hR⟩
set_option maxHeartbeats 400000 in
theorem zz_beat (p : Nat) (w : World) (l : List UInt8) (hl : 0 < l.length)
    (hc : ∀ w1 q, Kept [] w w1 → w.heap.size ≤ q → Wr TB w1 q [] [] → Calls Tryz.prog 203 #[.pointer (some ⟨p, 0, none⟩), .iface 111 (.pointer (some ⟨q, 0, none⟩))] w1 fun e w' => e = .returned .nilIface ∧ ∃ bs', Wr TB w' q bs' l ∧ Adv q [] bs' w1 w') :
    Calls Tryz.prog 52 #[.iface 89 (.pointer (some ⟨p, 0, none⟩))] w fun e w' => ∃ v g, e = .returned (.tuple #[v, .nilIface]) ∧ Row w' v g l ∧ w.heap.size ≤ g ∧ Kept [] w w' := by
  obtain ⟨wa, hwa⟩ : ∃ wa, wa = (w.alloc (.cells #[.slice none 0 0] TB)).alloc (.cells #[.iface 111 (.pointer (some ⟨w.heap.size, 0, none⟩))] 184) := ⟨_, rfl⟩
  have hka : Kept [] w wa := by subst hwa; exact ((Kept.refl [] w).alloc _).alloc _
  have hq : Blk wa w.heap.size #[.slice none 0 0] TB := by subst hwa; exact (Blk.new w _ _).alloc _
  have hr : Blk wa (w.heap.size + 1) #[.iface 111 (.pointer (some ⟨w.heap.size, 0, none⟩))] 184 := by subst hwa; exact Blk.new_at (by simp)
  have hd : Kept [] wa wa.drew := (Kept.refl [] wa).drew
  have hw : Wr TB wa.drew w.heap.size [] [] := ⟨_, hq.kept hd (by simp), World.ownsRow_nil _ _ _ _, rfl, by simp⟩
  have hcall := wf_beat (w.heap.size + 1) w.heap.size p wa hr.cell0 _ (hc wa.drew w.heap.size (hka.trans hd (by simp)) (Nat.le_refl _) hw)
  have HC := Lib.hid hcall; have HK := Lib.hid hka; have HW := Lib.hid hwa; clear hcall hka hwa hq hr hd hw hc
  go_enter Tryz.func52, Tryz.ntmps52
  go_wp2_with fail
  rw [← HW.out]
  refine HC.out.mono ?_
  rintro e w1 ⟨rfl, bs', hw1, ha1⟩
  obtain ⟨v, g, c, hv, c0, hrow, hbs⟩ := hw1.row hl
  have hb := bytes_any w.heap.size v w1 c0
  have HB := Lib.hid hb
  have HR := Lib.hid (And.intro hrow (And.intro ha1 hbs)); clear hrow ha1 hbs hw1 c0 hb
  subst hv
  go_wp2_with (go_at_call 75; refine HB.out.mono ?_; rintro e w2 ⟨rfl, rfl⟩)
  go_ret2
  refine ⟨_, g, rfl, HR.out.1, ?_, ?_⟩
  · rcases HR.out.2.1.own g (by rw [HR.out.2.2]; simp) with h | h
    · simp at h
    · exact Nat.le_trans HK.out.size h
  · exact (HK.out.drew).trans HR.out.2.1.kept (by simp)
theorem method_head (k : Nat) (a : Addr) (w : World) : (method (k + 1) 94 (.pointer (some a)) "amqp091/pub/amqp091.write").run Tryz.prog w = .ok (205, .pointer (some a)) w := by kernel_rfl
theorem nilAhead_head (k : Nat) (a : Addr) (w : World) : (nilAhead (k + 1) 94 (.pointer (some a)) "amqp091/pub/amqp091.write").run Tryz.prog w = .ok (some false) w := by kernel_rfl
set_option maxHeartbeats 400000 in
set_option maxRecDepth 100000 in
theorem wf_head (wr q p : Nat) (w : World) (hwr : w.cell? ⟨wr, 0, none⟩ = some (.iface 111 (.pointer (some ⟨q, 0, none⟩)))) (R : World → Prop)
    (hc : Calls Tryz.prog 205 #[.pointer (some ⟨p, 0, none⟩), .iface 111 (.pointer (some ⟨q, 0, none⟩))] w.drew fun e w' => e = .returned .nilIface ∧ R w') :
    Calls Tryz.prog 74 #[.pointer (some ⟨wr, 0, none⟩), .iface 94 (.pointer (some ⟨p, 0, none⟩))] w fun e w' => e = .returned .nilIface ∧ R w' := by
  have hm1 := method_head
  have hm2 := nilAhead_head
  go_enter Tryz.func74, Tryz.ntmps74
  go_wp2
  go_region_with (go_at_call 205; refine hc.mono ?_; rintro e w' ⟨rfl, hR⟩)
  all_goals
    go_wp2
    go_ret
    exact ⟨rfl, hR⟩
set_option maxHeartbeats 400000 in
theorem zz_head (p : Nat) (w : World) (l : List UInt8) (hl : 0 < l.length)
    (hc : ∀ w1 q, Kept [] w w1 → w.heap.size ≤ q → Wr TB w1 q [] [] → Calls Tryz.prog 205 #[.pointer (some ⟨p, 0, none⟩), .iface 111 (.pointer (some ⟨q, 0, none⟩))] w1 fun e w' => e = .returned .nilIface ∧ ∃ bs', Wr TB w' q bs' l ∧ Adv q [] bs' w1 w') :
    Calls Tryz.prog 52 #[.iface 94 (.pointer (some ⟨p, 0, none⟩))] w fun e w' => ∃ v g, e = .returned (.tuple #[v, .nilIface]) ∧ Row w' v g l ∧ w.heap.size ≤ g ∧ Kept [] w w' := by
  obtain ⟨wa, hwa⟩ : ∃ wa, wa = (w.alloc (.cells #[.slice none 0 0] TB)).alloc (.cells #[.iface 111 (.pointer (some ⟨w.heap.size, 0, none⟩))] 184) := ⟨_, rfl⟩
  have hka : Kept [] w wa := by subst hwa; exact ((Kept.refl [] w).alloc _).alloc _
  have hq : Blk wa w.heap.size #[.slice none 0 0] TB := by subst hwa; exact (Blk.new w _ _).alloc _
  have hr : Blk wa (w.heap.size + 1) #[.iface 111 (.pointer (some ⟨w.heap.size, 0, none⟩))] 184 := by subst hwa; exact Blk.new_at (by simp)
  have hd : Kept [] wa wa.drew := (Kept.refl [] wa).drew
  have hw : Wr TB wa.drew w.heap.size [] [] := ⟨_, hq.kept hd (by simp), World.ownsRow_nil _ _ _ _, rfl, by simp⟩
  have hcall := wf_head (w.heap.size + 1) w.heap.size p wa hr.cell0 _ (hc wa.drew w.heap.size (hka.trans hd (by simp)) (Nat.le_refl _) hw)
  have HC := Lib.hid hcall; have HK := Lib.hid hka; have HW := Lib.hid hwa; clear hcall hka hwa hq hr hd hw hc
  go_enter Tryz.func52, Tryz.ntmps52
  go_wp2_with fail
  rw [← HW.out]
  refine HC.out.mono ?_
  rintro e w1 ⟨rfl, bs', hw1, ha1⟩
  obtain ⟨v, g, c, hv, c0, hrow, hbs⟩ := hw1.row hl
  have hb := bytes_any w.heap.size v w1 c0
  have HB := Lib.hid hb
  have HR := Lib.hid (And.intro hrow (And.intro ha1 hbs)); clear hrow ha1 hbs hw1 c0 hb
  subst hv
  go_wp2_with (go_at_call 75; refine HB.out.mono ?_; rintro e w2 ⟨rfl, rfl⟩)
  go_ret2
  refine ⟨_, g, rfl, HR.out.1, ?_, ?_⟩
  · rcases HR.out.2.1.own g (by rw [HR.out.2.2]; simp) with h | h
    · simp at h
    · exact Nat.le_trans HK.out.size h
  · exact (HK.out.drew).trans HR.out.2.1.kept (by simp)
set_option maxHeartbeats 400000 in
theorem beatWrite_any (q h : Nat) (bs : List Nat) (w : World) (hw : Wr TB w q bs []) (hh : w.cell? ⟨h, 0, none⟩ = some (.int .u16 0)) :
    Calls Tryz.prog 203 #[.pointer (some ⟨h, 0, none⟩), .iface 111 (.pointer (some ⟨q, 0, none⟩))] w fun e w' => e = .returned .nilIface ∧
      ∃ bs', Wr TB w' q bs' (frameB 8 0 []) ∧ Adv q bs bs' w w' := by
  have hk0 : Kept [] w (w.alloc (.cells #[] 5)) := (Kept.refl [] w).alloc _
  have hc := writeFrame_any q 8 0 (.slice (some ⟨w.heap.size, 0, none⟩) 0 0) [] (w.alloc (.cells #[] 5)) bs (hw.kept hk0 (by simp) (by simp)) w.heap.size (.inl ⟨rfl, _, _, rfl⟩) (by have := hw.lt; omega) (fun hm => by have := hw.blt _ hm; omega) (by simp) ⟨_, _, rfl⟩ (by omega) (by omega) (by simp)
  simp only [Int.natCast_zero] at hc
  have HC := Lib.hid hc; have HK := Lib.hid hk0; clear hc hk0 hw
  go_enter Tryz.func203, Tryz.ntmps203
  go_wp2_with (go_at_call 201; refine HC.out.mono ?_; rintro e w1 ⟨rfl, hR⟩)
  go_ret
  obtain ⟨bs', h1, h2⟩ := hR
  refine ⟨rfl, bs', h1, (HK.out.mono (by simp)).trans h2.kept (fun x hx => .inl hx), fun b hb => ?_⟩
  rcases h2.own b hb with h | h
  · exact .inl h
  · exact .inr (Nat.le_trans HK.out.size h)
set_option maxHeartbeats 400000 in
set_option maxRecDepth 100000 in
theorem written1_beat (fr ch b ok c0 : Nat) (w : World) (hf : w.cell? ⟨fr, 0, none⟩ = some (.func (.func 35) #[] #[])) (hc : w.cell? ⟨ch, 0, none⟩ = some (.int .i64 (c0 : Int))) (hc0 : c0 ≤ 65535)
    (hb : ∃ v, Blk w b #[v] 22) (ho : ∃ v, Blk w ok #[v] 4) (hbo : b ≠ ok) (l : List UInt8)
    (hmk : Calls Tryz.prog 35 #[.int .u16 (c0 : Int)] w fun e w' => ∃ p, e = .returned (.tuple #[.iface 89 (.pointer (some ⟨p, 0, none⟩)), .bool true]) ∧ Kept [] w w' ∧
      Calls Tryz.prog 52 #[.iface 89 (.pointer (some ⟨p, 0, none⟩))] w' fun e w2 => ∃ v g, e = .returned (.tuple #[v, .nilIface]) ∧ Row w2 v g l ∧ w'.heap.size ≤ g ∧ Kept [] w' w2) :
    Calls Tryz.prog 51 #[.pointer (some ⟨fr, 0, none⟩), .pointer (some ⟨ch, 0, none⟩), .pointer (some ⟨b, 0, none⟩), .pointer (some ⟨ok, 0, none⟩)] w fun e w' => e = .returned (.tuple #[]) ∧
      ∃ v g, Row w' v g l ∧ w.heap.size ≤ g ∧ Kept [b, ok] w w' ∧ Blk w' b #[v] 22 ∧ Blk w' ok #[.bool true] 4 := by
  have e1 : IntKind.u16.wrap (c0 : Int) = c0 := by rw [IntKind.wrap_u16]; omega
  have HM := Lib.hid hmk
  obtain ⟨vb, hb⟩ := hb
  obtain ⟨vo, ho⟩ := ho
  have HB := Lib.hid (And.intro hb ho)
  have hbw := hb.lt
  have how := ho.lt
  clear hmk hb ho
  go_enter Tryz.func51, Tryz.ntmps51
  go_wp2_with (first
    | (go_at_call 35; refine HM.out.mono ?_; rintro e w1 ⟨p, rfl, hk1, hz1⟩; have HZ := Lib.hid (And.intro hk1 hz1); clear hk1 hz1)
    | (go_at_call 52; refine HZ.out.2.mono ?_; rintro e w2 ⟨v, g, rfl, hz1, hz2, hz3⟩; have hk2 := HZ.out.1.trans hz3 (by simp); obtain ⟨c, rfl, hrow⟩ := hz1; have hb1 := HB.out.1.kept hk2 (by simp); have hb2 := HB.out.2.kept hk2 (by simp); have q1 := hb1.cell0; have q2 := hb2.cell0; have f1 := hb1.free 0; have f2 := hb2.free 0; have HR := Lib.hid (And.intro hrow (And.intro (Nat.le_trans HZ.out.1.size hz2) (And.intro hk2 (And.intro hb1 hb2)))); clear hrow hz2 hz3 hk2 hb1 hb2))
  go_region
  all_goals
    go_wp2
    go_end0
    have hgw := HR.out.2.1
    have k0 : Kept [b, ok] w2 ((w2.drew.setCell ⟨b, 0, none⟩ (.slice (some ⟨g, 0, none⟩) l.length c)).setCell ⟨ok, 0, none⟩ (.bool true)) := Kept.setCell (Kept.setCell (Kept.refl [b, ok] w2).drew (p := ⟨b, 0, none⟩) (by simp) (.slice (some ⟨g, 0, none⟩) l.length c)) (p := ⟨ok, 0, none⟩) (by simp) (.bool true)
    have r0 : Row w2 (.slice (some ⟨g, 0, none⟩) l.length c) g l := ⟨c, rfl, HR.out.1⟩
    have b0 : Blk ((w2.drew.setCell ⟨b, 0, none⟩ (.slice (some ⟨g, 0, none⟩) l.length c)).setCell ⟨ok, 0, none⟩ (.bool true)) b #[.slice (some ⟨g, 0, none⟩) l.length c] 22 := Blk.setCell_other (Blk.setCell (w := w2.drew) HR.out.2.2.2.1 0 _) (by simpa using hbo) _
    have o0 : Blk ((w2.drew.setCell ⟨b, 0, none⟩ (.slice (some ⟨g, 0, none⟩) l.length c)).setCell ⟨ok, 0, none⟩ (.bool true)) ok #[.bool true] 4 := Blk.setCell (Blk.setCell_other (w := w2.drew) HR.out.2.2.2.2 (by simpa using Ne.symm hbo) _) 0 _
    exact ⟨rfl, _, g, r0.kept k0 (nin2 (by omega) (by omega)), hgw, (HR.out.2.2.1.mono (by simp)).trans k0 (fun x hx => .inl hx), b0, o0⟩
set_option maxHeartbeats 1000000 in
set_option maxRecDepth 100000 in
theorem written_beat (c0 : Nat) (w : World) (hc0 : c0 ≤ 65535) (l : List UInt8)
    (hmk : ∀ w1, Kept [] w w1 → Calls Tryz.prog 35 #[.int .u16 (c0 : Int)] w1 fun e w' => ∃ p, e = .returned (.tuple #[.iface 89 (.pointer (some ⟨p, 0, none⟩)), .bool true]) ∧ Kept [] w1 w' ∧
      Calls Tryz.prog 52 #[.iface 89 (.pointer (some ⟨p, 0, none⟩))] w' fun e w2 => ∃ v g, e = .returned (.tuple #[v, .nilIface]) ∧ Row w2 v g l ∧ w'.heap.size ≤ g ∧ Kept [] w' w2) :
    Calls Tryz.prog 33 #[.int .i64 (c0 : Int), .func (.func 35) #[] #[]] w fun e w' => ∃ v g, e = .returned (.tuple #[v, .bool true]) ∧ Row w' v g l ∧ w.heap.size ≤ g ∧ Kept [] w w' := by
  have hmf := mf_any
  have e1 : IntKind.u16.wrap (c0 : Int) = c0 := by rw [IntKind.wrap_u16]; omega
  have e2 : IntKind.i64.wrap (c0 : Int) = c0 := by rw [IntKind.wrap_i64]; omega
  obtain ⟨wa, hwa⟩ : ∃ wa, wa = (((w.alloc (.cells #[.int .i64 (c0 : Int)] 3)).alloc (.cells #[.func (.func 35) #[] #[]] 88)).alloc (.cells #[.slice none 0 0] 22)).alloc (.cells #[.bool false] 4) := ⟨_, rfl⟩
  have hka : Kept [] w wa := by subst hwa; exact ((((Kept.refl [] w).alloc _).alloc _).alloc _).alloc _
  have hb0 : Blk wa w.heap.size #[.int .i64 (c0 : Int)] 3 := by subst hwa; exact (((Blk.new w _ _).alloc _).alloc _).alloc _
  have hb1 : Blk wa (w.heap.size + 1) #[.func (.func 35) #[] #[]] 88 := by subst hwa; exact ((Blk.new_at (by simp)).alloc _).alloc _
  have hb2 : Blk wa (w.heap.size + 1 + 1) #[.slice none 0 0] 22 := by subst hwa; exact (Blk.new_at (by simp)).alloc _
  have hb3 : Blk wa (w.heap.size + 1 + 1 + 1) #[.bool false] 4 := by subst hwa; exact Blk.new_at (by simp)
  have hsz : wa.heap.size = w.heap.size + 1 + 1 + 1 + 1 := by subst hwa; simp
  have hkq : Kept [] wa (wa.alloc (.cells #[.bool false] 4)) := (Kept.refl [] wa).alloc _
  have hc1 := written1_beat (w.heap.size + 1) w.heap.size (w.heap.size + 1 + 1) (w.heap.size + 1 + 1 + 1) c0 (wa.alloc (.cells #[.bool false] 4)) (hb1.kept hkq (by simp)).cell0 (hb0.kept hkq (by simp)).cell0 hc0 ⟨_, hb2.kept hkq (by simp)⟩ ⟨_, hb3.kept hkq (by simp)⟩ (by omega) l (hmk _ (hka.trans hkq (by simp)))
  have hq := quietly_write _ _ _ _ wa (fun w' => ∃ v g, Row w' v g l ∧ (wa.alloc (.cells #[.bool false] 4)).heap.size ≤ g ∧ Kept [w.heap.size + 1 + 1, w.heap.size + 1 + 1 + 1] (wa.alloc (.cells #[.bool false] 4)) w' ∧ Blk w' (w.heap.size + 1 + 1) #[v] 22 ∧ Blk w' (w.heap.size + 1 + 1 + 1) #[.bool true] 4)
    (fun w' hk => by obtain ⟨v, g, _, _, h3, _, _⟩ := hk; exact (Blk.new wa _ _).kept h3 (nin2 (by omega) (by omega))) hc1
  have HQ := Lib.hid hq; have HA := Lib.hid (And.intro hka hkq); have HZ := Lib.hid hsz
  have HW := Lib.hid hwa
  clear hq hc1 hka hkq hb0 hb1 hb2 hb3 hsz hmk hwa
  go_enter Tryz.func33, Tryz.ntmps33
  go_wp2_with fail
  rw [← HW.out]
  refine HQ.out.mono ?_
  rintro e w' ⟨rfl, w1, ⟨v, g, g1, g2, g3, g4, g5⟩, rfl⟩
  rw [HZ.out]
  have hg : w.heap.size + 1 + 1 + 1 + 1 + 1 ≤ g := by have := HZ.out; simp only [World.size_alloc] at g2; omega
  have hks : Kept [w.heap.size + 1 + 1 + 1 + 1] w1 (w1.setCell ⟨w.heap.size + 1 + 1 + 1 + 1, 0, none⟩ (.bool true)) := (Kept.refl _ w1).setCell (by simp) _
  have b2 := g4.kept hks (nin1 (by omega))
  have b3 := g5.kept hks (nin1 (by omega))
  have r1 := g1.kept hks (nin1 (by omega))
  have hkf : Kept [] w (w1.setCell ⟨w.heap.size + 1 + 1 + 1 + 1, 0, none⟩ (.bool true)) := Kept.setCell ((HA.out.1.trans HA.out.2 (by simp)).trans g3 (by simp; omega)) (by simp; omega) _
  generalize w1.setCell ⟨w.heap.size + 1 + 1 + 1 + 1, 0, none⟩ (.bool true) = w2 at b2 b3 r1 hkf ⊢
  obtain ⟨c, rfl, hrow⟩ := r1
  have q2 := b2.cell0
  have q3 := b3.cell0
  have f2 := b2.free 0
  have f3 := b3.free 0
  have HB := Lib.hid (And.intro b2 (And.intro b3 (And.intro hkf hrow)))
  clear b2 b3 hkf hks g1 g2 g3 g4 g5 hrow
  go_wp2
  have k0 : Kept [w.heap.size + 1 + 1, w.heap.size + 1 + 1 + 1] w2 ((w2.setCell ⟨w.heap.size + 1 + 1, 0, none⟩ (.slice (some ⟨g, 0, none⟩) l.length c)).setCell ⟨w.heap.size + 1 + 1 + 1, 0, none⟩ (.bool true)) := Kept.setCell (Kept.setCell (Kept.refl [w.heap.size + 1 + 1, w.heap.size + 1 + 1 + 1] w2) (p := ⟨w.heap.size + 1 + 1, 0, none⟩) (by simp) (.slice (some ⟨g, 0, none⟩) l.length c)) (p := ⟨w.heap.size + 1 + 1 + 1, 0, none⟩) (by simp) (.bool true)
  have b0 := (Blk.setCell (w := w2) HB.out.1 0 (.slice (some ⟨g, 0, none⟩) l.length c)).setCell_other (p := ⟨w.heap.size + 1 + 1 + 1, 0, none⟩) (by simp only []; omega) (.bool true)
  have o0 := (Blk.setCell_other (w := w2) HB.out.2.1 (p := ⟨w.heap.size + 1 + 1, 0, none⟩) (by simp only []; omega) (.slice (some ⟨g, 0, none⟩) l.length c)).setCell 0 (.bool true)
  have p0 := b0.cell0
  have p1 := o0.cell0
  refine bodyPost_ret (v := .tuple #[.slice (some ⟨g, 0, none⟩) l.length c, .bool true]) (by simp [results, Tryz.results33, go_sem, loadVar, asAddr, p0, p1]) rfl ⟨_, g, rfl, Row.kept ⟨c, rfl, HB.out.2.2.2⟩ k0 (nin2 (by omega) (by omega)), by omega, HB.out.2.2.1.trans k0 (by simp; omega)⟩
set_option maxHeartbeats 400000 in
theorem mkBeat_any (w : World) : Calls Tryz.prog 35 #[.int .u16 0] w fun e w' => e = .returned (.tuple #[.iface 89 (.pointer (some ⟨w.heap.size, 0, none⟩)), .bool true]) ∧
    w.alloc (.cells #[.int .u16 0] 91) = w' := by
  go_enter Tryz.func35, Tryz.ntmps35
  go_wp2
  go_ret2
  exact ⟨rfl, rfl⟩
theorem writtenBeat_any (w : World) : Calls Tryz.prog 33 #[.int .i64 0, .func (.func 35) #[] #[]] w fun e w' => ∃ v g, e = .returned (.tuple #[v, .bool true]) ∧ Row w' v g (frameB 8 0 []) ∧ w.heap.size ≤ g ∧ Kept [] w w' := by
  refine written_beat 0 w (by omega) (frameB 8 0 []) fun w1 hk => ?_
  refine (mkBeat_any w1).mono fun e w' h => ?_
  obtain ⟨rfl, rfl⟩ := h
  refine ⟨_, rfl, (Kept.refl [] w1).alloc _, ?_⟩
  refine zz_beat w1.heap.size _ (frameB 8 0 []) (by rw [frameB_length]; simp) fun w2 q hk2 hq hw => ?_
  have hb : Blk w2 w1.heap.size #[.int .u16 0] 91 := (Blk.new w1 _ _).kept hk2 (by simp)
  exact beatWrite_any q w1.heap.size [] w2 hw hb.cell0
set_option maxHeartbeats 400000 in
theorem formatBeat_any (w : World) : Calls Tryz.prog 15 #[] w fun e w' => ∃ v g, e = .returned (.tuple #[v, .bool true]) ∧ Row w' v g (frameB 8 0 []) ∧ w.heap.size ≤ g ∧ Kept [] w w' := by
  have hc := writtenBeat_any w
  have HC := Lib.hid hc; clear hc
  go_enter Tryz.func15, Tryz.ntmps15
  go_wp2_with (go_at_call 33; refine HC.out.mono ?_; rintro e w1 ⟨v, g, rfl, hR⟩)
  go_ret2
  exact ⟨v, g, rfl, hR⟩
set_option maxHeartbeats 400000 in
theorem works_any (w : World) : Calls Tryz.prog 7 #[] w fun e w' => e = .returned (.bool true) ∧ Kept [] w w' := by
  have hc := formatBeat_any w
  have HC := Lib.hid hc; clear hc
  go_enter Tryz.func7, Tryz.ntmps7
  go_wp2_with (go_at_call 15; refine HC.out.mono ?_; rintro e w1 ⟨v, g, rfl, hR, hR2, hR3⟩; obtain ⟨c, rfl, hR4⟩ := hR; rw [show (frameB 8 0 []).length = 8 by rw [frameB_length]; rfl]; have HR := Lib.hid hR3; clear hR2 hR3 hR4)
  go_ret
  exact ⟨rfl, HR.out⟩
end Go.Proofs.YtkcdakohmfodjaaGreat
