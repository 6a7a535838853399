/-
  Lemmas on the way to the statement of YtkcdakohmfodjaaGreatHeader, joined out of these texts: FmtHead. No condition.
-/
import Derived.Test.YtkcdakohmfodjaaGreatNFloat
import Derived.Test.YtkcdakohmfodjaaGreatNForm
import Derived.Test.YtkcdakohmfodjaaGreatNTexts
import Derived.Test.YtkcdakohmfodjaaGreatNValLaw
import Derived.Test.YtkcdakohmfodjaaGreatNWh
namespace Go.Proofs.YtkcdakohmfodjaaGreat
open Go.RowKit
set_option linter.unusedVariables false
set_option linter.unusedSimpArgs false
set_option maxHeartbeats 400000 in
set_option maxRecDepth 100000 in
theorem written1_head (fr ch b ok c0 : Nat) (bc bp bz : Nat) (w : World) (hf : w.cell? ⟨fr, 0, none⟩ = some (.func (.func 38) #[] #[.pointer (some ⟨bc, 0, none⟩), .pointer (some ⟨bp, 0, none⟩), .pointer (some ⟨bz, 0, none⟩)])) (hc : w.cell? ⟨ch, 0, none⟩ = some (.int .i64 (c0 : Int))) (hc0 : c0 ≤ 65535)
    (hb : ∃ v, Blk w b #[v] 22) (ho : ∃ v, Blk w ok #[v] 4) (hbo : b ≠ ok) (l : List UInt8)
    (hmk : Calls Tryz.prog 38 #[.int .u16 (c0 : Int), .pointer (some ⟨bc, 0, none⟩), .pointer (some ⟨bp, 0, none⟩), .pointer (some ⟨bz, 0, none⟩)] w fun e w' => ∃ p, e = .returned (.tuple #[.iface 94 (.pointer (some ⟨p, 0, none⟩)), .bool true]) ∧ Kept [] w w' ∧
      Calls Tryz.prog 52 #[.iface 94 (.pointer (some ⟨p, 0, none⟩))] w' fun e w2 => ∃ v g, e = .returned (.tuple #[v, .nilIface]) ∧ Row w2 v g l ∧ w'.heap.size ≤ g ∧ Kept [] w' w2) :
    Calls Tryz.prog 51 #[.pointer (some ⟨fr, 0, none⟩), .pointer (some ⟨ch, 0, none⟩), .pointer (some ⟨b, 0, none⟩), .pointer (some ⟨ok, 0, none⟩)] w fun e w' => e = .returned (.tuple #[]) ∧
      ∃ v g, Row w' v g l ∧ w.heap.size ≤ g ∧ Kept [b, ok] w w' ∧ Blk w' b #[v] 22 ∧ Blk w' ok #[.bool true] 4 := by
  have e1 : IntKind.u16.wrap (c0 : Int) = c0 := by rw [IntKind.wrap_u16]; omega
  have HM := Lib.hid hmk
  obtain ⟨vb, hb⟩ := hb
  obtain ⟨vo, ho⟩ := ho
  have HB := Lib.hid (And.intro hb ho)
  have hbw := hb.lt
  have how := ho.lt
  clear hmk hb ho
  go_enter Tryz.func51, Tryz.ntmps51
  go_wp2_with (first
    | (go_at_call 38; refine HM.out.mono ?_; rintro e w1 ⟨p, rfl, hk1, hz1⟩; have HZ := Lib.hid (And.intro hk1 hz1); clear hk1 hz1)
    | (go_at_call 52; refine HZ.out.2.mono ?_; rintro e w2 ⟨v, g, rfl, hz1, hz2, hz3⟩; have hk2 := HZ.out.1.trans hz3 (by simp); obtain ⟨c, rfl, hrow⟩ := hz1; have hb1 := HB.out.1.kept hk2 (by simp); have hb2 := HB.out.2.kept hk2 (by simp); have q1 := hb1.cell0; have q2 := hb2.cell0; have f1 := hb1.free 0; have f2 := hb2.free 0; have HR := Lib.hid (And.intro hrow (And.intro (Nat.le_trans HZ.out.1.size hz2) (And.intro hk2 (And.intro hb1 hb2)))); clear hrow hz2 hz3 hk2 hb1 hb2))
  go_region
  all_goals
    go_wp2
    go_end0
    have hgw := HR.out.2.1
    have k0 : Kept [b, ok] w2 ((w2.drew.setCell ⟨b, 0, none⟩ (.slice (some ⟨g, 0, none⟩) l.length c)).setCell ⟨ok, 0, none⟩ (.bool true)) := Kept.setCell (Kept.setCell (Kept.refl [b, ok] w2).drew (p := ⟨b, 0, none⟩) (by simp) (.slice (some ⟨g, 0, none⟩) l.length c)) (p := ⟨ok, 0, none⟩) (by simp) (.bool true)
    have r0 : Row w2 (.slice (some ⟨g, 0, none⟩) l.length c) g l := ⟨c, rfl, HR.out.1⟩
    have b0 : Blk ((w2.drew.setCell ⟨b, 0, none⟩ (.slice (some ⟨g, 0, none⟩) l.length c)).setCell ⟨ok, 0, none⟩ (.bool true)) b #[.slice (some ⟨g, 0, none⟩) l.length c] 22 := Blk.setCell_other (Blk.setCell (w := w2.drew) HR.out.2.2.2.1 0 _) (by simpa using hbo) _
    have o0 : Blk ((w2.drew.setCell ⟨b, 0, none⟩ (.slice (some ⟨g, 0, none⟩) l.length c)).setCell ⟨ok, 0, none⟩ (.bool true)) ok #[.bool true] 4 := Blk.setCell (Blk.setCell_other (w := w2.drew) HR.out.2.2.2.2 (by simpa using Ne.symm hbo) _) 0 _
    exact ⟨rfl, _, g, r0.kept k0 (nin2 (by omega) (by omega)), hgw, (HR.out.2.2.1.mono (by simp)).trans k0 (fun x hx => .inl hx), b0, o0⟩
set_option maxHeartbeats 1000000 in
set_option maxRecDepth 100000 in
theorem written_head (c0 : Nat) (bc bp bz : Nat) (w : World) (hc0 : c0 ≤ 65535) (l : List UInt8)
    (hmk : ∀ w1, Kept [] w w1 → Calls Tryz.prog 38 #[.int .u16 (c0 : Int), .pointer (some ⟨bc, 0, none⟩), .pointer (some ⟨bp, 0, none⟩), .pointer (some ⟨bz, 0, none⟩)] w1 fun e w' => ∃ p, e = .returned (.tuple #[.iface 94 (.pointer (some ⟨p, 0, none⟩)), .bool true]) ∧ Kept [] w1 w' ∧
      Calls Tryz.prog 52 #[.iface 94 (.pointer (some ⟨p, 0, none⟩))] w' fun e w2 => ∃ v g, e = .returned (.tuple #[v, .nilIface]) ∧ Row w2 v g l ∧ w'.heap.size ≤ g ∧ Kept [] w' w2) :
    Calls Tryz.prog 33 #[.int .i64 (c0 : Int), .func (.func 38) #[] #[.pointer (some ⟨bc, 0, none⟩), .pointer (some ⟨bp, 0, none⟩), .pointer (some ⟨bz, 0, none⟩)]] w fun e w' => ∃ v g, e = .returned (.tuple #[v, .bool true]) ∧ Row w' v g l ∧ w.heap.size ≤ g ∧ Kept [] w w' := by
  have hmf := mf_any
  have e1 : IntKind.u16.wrap (c0 : Int) = c0 := by rw [IntKind.wrap_u16]; omega
  have e2 : IntKind.i64.wrap (c0 : Int) = c0 := by rw [IntKind.wrap_i64]; omega
  obtain ⟨wa, hwa⟩ : ∃ wa, wa = (((w.alloc (.cells #[.int .i64 (c0 : Int)] 3)).alloc (.cells #[.func (.func 38) #[] #[.pointer (some ⟨bc, 0, none⟩), .pointer (some ⟨bp, 0, none⟩), .pointer (some ⟨bz, 0, none⟩)]] 88)).alloc (.cells #[.slice none 0 0] 22)).alloc (.cells #[.bool false] 4) := ⟨_, rfl⟩
  have hka : Kept [] w wa := by subst hwa; exact ((((Kept.refl [] w).alloc _).alloc _).alloc _).alloc _
  have hb0 : Blk wa w.heap.size #[.int .i64 (c0 : Int)] 3 := by subst hwa; exact (((Blk.new w _ _).alloc _).alloc _).alloc _
  have hb1 : Blk wa (w.heap.size + 1) #[.func (.func 38) #[] #[.pointer (some ⟨bc, 0, none⟩), .pointer (some ⟨bp, 0, none⟩), .pointer (some ⟨bz, 0, none⟩)]] 88 := by subst hwa; exact ((Blk.new_at (by simp)).alloc _).alloc _
  have hb2 : Blk wa (w.heap.size + 1 + 1) #[.slice none 0 0] 22 := by subst hwa; exact (Blk.new_at (by simp)).alloc _
  have hb3 : Blk wa (w.heap.size + 1 + 1 + 1) #[.bool false] 4 := by subst hwa; exact Blk.new_at (by simp)
  have hsz : wa.heap.size = w.heap.size + 1 + 1 + 1 + 1 := by subst hwa; simp
  have hkq : Kept [] wa (wa.alloc (.cells #[.bool false] 4)) := (Kept.refl [] wa).alloc _
  have hc1 := written1_head (w.heap.size + 1) w.heap.size (w.heap.size + 1 + 1) (w.heap.size + 1 + 1 + 1) c0 bc bp bz (wa.alloc (.cells #[.bool false] 4)) (hb1.kept hkq (by simp)).cell0 (hb0.kept hkq (by simp)).cell0 hc0 ⟨_, hb2.kept hkq (by simp)⟩ ⟨_, hb3.kept hkq (by simp)⟩ (by omega) l (hmk _ (hka.trans hkq (by simp)))
  have hq := quietly_write _ _ _ _ wa (fun w' => ∃ v g, Row w' v g l ∧ (wa.alloc (.cells #[.bool false] 4)).heap.size ≤ g ∧ Kept [w.heap.size + 1 + 1, w.heap.size + 1 + 1 + 1] (wa.alloc (.cells #[.bool false] 4)) w' ∧ Blk w' (w.heap.size + 1 + 1) #[v] 22 ∧ Blk w' (w.heap.size + 1 + 1 + 1) #[.bool true] 4)
    (fun w' hk => by obtain ⟨v, g, _, _, h3, _, _⟩ := hk; exact (Blk.new wa _ _).kept h3 (nin2 (by omega) (by omega))) hc1
  have HQ := Lib.hid hq; have HA := Lib.hid (And.intro hka hkq); have HZ := Lib.hid hsz
  have HW := Lib.hid hwa
  clear hq hc1 hka hkq hb0 hb1 hb2 hb3 hsz hmk hwa
  go_enter Tryz.func33, Tryz.ntmps33
  go_wp2_with fail
  rw [← HW.out]
  refine HQ.out.mono ?_
  rintro e w' ⟨rfl, w1, ⟨v, g, g1, g2, g3, g4, g5⟩, rfl⟩
  rw [HZ.out]
  have hg : w.heap.size + 1 + 1 + 1 + 1 + 1 ≤ g := by have := HZ.out; simp only [World.size_alloc] at g2; omega
  have hks : Kept [w.heap.size + 1 + 1 + 1 + 1] w1 (w1.setCell ⟨w.heap.size + 1 + 1 + 1 + 1, 0, none⟩ (.bool true)) := (Kept.refl _ w1).setCell (by simp) _
  have b2 := g4.kept hks (nin1 (by omega))
  have b3 := g5.kept hks (nin1 (by omega))
  have r1 := g1.kept hks (nin1 (by omega))
  have hkf : Kept [] w (w1.setCell ⟨w.heap.size + 1 + 1 + 1 + 1, 0, none⟩ (.bool true)) := Kept.setCell ((HA.out.1.trans HA.out.2 (by simp)).trans g3 (by simp; omega)) (by simp; omega) _
  generalize w1.setCell ⟨w.heap.size + 1 + 1 + 1 + 1, 0, none⟩ (.bool true) = w2 at b2 b3 r1 hkf ⊢
  obtain ⟨c, rfl, hrow⟩ := r1
  have q2 := b2.cell0
  have q3 := b3.cell0
  have f2 := b2.free 0
  have f3 := b3.free 0
  have HB := Lib.hid (And.intro b2 (And.intro b3 (And.intro hkf hrow)))
  clear b2 b3 hkf hks g1 g2 g3 g4 g5 hrow
  go_wp2
  have k0 : Kept [w.heap.size + 1 + 1, w.heap.size + 1 + 1 + 1] w2 ((w2.setCell ⟨w.heap.size + 1 + 1, 0, none⟩ (.slice (some ⟨g, 0, none⟩) l.length c)).setCell ⟨w.heap.size + 1 + 1 + 1, 0, none⟩ (.bool true)) := Kept.setCell (Kept.setCell (Kept.refl [w.heap.size + 1 + 1, w.heap.size + 1 + 1 + 1] w2) (p := ⟨w.heap.size + 1 + 1, 0, none⟩) (by simp) (.slice (some ⟨g, 0, none⟩) l.length c)) (p := ⟨w.heap.size + 1 + 1 + 1, 0, none⟩) (by simp) (.bool true)
  have b0 := (Blk.setCell (w := w2) HB.out.1 0 (.slice (some ⟨g, 0, none⟩) l.length c)).setCell_other (p := ⟨w.heap.size + 1 + 1 + 1, 0, none⟩) (by simp only []; omega) (.bool true)
  have o0 := (Blk.setCell_other (w := w2) HB.out.2.1 (p := ⟨w.heap.size + 1 + 1, 0, none⟩) (by simp only []; omega) (.slice (some ⟨g, 0, none⟩) l.length c)).setCell 0 (.bool true)
  have p0 := b0.cell0
  have p1 := o0.cell0
  refine bodyPost_ret (v := .tuple #[.slice (some ⟨g, 0, none⟩) l.length c, .bool true]) (by simp [results, Tryz.results33, go_sem, loadVar, asAddr, p0, p1]) rfl ⟨_, g, rfl, Row.kept ⟨c, rfl, HB.out.2.2.2⟩ k0 (nin2 (by omega) (by omega)), by omega, HB.out.2.2.1.trans k0 (by simp; omega)⟩
/-- impl.FormatHeader of a proper header. -/
theorem writtenHead_any (B : Nat → Prop) (p : HP) (hp : properP p = true) (hwf : WfP p) (hv : Value) (w : World) (h : FSl B w hv p.hdr) (c cl sz : Nat) (hc : c ≤ 65535) (hcl : cl < 65536) (hsz : sz < 18446744073709551616) (bc bp bz : Nat) (tc tp ts : TypeId)
    (hbc : Blk w bc #[.int .i64 (cl : Int)] tc) (hbp : Blk w bp (hpC p hv).toArray tp) (hbs : Blk w bz #[.int .u64 (sz : Int)] ts) :
    Calls Tryz.prog 33 #[.int .i64 (c : Int), .func (.func 38) #[] #[.pointer (some ⟨bc, 0, none⟩), .pointer (some ⟨bp, 0, none⟩), .pointer (some ⟨bz, 0, none⟩)]] w fun e w' => ∃ v g, e = .returned (.tuple #[v, .bool true]) ∧ Row w' v g (frameB 2 c (headerB cl sz p)) ∧ w.heap.size ≤ g ∧ Kept [] w w' := by
  have hfit := proper_fit hp
  have hfi := (fitsB_iff _).1 hfit.1
  have hm0 := HP.okMode hp
  have hp0 := HP.okPrio hp
  have hm1 : p.has 3 = false → p.mode = 0 := fun h => by rw [h] at hm0; have := of_decide_eq_false hm0.symm; omega
  have hp1 : p.has 4 = false → p.prio = 0 := fun h => by rw [h] at hp0; have := of_decide_eq_false hp0.symm; omega
  refine written_head c bc bp bz w hc (frameB 2 c (headerB cl sz p)) fun w1 hk => ?_
  refine (mkHead_any B p hwf 6 hfi.1 hfi.2 (HP.ok13 hp) ⟨hfit.2.1, hfit.2.2.1, hm1⟩ ⟨hfit.2.2.2.1, hfit.2.2.2.2.1, hp1⟩ ⟨hfit.2.2.2.2.2.1, hfit.2.2.2.2.2.2.1⟩
    hv w1 (h.kept hk (by simp)) c cl sz hcl bc bp bz tc tp ts (hbc.kept hk (by simp)) (hbp.kept hk (by simp)) (hbs.kept hk (by simp))).mono fun e w' h => ?_
  obtain ⟨f, hd, rfl, h1, h2, h3, h4⟩ := h
  refine ⟨f, rfl, h4, ?_⟩
  refine zz_head f w' (frameB 2 c (headerB cl sz p)) (by rw [frameB_length]; omega) fun w2 q hk2 hq hw => ?_
  have hfl := h2.lt
  exact hwrite_any (fun b => (w1.heap.size ≤ b ∧ b ≠ f) ∧ b < w'.heap.size) p hp hwf f q [] c cl sz hc hcl hsz hd w2 hw (h2.kept hk2 (by simp)) ((h3.mono (fun b hb hl => ⟨hb, hl⟩)).kept hk2 (by simp)) (fun b hb => by simp; omega) (by simp; omega)
set_option maxHeartbeats 1000000 in
set_option maxRecDepth 100000 in
theorem formatHead_any (B : Nat → Prop) (p : HP) (hp : properP p = true) (hwf : WfP p) (hv : Value) (w : World) (h : FSl B w hv p.hdr) (c cl sz : Nat) (hc : c ≤ 65535) (hcl : cl < 65536) (hsz : sz < 18446744073709551616) :
    Calls Tryz.prog 20 #[.int .i64 (c : Int), .int .i64 (cl : Int), .int .u64 (sz : Int), .agg (hpC p hv).toArray] w fun e w' => ∃ v g, e = .returned (.tuple #[v, .bool true]) ∧ Row w' v g (frameB 2 c (headerB cl sz p)) ∧ w.heap.size ≤ g ∧ Kept [] w w' := by
  obtain ⟨wa, hwa⟩ : ∃ wa, wa = ((w.alloc (.cells #[.int .i64 (cl : Int)] 3)).alloc (.cells #[.int .u64 (sz : Int)] 28)).alloc (.cells (hpC p hv).toArray 33) := ⟨_, rfl⟩
  have hk : Kept [] w wa := by rw [hwa]; exact (((Kept.refl [] w).alloc _).alloc _).alloc _
  have b0 : Blk wa w.heap.size #[.int .i64 (cl : Int)] 3 := by rw [hwa]; exact ((Blk.new w _ _).alloc _).alloc _
  have b1 : Blk wa (w.heap.size + 1) #[.int .u64 (sz : Int)] 28 := by rw [hwa]; exact (Blk.new_at (by simp)).alloc _
  have b2 : Blk wa (w.heap.size + 1 + 1) (hpC p hv).toArray 33 := by rw [hwa]; exact Blk.new_at (by simp)
  have hq := writtenHead_any B p hp hwf hv wa (h.kept hk (by simp)) c cl sz hc hcl hsz w.heap.size (w.heap.size + 1 + 1) (w.heap.size + 1) _ _ _ b0 b2 b1
  obtain ⟨cs, hcs⟩ : ∃ cs, cs = (hpC p hv).toArray := ⟨_, rfl⟩
  rw [← hcs] at hwa ⊢
  have HQ := Lib.hid hq; have HK := Lib.hid hk; have HW := Lib.hid hwa
  clear hq hk hwa h b0 b1 b2 hp hwf hcs
  go_enter Tryz.func20, Tryz.ntmps20
  go_upto_region 1 with fail
  rw [← HW.out]
  go_wp2_with (go_at_call 33; refine HQ.out.mono ?_; rintro e w1 ⟨v, g, rfl, hR⟩; have HR := Lib.hid hR; clear hR)
  go_ret2
  exact ⟨v, g, rfl, HR.out.1, Nat.le_trans HK.out.size HR.out.2.1, HK.out.trans HR.out.2.2 (by simp)⟩
end Go.Proofs.YtkcdakohmfodjaaGreat
