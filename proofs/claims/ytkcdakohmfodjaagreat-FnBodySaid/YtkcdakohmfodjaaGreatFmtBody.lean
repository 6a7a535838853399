/-
  written: a frame made by a closure and written; what formats a body. (Printed by wip/gen/fmt.py.)
-/
import Derived.Test.YtkcdakohmfodjaaGreatFmt
import Derived.Test.YtkcdakohmfodjaaGreatBrkWalk
import Derived.Test.YtkcdakohmfodjaaGreatQuiet
import Derived.Test.YtkcdakohmfodjaaGreatRow
namespace Go.Proofs.YtkcdakohmfodjaaGreat
open Go.RowKit
set_option linter.unusedVariables false
set_option linter.unusedSimpArgs false

set_option maxHeartbeats 400000 in
set_option maxRecDepth 100000 in
theorem written1_body (fr ch b ok c0 : Nat) (dt : Nat) (w : World) (hf : w.cell? ⟨fr, 0, none⟩ = some (.func (.func 34) #[] #[.pointer (some ⟨dt, 0, none⟩)])) (hc : w.cell? ⟨ch, 0, none⟩ = some (.int .i64 (c0 : Int))) (hc0 : c0 ≤ 65535)
    (hb : ∃ v, Blk w b #[v] 22) (ho : ∃ v, Blk w ok #[v] 4) (hbo : b ≠ ok) (l : List UInt8)
    (hmk : Calls Tryz.prog 34 #[.int .u16 (c0 : Int), .pointer (some ⟨dt, 0, none⟩)] w fun e w' => ∃ p, e = .returned (.tuple #[.iface 85 (.pointer (some ⟨p, 0, none⟩)), .bool true]) ∧ Kept [] w w' ∧
      Calls Tryz.prog 52 #[.iface 85 (.pointer (some ⟨p, 0, none⟩))] w' fun e w2 => ∃ v g, e = .returned (.tuple #[v, .nilIface]) ∧ Row w2 v g l ∧ w'.heap.size ≤ g ∧ Kept [] w' w2) :
    Calls Tryz.prog 51 #[.pointer (some ⟨fr, 0, none⟩), .pointer (some ⟨ch, 0, none⟩), .pointer (some ⟨b, 0, none⟩), .pointer (some ⟨ok, 0, none⟩)] w fun e w' => e = .returned (.tuple #[]) ∧
      ∃ v g, Row w' v g l ∧ w.heap.size ≤ g ∧ Kept [b, ok] w w' ∧ Blk w' b #[v] 22 ∧ Blk w' ok #[.bool true] 4 := by
  have e1 : IntKind.u16.wrap (c0 : Int) = c0 := by rw [IntKind.wrap_u16]; omega
  have HM := Lib.hid hmk
  obtain ⟨vb, hb⟩ := hb
  obtain ⟨vo, ho⟩ := ho
  have HB := Lib.hid (And.intro hb ho)
  have hbw := hb.lt
  have how := ho.lt
  clear hmk hb ho
  go_enter Tryz.func51, Tryz.ntmps51
  go_wp2_with (first
    | (go_at_call 34; refine HM.out.mono ?_; rintro e w1 ⟨p, rfl, hk1, hz1⟩; have HZ := Lib.hid (And.intro hk1 hz1); clear hk1 hz1)
    | (go_at_call 52; refine HZ.out.2.mono ?_; rintro e w2 ⟨v, g, rfl, hz1, hz2, hz3⟩; have hk2 := HZ.out.1.trans hz3 (by simp); obtain ⟨c, rfl, hrow⟩ := hz1; have hb1 := HB.out.1.kept hk2 (by simp); have hb2 := HB.out.2.kept hk2 (by simp); have q1 := hb1.cell0; have q2 := hb2.cell0; have f1 := hb1.free 0; have f2 := hb2.free 0; have HR := Lib.hid (And.intro hrow (And.intro (Nat.le_trans HZ.out.1.size hz2) (And.intro hk2 (And.intro hb1 hb2)))); clear hrow hz2 hz3 hk2 hb1 hb2))
  go_region
  all_goals
    go_wp2
    go_end0
    have hgw := HR.out.2.1
    have k0 : Kept [b, ok] w2 ((w2.drew.setCell ⟨b, 0, none⟩ (.slice (some ⟨g, 0, none⟩) l.length c)).setCell ⟨ok, 0, none⟩ (.bool true)) := Kept.setCell (Kept.setCell (Kept.refl [b, ok] w2).drew (p := ⟨b, 0, none⟩) (by simp) (.slice (some ⟨g, 0, none⟩) l.length c)) (p := ⟨ok, 0, none⟩) (by simp) (.bool true)
    have r0 : Row w2 (.slice (some ⟨g, 0, none⟩) l.length c) g l := ⟨c, rfl, HR.out.1⟩
    have b0 : Blk ((w2.drew.setCell ⟨b, 0, none⟩ (.slice (some ⟨g, 0, none⟩) l.length c)).setCell ⟨ok, 0, none⟩ (.bool true)) b #[.slice (some ⟨g, 0, none⟩) l.length c] 22 := Blk.setCell_other (Blk.setCell (w := w2.drew) HR.out.2.2.2.1 0 _) (by simpa using hbo) _
    have o0 : Blk ((w2.drew.setCell ⟨b, 0, none⟩ (.slice (some ⟨g, 0, none⟩) l.length c)).setCell ⟨ok, 0, none⟩ (.bool true)) ok #[.bool true] 4 := Blk.setCell (Blk.setCell_other (w := w2.drew) HR.out.2.2.2.2 (by simpa using Ne.symm hbo) _) 0 _
    exact ⟨rfl, _, g, r0.kept k0 (nin2 (by omega) (by omega)), hgw, (HR.out.2.2.1.mono (by simp)).trans k0 (fun x hx => .inl hx), b0, o0⟩

set_option maxHeartbeats 1000000 in
set_option maxRecDepth 100000 in
theorem written_body (c0 : Nat) (dt : Nat) (w : World) (hc0 : c0 ≤ 65535) (l : List UInt8)
    (hmk : ∀ w1, Kept [] w w1 → Calls Tryz.prog 34 #[.int .u16 (c0 : Int), .pointer (some ⟨dt, 0, none⟩)] w1 fun e w' => ∃ p, e = .returned (.tuple #[.iface 85 (.pointer (some ⟨p, 0, none⟩)), .bool true]) ∧ Kept [] w1 w' ∧
      Calls Tryz.prog 52 #[.iface 85 (.pointer (some ⟨p, 0, none⟩))] w' fun e w2 => ∃ v g, e = .returned (.tuple #[v, .nilIface]) ∧ Row w2 v g l ∧ w'.heap.size ≤ g ∧ Kept [] w' w2) :
    Calls Tryz.prog 33 #[.int .i64 (c0 : Int), .func (.func 34) #[] #[.pointer (some ⟨dt, 0, none⟩)]] w fun e w' => ∃ v g, e = .returned (.tuple #[v, .bool true]) ∧ Row w' v g l ∧ w.heap.size ≤ g ∧ Kept [] w w' := by
  have hmf := mf_any
  have e1 : IntKind.u16.wrap (c0 : Int) = c0 := by rw [IntKind.wrap_u16]; omega
  have e2 : IntKind.i64.wrap (c0 : Int) = c0 := by rw [IntKind.wrap_i64]; omega
  obtain ⟨wa, hwa⟩ : ∃ wa, wa = (((w.alloc (.cells #[.int .i64 (c0 : Int)] 3)).alloc (.cells #[.func (.func 34) #[] #[.pointer (some ⟨dt, 0, none⟩)]] 88)).alloc (.cells #[.slice none 0 0] 22)).alloc (.cells #[.bool false] 4) := ⟨_, rfl⟩
  have hka : Kept [] w wa := by subst hwa; exact ((((Kept.refl [] w).alloc _).alloc _).alloc _).alloc _
  have hb0 : Blk wa w.heap.size #[.int .i64 (c0 : Int)] 3 := by subst hwa; exact (((Blk.new w _ _).alloc _).alloc _).alloc _
  have hb1 : Blk wa (w.heap.size + 1) #[.func (.func 34) #[] #[.pointer (some ⟨dt, 0, none⟩)]] 88 := by subst hwa; exact ((Blk.new_at (by simp)).alloc _).alloc _
  have hb2 : Blk wa (w.heap.size + 1 + 1) #[.slice none 0 0] 22 := by subst hwa; exact (Blk.new_at (by simp)).alloc _
  have hb3 : Blk wa (w.heap.size + 1 + 1 + 1) #[.bool false] 4 := by subst hwa; exact Blk.new_at (by simp)
  have hsz : wa.heap.size = w.heap.size + 1 + 1 + 1 + 1 := by subst hwa; simp
  have hkq : Kept [] wa (wa.alloc (.cells #[.bool false] 4)) := (Kept.refl [] wa).alloc _
  have hc1 := written1_body (w.heap.size + 1) w.heap.size (w.heap.size + 1 + 1) (w.heap.size + 1 + 1 + 1) c0 dt (wa.alloc (.cells #[.bool false] 4)) (hb1.kept hkq (by simp)).cell0 (hb0.kept hkq (by simp)).cell0 hc0 ⟨_, hb2.kept hkq (by simp)⟩ ⟨_, hb3.kept hkq (by simp)⟩ (by omega) l (hmk _ (hka.trans hkq (by simp)))
  have hq := quietly_write _ _ _ _ wa (fun w' => ∃ v g, Row w' v g l ∧ (wa.alloc (.cells #[.bool false] 4)).heap.size ≤ g ∧ Kept [w.heap.size + 1 + 1, w.heap.size + 1 + 1 + 1] (wa.alloc (.cells #[.bool false] 4)) w' ∧ Blk w' (w.heap.size + 1 + 1) #[v] 22 ∧ Blk w' (w.heap.size + 1 + 1 + 1) #[.bool true] 4)
    (fun w' hk => by obtain ⟨v, g, _, _, h3, _, _⟩ := hk; exact (Blk.new wa _ _).kept h3 (nin2 (by omega) (by omega))) hc1
  have HQ := Lib.hid hq; have HA := Lib.hid (And.intro hka hkq); have HZ := Lib.hid hsz
  have HW := Lib.hid hwa
  clear hq hc1 hka hkq hb0 hb1 hb2 hb3 hsz hmk hwa
  go_enter Tryz.func33, Tryz.ntmps33
  go_wp2_with fail
  rw [← HW.out]
  refine HQ.out.mono ?_
  rintro e w' ⟨rfl, w1, ⟨v, g, g1, g2, g3, g4, g5⟩, rfl⟩
  rw [HZ.out]
  have hg : w.heap.size + 1 + 1 + 1 + 1 + 1 ≤ g := by have := HZ.out; simp only [World.size_alloc] at g2; omega
  have hks : Kept [w.heap.size + 1 + 1 + 1 + 1] w1 (w1.setCell ⟨w.heap.size + 1 + 1 + 1 + 1, 0, none⟩ (.bool true)) := (Kept.refl _ w1).setCell (by simp) _
  have b2 := g4.kept hks (nin1 (by omega))
  have b3 := g5.kept hks (nin1 (by omega))
  have r1 := g1.kept hks (nin1 (by omega))
  have hkf : Kept [] w (w1.setCell ⟨w.heap.size + 1 + 1 + 1 + 1, 0, none⟩ (.bool true)) := Kept.setCell ((HA.out.1.trans HA.out.2 (by simp)).trans g3 (by simp; omega)) (by simp; omega) _
  generalize w1.setCell ⟨w.heap.size + 1 + 1 + 1 + 1, 0, none⟩ (.bool true) = w2 at b2 b3 r1 hkf ⊢
  obtain ⟨c, rfl, hrow⟩ := r1
  have q2 := b2.cell0
  have q3 := b3.cell0
  have f2 := b2.free 0
  have f3 := b3.free 0
  have HB := Lib.hid (And.intro b2 (And.intro b3 (And.intro hkf hrow)))
  clear b2 b3 hkf hks g1 g2 g3 g4 g5 hrow
  go_wp2
  have k0 : Kept [w.heap.size + 1 + 1, w.heap.size + 1 + 1 + 1] w2 ((w2.setCell ⟨w.heap.size + 1 + 1, 0, none⟩ (.slice (some ⟨g, 0, none⟩) l.length c)).setCell ⟨w.heap.size + 1 + 1 + 1, 0, none⟩ (.bool true)) := Kept.setCell (Kept.setCell (Kept.refl [w.heap.size + 1 + 1, w.heap.size + 1 + 1 + 1] w2) (p := ⟨w.heap.size + 1 + 1, 0, none⟩) (by simp) (.slice (some ⟨g, 0, none⟩) l.length c)) (p := ⟨w.heap.size + 1 + 1 + 1, 0, none⟩) (by simp) (.bool true)
  have b0 := (Blk.setCell (w := w2) HB.out.1 0 (.slice (some ⟨g, 0, none⟩) l.length c)).setCell_other (p := ⟨w.heap.size + 1 + 1 + 1, 0, none⟩) (by simp only []; omega) (.bool true)
  have o0 := (Blk.setCell_other (w := w2) HB.out.2.1 (p := ⟨w.heap.size + 1 + 1, 0, none⟩) (by simp only []; omega) (.slice (some ⟨g, 0, none⟩) l.length c)).setCell 0 (.bool true)
  have p0 := b0.cell0
  have p1 := o0.cell0
  refine bodyPost_ret (v := .tuple #[.slice (some ⟨g, 0, none⟩) l.length c, .bool true]) (by simp [results, Tryz.results33, go_sem, loadVar, asAddr, p0, p1]) rfl ⟨_, g, rfl, Row.kept ⟨c, rfl, HB.out.2.2.2⟩ k0 (nin2 (by omega) (by omega)), by omega, HB.out.2.2.1.trans k0 (by simp; omega)⟩

set_option maxHeartbeats 400000 in
theorem mkBody_any (dt ch d : Nat) (s : Value) (m : List UInt8) (n : Nat) (hmn : m.length = n) (w : World) (hd : w.cell? ⟨dt, 0, none⟩ = some s) (hs : Src w s d m) (hsl : ∃ ao c, s = .slice ao n c) (hml : n ≤ 1000000) :
    Calls Tryz.prog 34 #[.int .u16 (ch : Int), .pointer (some ⟨dt, 0, none⟩)] w fun e w' => ∃ p g c, e = .returned (.tuple #[.iface 85 (.pointer (some ⟨p, 0, none⟩)), .bool true]) ∧
      Blk w' p #[.int .u16 (ch : Int), .slice (some ⟨g, 0, none⟩) n c] 87 ∧ Row w' (.slice (some ⟨g, 0, none⟩) n c) g m ∧ w.heap.size ≤ g ∧ Kept [] w w' := by
  obtain ⟨ao, c, rfl⟩ := hsl
  have hb0 : n ≤ 140737488355328 := by omega
  have hlt := World.block_lt_of_cell? w _ hd
  have hd2 : (w.alloc (.cells #[] 5)).cell? ⟨dt, 0, none⟩ = some (.slice ao n c) := ((Kept.refl [] w).alloc (.cells #[] 5)).cell hd (by simp)
  have HS := Lib.hid hs; have HMN := Lib.hid hmn; have HE := Lib.hid ((Kept.refl [] w).alloc (.cells #[] 5)); clear hs hmn hd hml
  go_enter Tryz.func34, Tryz.ntmps34
  go_wp2_with (refine wpList_append_to rfl (.tmp 6) (.tmp 7) 22 22 rfl Tryz.underlying22 Tryz.underlying22 _ _ [] m 0 n n (Nat.zero_add _) rfl HMN.out w.heap.size 0 rfl rfl rfl (empty_row w) d (HS.out.kept HE.out (by simp)) hb0 [] w HE.out (Nat.le_refl _) ?_; intro g c4 w4 r1 r2 r3; have HR := Lib.hid (And.intro r1 (And.intro r2 r3)); clear r1 r2 r3)
  go_ret2
  have r := HR.out.1
  rw [List.nil_append] at r
  have hk : Kept [] w4 (w4.alloc (.cells #[.int .u16 (ch : Int), .slice (some ⟨g, 0, none⟩) n c4] 87)) := (Kept.refl [] w4).alloc _
  exact ⟨w4.heap.size, rfl, g, c4, Blk.new _ _ _, r.kept hk (by simp), HR.out.2.2, HR.out.2.1.trans hk (by simp)⟩

theorem writtenBody_any (ch d dt : Nat) (s : Value) (m : List UInt8) (n : Nat) (hmn : m.length = n) (w : World) (hch : ch ≤ 65535) (hd : w.cell? ⟨dt, 0, none⟩ = some s) (hs : Src w s d m) (hsl : ∃ ao c, s = .slice ao n c) (hml : n ≤ 1000000) :
    Calls Tryz.prog 33 #[.int .i64 (ch : Int), .func (.func 34) #[] #[.pointer (some ⟨dt, 0, none⟩)]] w fun e w' => ∃ v g, e = .returned (.tuple #[v, .bool true]) ∧ Row w' v g (frameB 3 ch m) ∧ w.heap.size ≤ g ∧ Kept [] w w' := by
  refine written_body ch dt w hch (frameB 3 ch m) fun w1 hk => ?_
  refine (mkBody_any dt ch d s m n hmn w1 (hk.cell hd (by simp)) (hs.kept hk (by simp)) hsl hml).mono fun e w' h => ?_
  obtain ⟨p, g, c, rfl, h1, h2, h3, h4⟩ := h
  refine ⟨p, rfl, h4, ?_⟩
  refine zz_body p w' (frameB 3 ch m) (by rw [frameB_length]; omega) fun w2 q hk2 hq hw => ?_
  obtain ⟨cur, hb⟩ := h2.blk
  have hgl := hb.lt
  have hsrc : Src w' (.slice (some ⟨g, 0, none⟩) n c) g m := by
    have := h2.src n (by omega) c
    rwa [List.take_of_length_le (by omega)] at this
  exact bodyWrite_any q p ch _ g m [] w2 hw (h1.kept hk2 (by simp)) (hsrc.kept hk2 (by simp)) ⟨_, c, by rw [hmn]⟩ (by omega) (by simp) (Nat.lt_of_lt_of_le hgl hk2.size) hch (by omega)

set_option maxHeartbeats 400000 in
theorem formatBody_any (ch d : Nat) (s : Value) (m : List UInt8) (n : Nat) (hmn : m.length = n) (w : World) (hch : ch ≤ 65535) (hs : Src w s d m) (hsl : ∃ ao c, s = .slice ao n c) (hml : n ≤ 1000000) :
    Calls Tryz.prog 14 #[.int .i64 (ch : Int), s] w fun e w' => ∃ v g, e = .returned (.tuple #[v, .bool true]) ∧ Row w' v g (frameB 3 ch m) ∧ w.heap.size ≤ g ∧ Kept [] w w' := by
  have hmf := mf_any
  have hk : Kept [] w (w.alloc (.cells #[s] 22)) := (Kept.refl [] w).alloc _
  have hc := writtenBody_any ch d w.heap.size s m n hmn _ hch (Blk.new w #[s] 22).cell0 (hs.kept hk (by simp)) hsl hml
  obtain ⟨ao, c, rfl⟩ := hsl
  have HC := Lib.hid hc; have HK := Lib.hid hk; clear hc hk hs hmn
  go_enter Tryz.func14, Tryz.ntmps14
  go_wp2_with (go_at_call 33; refine HC.out.mono ?_; rintro e w1 ⟨v, g, rfl, hR⟩; have HR := Lib.hid hR; clear hR)
  go_ret2
  exact ⟨v, g, rfl, HR.out.1, Nat.le_trans HK.out.size HR.out.2.1, HK.out.trans HR.out.2.2 (by simp)⟩

end Go.Proofs.YtkcdakohmfodjaaGreat
