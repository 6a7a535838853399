/-
  Lemmas on the way to the statement of YtkcdakohmfodjaaGreatHeader, joined out of these texts: Rfv. No condition.
-/
import Derived.Test.YtkcdakohmfodjaaGreatNHpW
namespace Go.Proofs.YtkcdakohmfodjaaGreat
open Go.RowKit
set_option linter.unusedVariables false
set_option linter.unusedSimpArgs false
set_option maxHeartbeats 1000000 in
set_option maxRecDepth 100000 in
theorem rfv_116 {w : World} {r : Value} {ps : List Nat} {d : Nat} {Ns : List Nat} (dep : Int) (pre rest : List UInt8) (hpre : pre.length = 1) (h : Rd w r ps d Ns (116 :: (pre ++ rest))) (hl : rest.length ≤ 900000000) (hav : 2 ≤ avail Ns (116 :: (pre ++ rest))) (hd : d < w.heap.size) :
    Calls Tryz.prog 165 #[r, .int .i64 dep] w fun e w' => e = .returned (.tuple #[.iface 4 (.bool (!decide ((Lib.beNat pre : Int) = 0))), .nilIface]) ∧ Rd w' r ps d (Ns.map (· - 2)) rest ∧ Kept ps w w' := by
  have hka : Kept [] w (w.alloc (.cells #[.int .u8 0] 5)) := (Kept.refl [] w).alloc _
  have hb0 : Blk (w.alloc (.cells #[.int .u8 0] 5)) w.heap.size #[.int .u8 0] 5 := Blk.new w _ _
  have hgp : ∀ b, w.heap.size ≤ b → b ∉ ps := fun b hb hm => by have := h.mem_lt _ hm; omega
  have hav1 : 1 ≤ avail (Ns.map (· - 1)) (pre ++ rest) := by
    have : avail (Ns.map (· - 1)) (pre ++ rest) = avail Ns (116 :: (pre ++ rest)) - 1 := avail_map Ns [116] (pre ++ rest)
    omega
  have hf := rfix_u8 [116] (pre ++ rest) rfl (h.kept hka (by simp) (by simp)) (by simp; omega) (by simp only [List.cons_append, List.nil_append]; omega) (Nat.lt_of_lt_of_le hd hka.size) w.heap.size 0 _ hb0.cell0 (hb0.free 0) (hgp _ (Nat.le_refl _)) (by omega)
  rw [show Lib.beNat [116] = 116 from rfl] at hf
  have HF := Lib.hid hf; have H := Lib.hid (And.intro hka (And.intro hb0 (And.intro hgp (And.intro hav1 (And.intro hl (And.intro hd hpre))))))
  clear hf hka hb0 hgp hav1 hl hav h hd hpre
  go_enter Tryz.func165, Tryz.ntmps165
  go_upto_region 4 with (go_at_call 77; refine HF.out.mono ?_; rintro e w2 ⟨rfl, w1, k1, r1, rfl⟩)
  obtain ⟨ka, b0, gp, av, hl, hd, hpre⟩ := H.out
  have hks : Kept [w.heap.size] w1 (w1.setCell ⟨w.heap.size, 0, none⟩ (.int .u8 116)) := (Kept.refl _ w1).setCell (by simp) _
  have hr2 := r1.kept hks (fun p hp e => gp w.heap.size (Nat.le_refl _) (by simp at e; rw [← e]; exact hp)) (by simp; omega)
  have hb2 : Blk (w1.setCell ⟨w.heap.size, 0, none⟩ (.int .u8 116)) w.heap.size #[.int .u8 116] 5 := (b0.kept k1 (gp w.heap.size (Nat.le_refl _))).setCell 0 _
  have hk2 : Kept ps w (w1.setCell ⟨w.heap.size, 0, none⟩ (.int .u8 116)) := ((ka.mono (by simp)).trans k1 (fun x hx => .inl hx)).trans hks (by simp)
  change Code.wp _ _ _ _ (w1.setCell ⟨w.heap.size, 0, none⟩ (.int .u8 116))
  generalize w1.setCell ⟨w.heap.size, 0, none⟩ (.int .u8 116) = w3 at hr2 hb2 hk2 ⊢
  have c0 := hb2.cell0
  have hkb : Kept [] w3 (w3.alloc (.cells #[.int .u8 0] 5)) := (Kept.refl [] w3).alloc _
  have hb3 : Blk (w3.alloc (.cells #[.int .u8 0] 5)) w3.heap.size #[.int .u8 0] 5 := Blk.new w3 _ _
  have hs3 := hk2.size
  have hg := rfix_u8 pre rest hpre (hr2.kept hkb (by simp) (by simp)) (by omega) av (Nat.lt_of_lt_of_le hd (Nat.le_trans hk2.size hkb.size)) w3.heap.size 0 _ hb3.cell0 (hb3.free 0) (gp _ hs3) (by omega)
  have HR := Lib.hid hg; have HK := Lib.hid (And.intro hk2 (And.intro hkb (And.intro hb3 (And.intro (gp _ hs3) (show w3.heap.size ≠ d by omega)))))
  clear hg hk2 hr2 hb2 hks r1 k1 ka b0 gp av hl hd hpre hkb hb3 hs3
  go_wp2_with (go_at_call 77; refine HR.out.mono ?_; rintro e w2 ⟨rfl, w4, k4, r4, rfl⟩; have hks : Kept [w3.heap.size] w4 (w4.setCell ⟨w3.heap.size, 0, none⟩ (.int .u8 (Lib.beNat pre : Nat))) := (Kept.refl _ w4).setCell (by simp) _; have hb5 : Blk (w4.setCell ⟨w3.heap.size, 0, none⟩ (.int .u8 (Lib.beNat pre : Nat))) w3.heap.size #[.int .u8 (Lib.beNat pre : Nat)] 5 := (HK.out.2.2.1.kept k4 HK.out.2.2.2.1).setCell 0 _; have c5 := hb5.cell0; have H5 := Lib.hid (And.intro (r4.kept hks (fun p hp e => HK.out.2.2.2.1 (by simp at e; rw [← e]; exact hp)) (by simpa using Ne.symm HK.out.2.2.2.2)) (((HK.out.1.trans (HK.out.2.1.mono (by simp)) (fun x hx => .inl hx)).trans k4 (fun x hx => .inl hx)).trans hks (fun x hx => by simp at hx; subst hx; exact .inr HK.out.1.size))); clear hks hb5 k4 r4)
  go_ret2
  refine ⟨rfl, ?_, H5.out.2⟩
  have := H5.out.1
  rwa [map_sub_sub] at this
set_option maxHeartbeats 1000000 in
set_option maxRecDepth 100000 in
theorem rfv_98 {w : World} {r : Value} {ps : List Nat} {d : Nat} {Ns : List Nat} (dep : Int) (pre rest : List UInt8) (hpre : pre.length = 1) (h : Rd w r ps d Ns (98 :: (pre ++ rest))) (hl : rest.length ≤ 900000000) (hav : 2 ≤ avail Ns (98 :: (pre ++ rest))) (hd : d < w.heap.size) :
    Calls Tryz.prog 165 #[r, .int .i64 dep] w fun e w' => e = .returned (.tuple #[.iface 188 (.int .i8 (IntKind.i8.wrap (Lib.beNat pre : Nat))), .nilIface]) ∧ Rd w' r ps d (Ns.map (· - 2)) rest ∧ Kept ps w w' := by
  have hka : Kept [] w (w.alloc (.cells #[.int .u8 0] 5)) := (Kept.refl [] w).alloc _
  have hb0 : Blk (w.alloc (.cells #[.int .u8 0] 5)) w.heap.size #[.int .u8 0] 5 := Blk.new w _ _
  have hgp : ∀ b, w.heap.size ≤ b → b ∉ ps := fun b hb hm => by have := h.mem_lt _ hm; omega
  have hav1 : 1 ≤ avail (Ns.map (· - 1)) (pre ++ rest) := by
    have : avail (Ns.map (· - 1)) (pre ++ rest) = avail Ns (98 :: (pre ++ rest)) - 1 := avail_map Ns [98] (pre ++ rest)
    omega
  have hf := rfix_u8 [98] (pre ++ rest) rfl (h.kept hka (by simp) (by simp)) (by simp; omega) (by simp only [List.cons_append, List.nil_append]; omega) (Nat.lt_of_lt_of_le hd hka.size) w.heap.size 0 _ hb0.cell0 (hb0.free 0) (hgp _ (Nat.le_refl _)) (by omega)
  rw [show Lib.beNat [98] = 98 from rfl] at hf
  have HF := Lib.hid hf; have H := Lib.hid (And.intro hka (And.intro hb0 (And.intro hgp (And.intro hav1 (And.intro hl (And.intro hd hpre))))))
  clear hf hka hb0 hgp hav1 hl hav h hd hpre
  go_enter Tryz.func165, Tryz.ntmps165
  go_upto_region 4 with (go_at_call 77; refine HF.out.mono ?_; rintro e w2 ⟨rfl, w1, k1, r1, rfl⟩)
  obtain ⟨ka, b0, gp, av, hl, hd, hpre⟩ := H.out
  have hks : Kept [w.heap.size] w1 (w1.setCell ⟨w.heap.size, 0, none⟩ (.int .u8 98)) := (Kept.refl _ w1).setCell (by simp) _
  have hr2 := r1.kept hks (fun p hp e => gp w.heap.size (Nat.le_refl _) (by simp at e; rw [← e]; exact hp)) (by simp; omega)
  have hb2 : Blk (w1.setCell ⟨w.heap.size, 0, none⟩ (.int .u8 98)) w.heap.size #[.int .u8 98] 5 := (b0.kept k1 (gp w.heap.size (Nat.le_refl _))).setCell 0 _
  have hk2 : Kept ps w (w1.setCell ⟨w.heap.size, 0, none⟩ (.int .u8 98)) := ((ka.mono (by simp)).trans k1 (fun x hx => .inl hx)).trans hks (by simp)
  change Code.wp _ _ _ _ (w1.setCell ⟨w.heap.size, 0, none⟩ (.int .u8 98))
  generalize w1.setCell ⟨w.heap.size, 0, none⟩ (.int .u8 98) = w3 at hr2 hb2 hk2 ⊢
  have c0 := hb2.cell0
  have hkb : Kept [] w3 (w3.alloc (.cells #[.int .i8 0] 188)) := (Kept.refl [] w3).alloc _
  have hb3 : Blk (w3.alloc (.cells #[.int .i8 0] 188)) w3.heap.size #[.int .i8 0] 188 := Blk.new w3 _ _
  have hs3 := hk2.size
  have hg := rfix_i8 pre rest hpre (hr2.kept hkb (by simp) (by simp)) (by omega) av (Nat.lt_of_lt_of_le hd (Nat.le_trans hk2.size hkb.size)) w3.heap.size 0 _ hb3.cell0 (hb3.free 0) (gp _ hs3) (by omega)
  have HR := Lib.hid hg; have HK := Lib.hid (And.intro hk2 (And.intro hkb (And.intro hb3 (And.intro (gp _ hs3) (show w3.heap.size ≠ d by omega)))))
  clear hg hk2 hr2 hb2 hks r1 k1 ka b0 gp av hl hd hpre hkb hb3 hs3
  go_wp2_with (go_at_call 77; refine HR.out.mono ?_; rintro e w2 ⟨rfl, w4, k4, r4, rfl⟩; have hks : Kept [w3.heap.size] w4 (w4.setCell ⟨w3.heap.size, 0, none⟩ (.int .i8 (IntKind.i8.wrap (Lib.beNat pre : Nat)))) := (Kept.refl _ w4).setCell (by simp) _; have hb5 : Blk (w4.setCell ⟨w3.heap.size, 0, none⟩ (.int .i8 (IntKind.i8.wrap (Lib.beNat pre : Nat)))) w3.heap.size #[.int .i8 (IntKind.i8.wrap (Lib.beNat pre : Nat))] 188 := (HK.out.2.2.1.kept k4 HK.out.2.2.2.1).setCell 0 _; have c5 := hb5.cell0; have H5 := Lib.hid (And.intro (r4.kept hks (fun p hp e => HK.out.2.2.2.1 (by simp at e; rw [← e]; exact hp)) (by simpa using Ne.symm HK.out.2.2.2.2)) (((HK.out.1.trans (HK.out.2.1.mono (by simp)) (fun x hx => .inl hx)).trans k4 (fun x hx => .inl hx)).trans hks (fun x hx => by simp at hx; subst hx; exact .inr HK.out.1.size))); clear hks hb5 k4 r4)
  go_ret2
  refine ⟨rfl, ?_, H5.out.2⟩
  have := H5.out.1
  rwa [map_sub_sub] at this
set_option maxHeartbeats 1000000 in
set_option maxRecDepth 100000 in
theorem rfv_115 {w : World} {r : Value} {ps : List Nat} {d : Nat} {Ns : List Nat} (dep : Int) (pre rest : List UInt8) (hpre : pre.length = 2) (h : Rd w r ps d Ns (115 :: (pre ++ rest))) (hl : rest.length ≤ 900000000) (hav : 3 ≤ avail Ns (115 :: (pre ++ rest))) (hd : d < w.heap.size) :
    Calls Tryz.prog 165 #[r, .int .i64 dep] w fun e w' => e = .returned (.tuple #[.iface 189 (.int .i16 (IntKind.i16.wrap (Lib.beNat pre : Nat))), .nilIface]) ∧ Rd w' r ps d (Ns.map (· - 3)) rest ∧ Kept ps w w' := by
  have hka : Kept [] w (w.alloc (.cells #[.int .u8 0] 5)) := (Kept.refl [] w).alloc _
  have hb0 : Blk (w.alloc (.cells #[.int .u8 0] 5)) w.heap.size #[.int .u8 0] 5 := Blk.new w _ _
  have hgp : ∀ b, w.heap.size ≤ b → b ∉ ps := fun b hb hm => by have := h.mem_lt _ hm; omega
  have hav1 : 2 ≤ avail (Ns.map (· - 1)) (pre ++ rest) := by
    have : avail (Ns.map (· - 1)) (pre ++ rest) = avail Ns (115 :: (pre ++ rest)) - 1 := avail_map Ns [115] (pre ++ rest)
    omega
  have hf := rfix_u8 [115] (pre ++ rest) rfl (h.kept hka (by simp) (by simp)) (by simp; omega) (by simp only [List.cons_append, List.nil_append]; omega) (Nat.lt_of_lt_of_le hd hka.size) w.heap.size 0 _ hb0.cell0 (hb0.free 0) (hgp _ (Nat.le_refl _)) (by omega)
  rw [show Lib.beNat [115] = 115 from rfl] at hf
  have HF := Lib.hid hf; have H := Lib.hid (And.intro hka (And.intro hb0 (And.intro hgp (And.intro hav1 (And.intro hl (And.intro hd hpre))))))
  clear hf hka hb0 hgp hav1 hl hav h hd hpre
  go_enter Tryz.func165, Tryz.ntmps165
  go_upto_region 4 with (go_at_call 77; refine HF.out.mono ?_; rintro e w2 ⟨rfl, w1, k1, r1, rfl⟩)
  obtain ⟨ka, b0, gp, av, hl, hd, hpre⟩ := H.out
  have hks : Kept [w.heap.size] w1 (w1.setCell ⟨w.heap.size, 0, none⟩ (.int .u8 115)) := (Kept.refl _ w1).setCell (by simp) _
  have hr2 := r1.kept hks (fun p hp e => gp w.heap.size (Nat.le_refl _) (by simp at e; rw [← e]; exact hp)) (by simp; omega)
  have hb2 : Blk (w1.setCell ⟨w.heap.size, 0, none⟩ (.int .u8 115)) w.heap.size #[.int .u8 115] 5 := (b0.kept k1 (gp w.heap.size (Nat.le_refl _))).setCell 0 _
  have hk2 : Kept ps w (w1.setCell ⟨w.heap.size, 0, none⟩ (.int .u8 115)) := ((ka.mono (by simp)).trans k1 (fun x hx => .inl hx)).trans hks (by simp)
  change Code.wp _ _ _ _ (w1.setCell ⟨w.heap.size, 0, none⟩ (.int .u8 115))
  generalize w1.setCell ⟨w.heap.size, 0, none⟩ (.int .u8 115) = w3 at hr2 hb2 hk2 ⊢
  have c0 := hb2.cell0
  have hkb : Kept [] w3 (w3.alloc (.cells #[.int .i16 0] 189)) := (Kept.refl [] w3).alloc _
  have hb3 : Blk (w3.alloc (.cells #[.int .i16 0] 189)) w3.heap.size #[.int .i16 0] 189 := Blk.new w3 _ _
  have hs3 := hk2.size
  have hg := rfix_i16 pre rest hpre (hr2.kept hkb (by simp) (by simp)) (by omega) av (Nat.lt_of_lt_of_le hd (Nat.le_trans hk2.size hkb.size)) w3.heap.size 0 _ hb3.cell0 (hb3.free 0) (gp _ hs3) (by omega)
  have HR := Lib.hid hg; have HK := Lib.hid (And.intro hk2 (And.intro hkb (And.intro hb3 (And.intro (gp _ hs3) (show w3.heap.size ≠ d by omega)))))
  clear hg hk2 hr2 hb2 hks r1 k1 ka b0 gp av hl hd hpre hkb hb3 hs3
  go_wp2_with (go_at_call 77; refine HR.out.mono ?_; rintro e w2 ⟨rfl, w4, k4, r4, rfl⟩; have hks : Kept [w3.heap.size] w4 (w4.setCell ⟨w3.heap.size, 0, none⟩ (.int .i16 (IntKind.i16.wrap (Lib.beNat pre : Nat)))) := (Kept.refl _ w4).setCell (by simp) _; have hb5 : Blk (w4.setCell ⟨w3.heap.size, 0, none⟩ (.int .i16 (IntKind.i16.wrap (Lib.beNat pre : Nat)))) w3.heap.size #[.int .i16 (IntKind.i16.wrap (Lib.beNat pre : Nat))] 189 := (HK.out.2.2.1.kept k4 HK.out.2.2.2.1).setCell 0 _; have c5 := hb5.cell0; have H5 := Lib.hid (And.intro (r4.kept hks (fun p hp e => HK.out.2.2.2.1 (by simp at e; rw [← e]; exact hp)) (by simpa using Ne.symm HK.out.2.2.2.2)) (((HK.out.1.trans (HK.out.2.1.mono (by simp)) (fun x hx => .inl hx)).trans k4 (fun x hx => .inl hx)).trans hks (fun x hx => by simp at hx; subst hx; exact .inr HK.out.1.size))); clear hks hb5 k4 r4)
  go_ret2
  refine ⟨rfl, ?_, H5.out.2⟩
  have := H5.out.1
  rwa [map_sub_sub] at this
set_option maxHeartbeats 1000000 in
set_option maxRecDepth 100000 in
theorem rfv_73 {w : World} {r : Value} {ps : List Nat} {d : Nat} {Ns : List Nat} (dep : Int) (pre rest : List UInt8) (hpre : pre.length = 4) (h : Rd w r ps d Ns (73 :: (pre ++ rest))) (hl : rest.length ≤ 900000000) (hav : 5 ≤ avail Ns (73 :: (pre ++ rest))) (hd : d < w.heap.size) :
    Calls Tryz.prog 165 #[r, .int .i64 dep] w fun e w' => e = .returned (.tuple #[.iface 21 (.int .i32 (wrap32 (Lib.beNat pre : Nat))), .nilIface]) ∧ Rd w' r ps d (Ns.map (· - 5)) rest ∧ Kept ps w w' := by
  have hka : Kept [] w (w.alloc (.cells #[.int .u8 0] 5)) := (Kept.refl [] w).alloc _
  have hb0 : Blk (w.alloc (.cells #[.int .u8 0] 5)) w.heap.size #[.int .u8 0] 5 := Blk.new w _ _
  have hgp : ∀ b, w.heap.size ≤ b → b ∉ ps := fun b hb hm => by have := h.mem_lt _ hm; omega
  have hav1 : 4 ≤ avail (Ns.map (· - 1)) (pre ++ rest) := by
    have : avail (Ns.map (· - 1)) (pre ++ rest) = avail Ns (73 :: (pre ++ rest)) - 1 := avail_map Ns [73] (pre ++ rest)
    omega
  have hf := rfix_u8 [73] (pre ++ rest) rfl (h.kept hka (by simp) (by simp)) (by simp; omega) (by simp only [List.cons_append, List.nil_append]; omega) (Nat.lt_of_lt_of_le hd hka.size) w.heap.size 0 _ hb0.cell0 (hb0.free 0) (hgp _ (Nat.le_refl _)) (by omega)
  rw [show Lib.beNat [73] = 73 from rfl] at hf
  have HF := Lib.hid hf; have H := Lib.hid (And.intro hka (And.intro hb0 (And.intro hgp (And.intro hav1 (And.intro hl (And.intro hd hpre))))))
  clear hf hka hb0 hgp hav1 hl hav h hd hpre
  go_enter Tryz.func165, Tryz.ntmps165
  go_upto_region 4 with (go_at_call 77; refine HF.out.mono ?_; rintro e w2 ⟨rfl, w1, k1, r1, rfl⟩)
  obtain ⟨ka, b0, gp, av, hl, hd, hpre⟩ := H.out
  have hks : Kept [w.heap.size] w1 (w1.setCell ⟨w.heap.size, 0, none⟩ (.int .u8 73)) := (Kept.refl _ w1).setCell (by simp) _
  have hr2 := r1.kept hks (fun p hp e => gp w.heap.size (Nat.le_refl _) (by simp at e; rw [← e]; exact hp)) (by simp; omega)
  have hb2 : Blk (w1.setCell ⟨w.heap.size, 0, none⟩ (.int .u8 73)) w.heap.size #[.int .u8 73] 5 := (b0.kept k1 (gp w.heap.size (Nat.le_refl _))).setCell 0 _
  have hk2 : Kept ps w (w1.setCell ⟨w.heap.size, 0, none⟩ (.int .u8 73)) := ((ka.mono (by simp)).trans k1 (fun x hx => .inl hx)).trans hks (by simp)
  change Code.wp _ _ _ _ (w1.setCell ⟨w.heap.size, 0, none⟩ (.int .u8 73))
  generalize w1.setCell ⟨w.heap.size, 0, none⟩ (.int .u8 73) = w3 at hr2 hb2 hk2 ⊢
  have c0 := hb2.cell0
  have hkb : Kept [] w3 (w3.alloc (.cells #[.int .i32 0] 21)) := (Kept.refl [] w3).alloc _
  have hb3 : Blk (w3.alloc (.cells #[.int .i32 0] 21)) w3.heap.size #[.int .i32 0] 21 := Blk.new w3 _ _
  have hs3 := hk2.size
  have hg := rfix_i32 pre rest hpre (hr2.kept hkb (by simp) (by simp)) (by omega) av (Nat.lt_of_lt_of_le hd (Nat.le_trans hk2.size hkb.size)) w3.heap.size 0 _ hb3.cell0 (hb3.free 0) (gp _ hs3) (by omega)
  rw [i32_same] at hg
  have HR := Lib.hid hg; have HK := Lib.hid (And.intro hk2 (And.intro hkb (And.intro hb3 (And.intro (gp _ hs3) (show w3.heap.size ≠ d by omega)))))
  clear hg hk2 hr2 hb2 hks r1 k1 ka b0 gp av hl hd hpre hkb hb3 hs3
  go_wp2_with (go_at_call 77; refine HR.out.mono ?_; rintro e w2 ⟨rfl, w4, k4, r4, rfl⟩; have hks : Kept [w3.heap.size] w4 (w4.setCell ⟨w3.heap.size, 0, none⟩ (.int .i32 (wrap32 (Lib.beNat pre : Nat)))) := (Kept.refl _ w4).setCell (by simp) _; have hb5 : Blk (w4.setCell ⟨w3.heap.size, 0, none⟩ (.int .i32 (wrap32 (Lib.beNat pre : Nat)))) w3.heap.size #[.int .i32 (wrap32 (Lib.beNat pre : Nat))] 21 := (HK.out.2.2.1.kept k4 HK.out.2.2.2.1).setCell 0 _; have c5 := hb5.cell0; have H5 := Lib.hid (And.intro (r4.kept hks (fun p hp e => HK.out.2.2.2.1 (by simp at e; rw [← e]; exact hp)) (by simpa using Ne.symm HK.out.2.2.2.2)) (((HK.out.1.trans (HK.out.2.1.mono (by simp)) (fun x hx => .inl hx)).trans k4 (fun x hx => .inl hx)).trans hks (fun x hx => by simp at hx; subst hx; exact .inr HK.out.1.size))); clear hks hb5 k4 r4)
  go_ret2
  refine ⟨rfl, ?_, H5.out.2⟩
  have := H5.out.1
  rwa [map_sub_sub] at this
set_option maxHeartbeats 1000000 in
set_option maxRecDepth 100000 in
theorem rfv_108 {w : World} {r : Value} {ps : List Nat} {d : Nat} {Ns : List Nat} (dep : Int) (pre rest : List UInt8) (hpre : pre.length = 8) (h : Rd w r ps d Ns (108 :: (pre ++ rest))) (hl : rest.length ≤ 900000000) (hav : 9 ≤ avail Ns (108 :: (pre ++ rest))) (hd : d < w.heap.size) :
    Calls Tryz.prog 165 #[r, .int .i64 dep] w fun e w' => e = .returned (.tuple #[.iface 2 (.int .i64 (wrap64 (Lib.beNat pre : Nat))), .nilIface]) ∧ Rd w' r ps d (Ns.map (· - 9)) rest ∧ Kept ps w w' := by
  have hka : Kept [] w (w.alloc (.cells #[.int .u8 0] 5)) := (Kept.refl [] w).alloc _
  have hb0 : Blk (w.alloc (.cells #[.int .u8 0] 5)) w.heap.size #[.int .u8 0] 5 := Blk.new w _ _
  have hgp : ∀ b, w.heap.size ≤ b → b ∉ ps := fun b hb hm => by have := h.mem_lt _ hm; omega
  have hav1 : 8 ≤ avail (Ns.map (· - 1)) (pre ++ rest) := by
    have : avail (Ns.map (· - 1)) (pre ++ rest) = avail Ns (108 :: (pre ++ rest)) - 1 := avail_map Ns [108] (pre ++ rest)
    omega
  have hf := rfix_u8 [108] (pre ++ rest) rfl (h.kept hka (by simp) (by simp)) (by simp; omega) (by simp only [List.cons_append, List.nil_append]; omega) (Nat.lt_of_lt_of_le hd hka.size) w.heap.size 0 _ hb0.cell0 (hb0.free 0) (hgp _ (Nat.le_refl _)) (by omega)
  rw [show Lib.beNat [108] = 108 from rfl] at hf
  have HF := Lib.hid hf; have H := Lib.hid (And.intro hka (And.intro hb0 (And.intro hgp (And.intro hav1 (And.intro hl (And.intro hd hpre))))))
  clear hf hka hb0 hgp hav1 hl hav h hd hpre
  go_enter Tryz.func165, Tryz.ntmps165
  go_upto_region 4 with (go_at_call 77; refine HF.out.mono ?_; rintro e w2 ⟨rfl, w1, k1, r1, rfl⟩)
  obtain ⟨ka, b0, gp, av, hl, hd, hpre⟩ := H.out
  have hks : Kept [w.heap.size] w1 (w1.setCell ⟨w.heap.size, 0, none⟩ (.int .u8 108)) := (Kept.refl _ w1).setCell (by simp) _
  have hr2 := r1.kept hks (fun p hp e => gp w.heap.size (Nat.le_refl _) (by simp at e; rw [← e]; exact hp)) (by simp; omega)
  have hb2 : Blk (w1.setCell ⟨w.heap.size, 0, none⟩ (.int .u8 108)) w.heap.size #[.int .u8 108] 5 := (b0.kept k1 (gp w.heap.size (Nat.le_refl _))).setCell 0 _
  have hk2 : Kept ps w (w1.setCell ⟨w.heap.size, 0, none⟩ (.int .u8 108)) := ((ka.mono (by simp)).trans k1 (fun x hx => .inl hx)).trans hks (by simp)
  change Code.wp _ _ _ _ (w1.setCell ⟨w.heap.size, 0, none⟩ (.int .u8 108))
  generalize w1.setCell ⟨w.heap.size, 0, none⟩ (.int .u8 108) = w3 at hr2 hb2 hk2 ⊢
  have c0 := hb2.cell0
  have hkb : Kept [] w3 (w3.alloc (.cells #[.int .i64 0] 2)) := (Kept.refl [] w3).alloc _
  have hb3 : Blk (w3.alloc (.cells #[.int .i64 0] 2)) w3.heap.size #[.int .i64 0] 2 := Blk.new w3 _ _
  have hs3 := hk2.size
  have hg := rfix_i64 pre rest hpre (hr2.kept hkb (by simp) (by simp)) (by omega) av (Nat.lt_of_lt_of_le hd (Nat.le_trans hk2.size hkb.size)) w3.heap.size 0 _ hb3.cell0 (hb3.free 0) (gp _ hs3) (by omega)
  rw [i64_same] at hg
  have HR := Lib.hid hg; have HK := Lib.hid (And.intro hk2 (And.intro hkb (And.intro hb3 (And.intro (gp _ hs3) (show w3.heap.size ≠ d by omega)))))
  clear hg hk2 hr2 hb2 hks r1 k1 ka b0 gp av hl hd hpre hkb hb3 hs3
  go_wp2_with (go_at_call 77; refine HR.out.mono ?_; rintro e w2 ⟨rfl, w4, k4, r4, rfl⟩; have hks : Kept [w3.heap.size] w4 (w4.setCell ⟨w3.heap.size, 0, none⟩ (.int .i64 (wrap64 (Lib.beNat pre : Nat)))) := (Kept.refl _ w4).setCell (by simp) _; have hb5 : Blk (w4.setCell ⟨w3.heap.size, 0, none⟩ (.int .i64 (wrap64 (Lib.beNat pre : Nat)))) w3.heap.size #[.int .i64 (wrap64 (Lib.beNat pre : Nat))] 2 := (HK.out.2.2.1.kept k4 HK.out.2.2.2.1).setCell 0 _; have c5 := hb5.cell0; have H5 := Lib.hid (And.intro (r4.kept hks (fun p hp e => HK.out.2.2.2.1 (by simp at e; rw [← e]; exact hp)) (by simpa using Ne.symm HK.out.2.2.2.2)) (((HK.out.1.trans (HK.out.2.1.mono (by simp)) (fun x hx => .inl hx)).trans k4 (fun x hx => .inl hx)).trans hks (fun x hx => by simp at hx; subst hx; exact .inr HK.out.1.size))); clear hks hb5 k4 r4)
  go_ret2
  refine ⟨rfl, ?_, H5.out.2⟩
  have := H5.out.1
  rwa [map_sub_sub] at this
set_option maxHeartbeats 1000000 in
set_option maxRecDepth 100000 in
theorem rfv_102 {w : World} {r : Value} {ps : List Nat} {d : Nat} {Ns : List Nat} (dep : Int) (pre rest : List UInt8) (hpre : pre.length = 4) (h : Rd w r ps d Ns (102 :: (pre ++ rest))) (hl : rest.length ≤ 900000000) (hav : 5 ≤ avail Ns (102 :: (pre ++ rest))) (hd : d < w.heap.size) :
    Calls Tryz.prog 165 #[r, .int .i64 dep] w fun e w' => e = .returned (.tuple #[.iface 178 (.float .f32 (Lib.beNat pre)), .nilIface]) ∧ Rd w' r ps d (Ns.map (· - 5)) rest ∧ Kept ps w w' := by
  have hka : Kept [] w (w.alloc (.cells #[.int .u8 0] 5)) := (Kept.refl [] w).alloc _
  have hb0 : Blk (w.alloc (.cells #[.int .u8 0] 5)) w.heap.size #[.int .u8 0] 5 := Blk.new w _ _
  have hgp : ∀ b, w.heap.size ≤ b → b ∉ ps := fun b hb hm => by have := h.mem_lt _ hm; omega
  have hav1 : 4 ≤ avail (Ns.map (· - 1)) (pre ++ rest) := by
    have : avail (Ns.map (· - 1)) (pre ++ rest) = avail Ns (102 :: (pre ++ rest)) - 1 := avail_map Ns [102] (pre ++ rest)
    omega
  have hf := rfix_u8 [102] (pre ++ rest) rfl (h.kept hka (by simp) (by simp)) (by simp; omega) (by simp only [List.cons_append, List.nil_append]; omega) (Nat.lt_of_lt_of_le hd hka.size) w.heap.size 0 _ hb0.cell0 (hb0.free 0) (hgp _ (Nat.le_refl _)) (by omega)
  rw [show Lib.beNat [102] = 102 from rfl] at hf
  have HF := Lib.hid hf; have H := Lib.hid (And.intro hka (And.intro hb0 (And.intro hgp (And.intro hav1 (And.intro hl (And.intro hd hpre))))))
  clear hf hka hb0 hgp hav1 hl hav h hd hpre
  go_enter Tryz.func165, Tryz.ntmps165
  go_upto_region 4 with (go_at_call 77; refine HF.out.mono ?_; rintro e w2 ⟨rfl, w1, k1, r1, rfl⟩)
  obtain ⟨ka, b0, gp, av, hl, hd, hpre⟩ := H.out
  have hks : Kept [w.heap.size] w1 (w1.setCell ⟨w.heap.size, 0, none⟩ (.int .u8 102)) := (Kept.refl _ w1).setCell (by simp) _
  have hr2 := r1.kept hks (fun p hp e => gp w.heap.size (Nat.le_refl _) (by simp at e; rw [← e]; exact hp)) (by simp; omega)
  have hb2 : Blk (w1.setCell ⟨w.heap.size, 0, none⟩ (.int .u8 102)) w.heap.size #[.int .u8 102] 5 := (b0.kept k1 (gp w.heap.size (Nat.le_refl _))).setCell 0 _
  have hk2 : Kept ps w (w1.setCell ⟨w.heap.size, 0, none⟩ (.int .u8 102)) := ((ka.mono (by simp)).trans k1 (fun x hx => .inl hx)).trans hks (by simp)
  change Code.wp _ _ _ _ (w1.setCell ⟨w.heap.size, 0, none⟩ (.int .u8 102))
  generalize w1.setCell ⟨w.heap.size, 0, none⟩ (.int .u8 102) = w3 at hr2 hb2 hk2 ⊢
  have c0 := hb2.cell0
  have hkb : Kept [] w3 (w3.alloc (.cells #[.float .f32 0] 178)) := (Kept.refl [] w3).alloc _
  have hb3 : Blk (w3.alloc (.cells #[.float .f32 0] 178)) w3.heap.size #[.float .f32 0] 178 := Blk.new w3 _ _
  have hs3 := hk2.size
  have hg := rfix_f32 pre rest hpre (hr2.kept hkb (by simp) (by simp)) (by omega) av (Nat.lt_of_lt_of_le hd (Nat.le_trans hk2.size hkb.size)) w3.heap.size 0 _ hb3.cell0 (hb3.free 0) (gp _ hs3) (by omega)
  have HR := Lib.hid hg; have HK := Lib.hid (And.intro hk2 (And.intro hkb (And.intro hb3 (And.intro (gp _ hs3) (show w3.heap.size ≠ d by omega)))))
  clear hg hk2 hr2 hb2 hks r1 k1 ka b0 gp av hl hd hpre hkb hb3 hs3
  go_wp2_with (go_at_call 77; refine HR.out.mono ?_; rintro e w2 ⟨rfl, w4, k4, r4, rfl⟩; have hks : Kept [w3.heap.size] w4 (w4.setCell ⟨w3.heap.size, 0, none⟩ (.float .f32 (Lib.beNat pre))) := (Kept.refl _ w4).setCell (by simp) _; have hb5 : Blk (w4.setCell ⟨w3.heap.size, 0, none⟩ (.float .f32 (Lib.beNat pre))) w3.heap.size #[.float .f32 (Lib.beNat pre)] 178 := (HK.out.2.2.1.kept k4 HK.out.2.2.2.1).setCell 0 _; have c5 := hb5.cell0; have H5 := Lib.hid (And.intro (r4.kept hks (fun p hp e => HK.out.2.2.2.1 (by simp at e; rw [← e]; exact hp)) (by simpa using Ne.symm HK.out.2.2.2.2)) (((HK.out.1.trans (HK.out.2.1.mono (by simp)) (fun x hx => .inl hx)).trans k4 (fun x hx => .inl hx)).trans hks (fun x hx => by simp at hx; subst hx; exact .inr HK.out.1.size))); clear hks hb5 k4 r4)
  go_ret2
  refine ⟨rfl, ?_, H5.out.2⟩
  have := H5.out.1
  rwa [map_sub_sub] at this
set_option maxHeartbeats 1000000 in
set_option maxRecDepth 100000 in
theorem rfv_100 {w : World} {r : Value} {ps : List Nat} {d : Nat} {Ns : List Nat} (dep : Int) (pre rest : List UInt8) (hpre : pre.length = 8) (h : Rd w r ps d Ns (100 :: (pre ++ rest))) (hl : rest.length ≤ 900000000) (hav : 9 ≤ avail Ns (100 :: (pre ++ rest))) (hd : d < w.heap.size) :
    Calls Tryz.prog 165 #[r, .int .i64 dep] w fun e w' => e = .returned (.tuple #[.iface 138 (.float .f64 (Lib.beNat pre)), .nilIface]) ∧ Rd w' r ps d (Ns.map (· - 9)) rest ∧ Kept ps w w' := by
  have hka : Kept [] w (w.alloc (.cells #[.int .u8 0] 5)) := (Kept.refl [] w).alloc _
  have hb0 : Blk (w.alloc (.cells #[.int .u8 0] 5)) w.heap.size #[.int .u8 0] 5 := Blk.new w _ _
  have hgp : ∀ b, w.heap.size ≤ b → b ∉ ps := fun b hb hm => by have := h.mem_lt _ hm; omega
  have hav1 : 8 ≤ avail (Ns.map (· - 1)) (pre ++ rest) := by
    have : avail (Ns.map (· - 1)) (pre ++ rest) = avail Ns (100 :: (pre ++ rest)) - 1 := avail_map Ns [100] (pre ++ rest)
    omega
  have hf := rfix_u8 [100] (pre ++ rest) rfl (h.kept hka (by simp) (by simp)) (by simp; omega) (by simp only [List.cons_append, List.nil_append]; omega) (Nat.lt_of_lt_of_le hd hka.size) w.heap.size 0 _ hb0.cell0 (hb0.free 0) (hgp _ (Nat.le_refl _)) (by omega)
  rw [show Lib.beNat [100] = 100 from rfl] at hf
  have HF := Lib.hid hf; have H := Lib.hid (And.intro hka (And.intro hb0 (And.intro hgp (And.intro hav1 (And.intro hl (And.intro hd hpre))))))
  clear hf hka hb0 hgp hav1 hl hav h hd hpre
  go_enter Tryz.func165, Tryz.ntmps165
  go_upto_region 4 with (go_at_call 77; refine HF.out.mono ?_; rintro e w2 ⟨rfl, w1, k1, r1, rfl⟩)
  obtain ⟨ka, b0, gp, av, hl, hd, hpre⟩ := H.out
  have hks : Kept [w.heap.size] w1 (w1.setCell ⟨w.heap.size, 0, none⟩ (.int .u8 100)) := (Kept.refl _ w1).setCell (by simp) _
  have hr2 := r1.kept hks (fun p hp e => gp w.heap.size (Nat.le_refl _) (by simp at e; rw [← e]; exact hp)) (by simp; omega)
  have hb2 : Blk (w1.setCell ⟨w.heap.size, 0, none⟩ (.int .u8 100)) w.heap.size #[.int .u8 100] 5 := (b0.kept k1 (gp w.heap.size (Nat.le_refl _))).setCell 0 _
  have hk2 : Kept ps w (w1.setCell ⟨w.heap.size, 0, none⟩ (.int .u8 100)) := ((ka.mono (by simp)).trans k1 (fun x hx => .inl hx)).trans hks (by simp)
  change Code.wp _ _ _ _ (w1.setCell ⟨w.heap.size, 0, none⟩ (.int .u8 100))
  generalize w1.setCell ⟨w.heap.size, 0, none⟩ (.int .u8 100) = w3 at hr2 hb2 hk2 ⊢
  have c0 := hb2.cell0
  have hkb : Kept [] w3 (w3.alloc (.cells #[.float .f64 0] 138)) := (Kept.refl [] w3).alloc _
  have hb3 : Blk (w3.alloc (.cells #[.float .f64 0] 138)) w3.heap.size #[.float .f64 0] 138 := Blk.new w3 _ _
  have hs3 := hk2.size
  have hg := rfix_f64 pre rest hpre (hr2.kept hkb (by simp) (by simp)) (by omega) av (Nat.lt_of_lt_of_le hd (Nat.le_trans hk2.size hkb.size)) w3.heap.size 0 _ hb3.cell0 (hb3.free 0) (gp _ hs3) (by omega)
  have HR := Lib.hid hg; have HK := Lib.hid (And.intro hk2 (And.intro hkb (And.intro hb3 (And.intro (gp _ hs3) (show w3.heap.size ≠ d by omega)))))
  clear hg hk2 hr2 hb2 hks r1 k1 ka b0 gp av hl hd hpre hkb hb3 hs3
  go_wp2_with (go_at_call 77; refine HR.out.mono ?_; rintro e w2 ⟨rfl, w4, k4, r4, rfl⟩; have hks : Kept [w3.heap.size] w4 (w4.setCell ⟨w3.heap.size, 0, none⟩ (.float .f64 (Lib.beNat pre))) := (Kept.refl _ w4).setCell (by simp) _; have hb5 : Blk (w4.setCell ⟨w3.heap.size, 0, none⟩ (.float .f64 (Lib.beNat pre))) w3.heap.size #[.float .f64 (Lib.beNat pre)] 138 := (HK.out.2.2.1.kept k4 HK.out.2.2.2.1).setCell 0 _; have c5 := hb5.cell0; have H5 := Lib.hid (And.intro (r4.kept hks (fun p hp e => HK.out.2.2.2.1 (by simp at e; rw [← e]; exact hp)) (by simpa using Ne.symm HK.out.2.2.2.2)) (((HK.out.1.trans (HK.out.2.1.mono (by simp)) (fun x hx => .inl hx)).trans k4 (fun x hx => .inl hx)).trans hks (fun x hx => by simp at hx; subst hx; exact .inr HK.out.1.size))); clear hks hb5 k4 r4)
  go_ret2
  refine ⟨rfl, ?_, H5.out.2⟩
  have := H5.out.1
  rwa [map_sub_sub] at this
end Go.Proofs.YtkcdakohmfodjaaGreat
