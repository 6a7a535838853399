/-
  Lemmas on the way to the statement of YtkcdakohmfodjaaGreatMethodRead, joined out of these texts: Rfv, Pmeth, Form. No condition.
-/
import Derived.Lib.AtoiErrMem
import Derived.Lib.ConvBytes
import Derived.Test.YtkcdakohmfodjaaGreatMAF
import Derived.Test.YtkcdakohmfodjaaGreatMAM
import Derived.Test.YtkcdakohmfodjaaGreatNIter
import Derived.Test.YtkcdakohmfodjaaGreatNKnown
namespace Go.Proofs.YtkcdakohmfodjaaGreat
open Go.RowKit
set_option linter.unusedVariables false
set_option linter.unusedSimpArgs false
set_option maxHeartbeats 1000000 in
set_option maxRecDepth 100000 in
theorem rfv_116 {w : World} {r : Value} {ps : List Nat} {d : Nat} {Ns : List Nat} (dep : Int) (pre rest : List UInt8) (hpre : pre.length = 1) (h : Rd w r ps d Ns (116 :: (pre ++ rest))) (hl : rest.length ≤ 900000000) (hav : 2 ≤ avail Ns (116 :: (pre ++ rest))) (hd : d < w.heap.size) :
    Calls Tryz.prog 165 #[r, .int .i64 dep] w fun e w' => e = .returned (.tuple #[.iface 4 (.bool (!decide ((Lib.beNat pre : Int) = 0))), .nilIface]) ∧ Rd w' r ps d (Ns.map (· - 2)) rest ∧ Kept ps w w' := by
  have hka : Kept [] w (w.alloc (.cells #[.int .u8 0] 5)) := (Kept.refl [] w).alloc _
  have hb0 : Blk (w.alloc (.cells #[.int .u8 0] 5)) w.heap.size #[.int .u8 0] 5 := Blk.new w _ _
  have hgp : ∀ b, w.heap.size ≤ b → b ∉ ps := fun b hb hm => by have := h.mem_lt _ hm; omega
  have hav1 : 1 ≤ avail (Ns.map (· - 1)) (pre ++ rest) := by
    have : avail (Ns.map (· - 1)) (pre ++ rest) = avail Ns (116 :: (pre ++ rest)) - 1 := avail_map Ns [116] (pre ++ rest)
    omega
  have hf := rfix_u8 [116] (pre ++ rest) rfl (h.kept hka (by simp) (by simp)) (by simp; omega) (by simp only [List.cons_append, List.nil_append]; omega) (Nat.lt_of_lt_of_le hd hka.size) w.heap.size 0 _ hb0.cell0 (hb0.free 0) (hgp _ (Nat.le_refl _)) (by omega)
  rw [show Lib.beNat [116] = 116 from rfl] at hf
  have HF := Lib.hid hf; have H := Lib.hid (And.intro hka (And.intro hb0 (And.intro hgp (And.intro hav1 (And.intro hl (And.intro hd hpre))))))
  clear hf hka hb0 hgp hav1 hl hav h hd hpre
  go_enter Tryz.func165, Tryz.ntmps165
  go_upto_region 4 with (go_at_call 77; refine HF.out.mono ?_; rintro e w2 ⟨rfl, w1, k1, r1, rfl⟩)
  obtain ⟨ka, b0, gp, av, hl, hd, hpre⟩ := H.out
  have hks : Kept [w.heap.size] w1 (w1.setCell ⟨w.heap.size, 0, none⟩ (.int .u8 116)) := (Kept.refl _ w1).setCell (by simp) _
  have hr2 := r1.kept hks (fun p hp e => gp w.heap.size (Nat.le_refl _) (by simp at e; rw [← e]; exact hp)) (by simp; omega)
  have hb2 : Blk (w1.setCell ⟨w.heap.size, 0, none⟩ (.int .u8 116)) w.heap.size #[.int .u8 116] 5 := (b0.kept k1 (gp w.heap.size (Nat.le_refl _))).setCell 0 _
  have hk2 : Kept ps w (w1.setCell ⟨w.heap.size, 0, none⟩ (.int .u8 116)) := ((ka.mono (by simp)).trans k1 (fun x hx => .inl hx)).trans hks (by simp)
  change Code.wp _ _ _ _ (w1.setCell ⟨w.heap.size, 0, none⟩ (.int .u8 116))
  generalize w1.setCell ⟨w.heap.size, 0, none⟩ (.int .u8 116) = w3 at hr2 hb2 hk2 ⊢
  have c0 := hb2.cell0
  have hkb : Kept [] w3 (w3.alloc (.cells #[.int .u8 0] 5)) := (Kept.refl [] w3).alloc _
  have hb3 : Blk (w3.alloc (.cells #[.int .u8 0] 5)) w3.heap.size #[.int .u8 0] 5 := Blk.new w3 _ _
  have hs3 := hk2.size
  have hg := rfix_u8 pre rest hpre (hr2.kept hkb (by simp) (by simp)) (by omega) av (Nat.lt_of_lt_of_le hd (Nat.le_trans hk2.size hkb.size)) w3.heap.size 0 _ hb3.cell0 (hb3.free 0) (gp _ hs3) (by omega)
  have HR := Lib.hid hg; have HK := Lib.hid (And.intro hk2 (And.intro hkb (And.intro hb3 (And.intro (gp _ hs3) (show w3.heap.size ≠ d by omega)))))
  clear hg hk2 hr2 hb2 hks r1 k1 ka b0 gp av hl hd hpre hkb hb3 hs3
  go_wp2_with (go_at_call 77; refine HR.out.mono ?_; rintro e w2 ⟨rfl, w4, k4, r4, rfl⟩; have hks : Kept [w3.heap.size] w4 (w4.setCell ⟨w3.heap.size, 0, none⟩ (.int .u8 (Lib.beNat pre : Nat))) := (Kept.refl _ w4).setCell (by simp) _; have hb5 : Blk (w4.setCell ⟨w3.heap.size, 0, none⟩ (.int .u8 (Lib.beNat pre : Nat))) w3.heap.size #[.int .u8 (Lib.beNat pre : Nat)] 5 := (HK.out.2.2.1.kept k4 HK.out.2.2.2.1).setCell 0 _; have c5 := hb5.cell0; have H5 := Lib.hid (And.intro (r4.kept hks (fun p hp e => HK.out.2.2.2.1 (by simp at e; rw [← e]; exact hp)) (by simpa using Ne.symm HK.out.2.2.2.2)) (((HK.out.1.trans (HK.out.2.1.mono (by simp)) (fun x hx => .inl hx)).trans k4 (fun x hx => .inl hx)).trans hks (fun x hx => by simp at hx; subst hx; exact .inr HK.out.1.size))); clear hks hb5 k4 r4)
  go_ret2
  refine ⟨rfl, ?_, H5.out.2⟩
  have := H5.out.1
  rwa [map_sub_sub] at this
set_option maxHeartbeats 1000000 in
set_option maxRecDepth 100000 in
theorem rfv_98 {w : World} {r : Value} {ps : List Nat} {d : Nat} {Ns : List Nat} (dep : Int) (pre rest : List UInt8) (hpre : pre.length = 1) (h : Rd w r ps d Ns (98 :: (pre ++ rest))) (hl : rest.length ≤ 900000000) (hav : 2 ≤ avail Ns (98 :: (pre ++ rest))) (hd : d < w.heap.size) :
    Calls Tryz.prog 165 #[r, .int .i64 dep] w fun e w' => e = .returned (.tuple #[.iface 188 (.int .i8 (IntKind.i8.wrap (Lib.beNat pre : Nat))), .nilIface]) ∧ Rd w' r ps d (Ns.map (· - 2)) rest ∧ Kept ps w w' := by
  have hka : Kept [] w (w.alloc (.cells #[.int .u8 0] 5)) := (Kept.refl [] w).alloc _
  have hb0 : Blk (w.alloc (.cells #[.int .u8 0] 5)) w.heap.size #[.int .u8 0] 5 := Blk.new w _ _
  have hgp : ∀ b, w.heap.size ≤ b → b ∉ ps := fun b hb hm => by have := h.mem_lt _ hm; omega
  have hav1 : 1 ≤ avail (Ns.map (· - 1)) (pre ++ rest) := by
    have : avail (Ns.map (· - 1)) (pre ++ rest) = avail Ns (98 :: (pre ++ rest)) - 1 := avail_map Ns [98] (pre ++ rest)
    omega
  have hf := rfix_u8 [98] (pre ++ rest) rfl (h.kept hka (by simp) (by simp)) (by simp; omega) (by simp only [List.cons_append, List.nil_append]; omega) (Nat.lt_of_lt_of_le hd hka.size) w.heap.size 0 _ hb0.cell0 (hb0.free 0) (hgp _ (Nat.le_refl _)) (by omega)
  rw [show Lib.beNat [98] = 98 from rfl] at hf
  have HF := Lib.hid hf; have H := Lib.hid (And.intro hka (And.intro hb0 (And.intro hgp (And.intro hav1 (And.intro hl (And.intro hd hpre))))))
  clear hf hka hb0 hgp hav1 hl hav h hd hpre
  go_enter Tryz.func165, Tryz.ntmps165
  go_upto_region 4 with (go_at_call 77; refine HF.out.mono ?_; rintro e w2 ⟨rfl, w1, k1, r1, rfl⟩)
  obtain ⟨ka, b0, gp, av, hl, hd, hpre⟩ := H.out
  have hks : Kept [w.heap.size] w1 (w1.setCell ⟨w.heap.size, 0, none⟩ (.int .u8 98)) := (Kept.refl _ w1).setCell (by simp) _
  have hr2 := r1.kept hks (fun p hp e => gp w.heap.size (Nat.le_refl _) (by simp at e; rw [← e]; exact hp)) (by simp; omega)
  have hb2 : Blk (w1.setCell ⟨w.heap.size, 0, none⟩ (.int .u8 98)) w.heap.size #[.int .u8 98] 5 := (b0.kept k1 (gp w.heap.size (Nat.le_refl _))).setCell 0 _
  have hk2 : Kept ps w (w1.setCell ⟨w.heap.size, 0, none⟩ (.int .u8 98)) := ((ka.mono (by simp)).trans k1 (fun x hx => .inl hx)).trans hks (by simp)
  change Code.wp _ _ _ _ (w1.setCell ⟨w.heap.size, 0, none⟩ (.int .u8 98))
  generalize w1.setCell ⟨w.heap.size, 0, none⟩ (.int .u8 98) = w3 at hr2 hb2 hk2 ⊢
  have c0 := hb2.cell0
  have hkb : Kept [] w3 (w3.alloc (.cells #[.int .i8 0] 188)) := (Kept.refl [] w3).alloc _
  have hb3 : Blk (w3.alloc (.cells #[.int .i8 0] 188)) w3.heap.size #[.int .i8 0] 188 := Blk.new w3 _ _
  have hs3 := hk2.size
  have hg := rfix_i8 pre rest hpre (hr2.kept hkb (by simp) (by simp)) (by omega) av (Nat.lt_of_lt_of_le hd (Nat.le_trans hk2.size hkb.size)) w3.heap.size 0 _ hb3.cell0 (hb3.free 0) (gp _ hs3) (by omega)
  have HR := Lib.hid hg; have HK := Lib.hid (And.intro hk2 (And.intro hkb (And.intro hb3 (And.intro (gp _ hs3) (show w3.heap.size ≠ d by omega)))))
  clear hg hk2 hr2 hb2 hks r1 k1 ka b0 gp av hl hd hpre hkb hb3 hs3
  go_wp2_with (go_at_call 77; refine HR.out.mono ?_; rintro e w2 ⟨rfl, w4, k4, r4, rfl⟩; have hks : Kept [w3.heap.size] w4 (w4.setCell ⟨w3.heap.size, 0, none⟩ (.int .i8 (IntKind.i8.wrap (Lib.beNat pre : Nat)))) := (Kept.refl _ w4).setCell (by simp) _; have hb5 : Blk (w4.setCell ⟨w3.heap.size, 0, none⟩ (.int .i8 (IntKind.i8.wrap (Lib.beNat pre : Nat)))) w3.heap.size #[.int .i8 (IntKind.i8.wrap (Lib.beNat pre : Nat))] 188 := (HK.out.2.2.1.kept k4 HK.out.2.2.2.1).setCell 0 _; have c5 := hb5.cell0; have H5 := Lib.hid (And.intro (r4.kept hks (fun p hp e => HK.out.2.2.2.1 (by simp at e; rw [← e]; exact hp)) (by simpa using Ne.symm HK.out.2.2.2.2)) (((HK.out.1.trans (HK.out.2.1.mono (by simp)) (fun x hx => .inl hx)).trans k4 (fun x hx => .inl hx)).trans hks (fun x hx => by simp at hx; subst hx; exact .inr HK.out.1.size))); clear hks hb5 k4 r4)
  go_ret2
  refine ⟨rfl, ?_, H5.out.2⟩
  have := H5.out.1
  rwa [map_sub_sub] at this
set_option maxHeartbeats 1000000 in
set_option maxRecDepth 100000 in
theorem rfv_115 {w : World} {r : Value} {ps : List Nat} {d : Nat} {Ns : List Nat} (dep : Int) (pre rest : List UInt8) (hpre : pre.length = 2) (h : Rd w r ps d Ns (115 :: (pre ++ rest))) (hl : rest.length ≤ 900000000) (hav : 3 ≤ avail Ns (115 :: (pre ++ rest))) (hd : d < w.heap.size) :
    Calls Tryz.prog 165 #[r, .int .i64 dep] w fun e w' => e = .returned (.tuple #[.iface 189 (.int .i16 (IntKind.i16.wrap (Lib.beNat pre : Nat))), .nilIface]) ∧ Rd w' r ps d (Ns.map (· - 3)) rest ∧ Kept ps w w' := by
  have hka : Kept [] w (w.alloc (.cells #[.int .u8 0] 5)) := (Kept.refl [] w).alloc _
  have hb0 : Blk (w.alloc (.cells #[.int .u8 0] 5)) w.heap.size #[.int .u8 0] 5 := Blk.new w _ _
  have hgp : ∀ b, w.heap.size ≤ b → b ∉ ps := fun b hb hm => by have := h.mem_lt _ hm; omega
  have hav1 : 2 ≤ avail (Ns.map (· - 1)) (pre ++ rest) := by
    have : avail (Ns.map (· - 1)) (pre ++ rest) = avail Ns (115 :: (pre ++ rest)) - 1 := avail_map Ns [115] (pre ++ rest)
    omega
  have hf := rfix_u8 [115] (pre ++ rest) rfl (h.kept hka (by simp) (by simp)) (by simp; omega) (by simp only [List.cons_append, List.nil_append]; omega) (Nat.lt_of_lt_of_le hd hka.size) w.heap.size 0 _ hb0.cell0 (hb0.free 0) (hgp _ (Nat.le_refl _)) (by omega)
  rw [show Lib.beNat [115] = 115 from rfl] at hf
  have HF := Lib.hid hf; have H := Lib.hid (And.intro hka (And.intro hb0 (And.intro hgp (And.intro hav1 (And.intro hl (And.intro hd hpre))))))
  clear hf hka hb0 hgp hav1 hl hav h hd hpre
  go_enter Tryz.func165, Tryz.ntmps165
  go_upto_region 4 with (go_at_call 77; refine HF.out.mono ?_; rintro e w2 ⟨rfl, w1, k1, r1, rfl⟩)
  obtain ⟨ka, b0, gp, av, hl, hd, hpre⟩ := H.out
  have hks : Kept [w.heap.size] w1 (w1.setCell ⟨w.heap.size, 0, none⟩ (.int .u8 115)) := (Kept.refl _ w1).setCell (by simp) _
  have hr2 := r1.kept hks (fun p hp e => gp w.heap.size (Nat.le_refl _) (by simp at e; rw [← e]; exact hp)) (by simp; omega)
  have hb2 : Blk (w1.setCell ⟨w.heap.size, 0, none⟩ (.int .u8 115)) w.heap.size #[.int .u8 115] 5 := (b0.kept k1 (gp w.heap.size (Nat.le_refl _))).setCell 0 _
  have hk2 : Kept ps w (w1.setCell ⟨w.heap.size, 0, none⟩ (.int .u8 115)) := ((ka.mono (by simp)).trans k1 (fun x hx => .inl hx)).trans hks (by simp)
  change Code.wp _ _ _ _ (w1.setCell ⟨w.heap.size, 0, none⟩ (.int .u8 115))
  generalize w1.setCell ⟨w.heap.size, 0, none⟩ (.int .u8 115) = w3 at hr2 hb2 hk2 ⊢
  have c0 := hb2.cell0
  have hkb : Kept [] w3 (w3.alloc (.cells #[.int .i16 0] 189)) := (Kept.refl [] w3).alloc _
  have hb3 : Blk (w3.alloc (.cells #[.int .i16 0] 189)) w3.heap.size #[.int .i16 0] 189 := Blk.new w3 _ _
  have hs3 := hk2.size
  have hg := rfix_i16 pre rest hpre (hr2.kept hkb (by simp) (by simp)) (by omega) av (Nat.lt_of_lt_of_le hd (Nat.le_trans hk2.size hkb.size)) w3.heap.size 0 _ hb3.cell0 (hb3.free 0) (gp _ hs3) (by omega)
  have HR := Lib.hid hg; have HK := Lib.hid (And.intro hk2 (And.intro hkb (And.intro hb3 (And.intro (gp _ hs3) (show w3.heap.size ≠ d by omega)))))
  clear hg hk2 hr2 hb2 hks r1 k1 ka b0 gp av hl hd hpre hkb hb3 hs3
  go_wp2_with (go_at_call 77; refine HR.out.mono ?_; rintro e w2 ⟨rfl, w4, k4, r4, rfl⟩; have hks : Kept [w3.heap.size] w4 (w4.setCell ⟨w3.heap.size, 0, none⟩ (.int .i16 (IntKind.i16.wrap (Lib.beNat pre : Nat)))) := (Kept.refl _ w4).setCell (by simp) _; have hb5 : Blk (w4.setCell ⟨w3.heap.size, 0, none⟩ (.int .i16 (IntKind.i16.wrap (Lib.beNat pre : Nat)))) w3.heap.size #[.int .i16 (IntKind.i16.wrap (Lib.beNat pre : Nat))] 189 := (HK.out.2.2.1.kept k4 HK.out.2.2.2.1).setCell 0 _; have c5 := hb5.cell0; have H5 := Lib.hid (And.intro (r4.kept hks (fun p hp e => HK.out.2.2.2.1 (by simp at e; rw [← e]; exact hp)) (by simpa using Ne.symm HK.out.2.2.2.2)) (((HK.out.1.trans (HK.out.2.1.mono (by simp)) (fun x hx => .inl hx)).trans k4 (fun x hx => .inl hx)).trans hks (fun x hx => by simp at hx; subst hx; exact .inr HK.out.1.size))); clear hks hb5 k4 r4)
  go_ret2
  refine ⟨rfl, ?_, H5.out.2⟩
  have := H5.out.1
  rwa [map_sub_sub] at this
set_option maxHeartbeats 1000000 in
set_option maxRecDepth 100000 in
theorem rfv_73 {w : World} {r : Value} {ps : List Nat} {d : Nat} {Ns : List Nat} (dep : Int) (pre rest : List UInt8) (hpre : pre.length = 4) (h : Rd w r ps d Ns (73 :: (pre ++ rest))) (hl : rest.length ≤ 900000000) (hav : 5 ≤ avail Ns (73 :: (pre ++ rest))) (hd : d < w.heap.size) :
    Calls Tryz.prog 165 #[r, .int .i64 dep] w fun e w' => e = .returned (.tuple #[.iface 21 (.int .i32 (wrap32 (Lib.beNat pre : Nat))), .nilIface]) ∧ Rd w' r ps d (Ns.map (· - 5)) rest ∧ Kept ps w w' := by
  have hka : Kept [] w (w.alloc (.cells #[.int .u8 0] 5)) := (Kept.refl [] w).alloc _
  have hb0 : Blk (w.alloc (.cells #[.int .u8 0] 5)) w.heap.size #[.int .u8 0] 5 := Blk.new w _ _
  have hgp : ∀ b, w.heap.size ≤ b → b ∉ ps := fun b hb hm => by have := h.mem_lt _ hm; omega
  have hav1 : 4 ≤ avail (Ns.map (· - 1)) (pre ++ rest) := by
    have : avail (Ns.map (· - 1)) (pre ++ rest) = avail Ns (73 :: (pre ++ rest)) - 1 := avail_map Ns [73] (pre ++ rest)
    omega
  have hf := rfix_u8 [73] (pre ++ rest) rfl (h.kept hka (by simp) (by simp)) (by simp; omega) (by simp only [List.cons_append, List.nil_append]; omega) (Nat.lt_of_lt_of_le hd hka.size) w.heap.size 0 _ hb0.cell0 (hb0.free 0) (hgp _ (Nat.le_refl _)) (by omega)
  rw [show Lib.beNat [73] = 73 from rfl] at hf
  have HF := Lib.hid hf; have H := Lib.hid (And.intro hka (And.intro hb0 (And.intro hgp (And.intro hav1 (And.intro hl (And.intro hd hpre))))))
  clear hf hka hb0 hgp hav1 hl hav h hd hpre
  go_enter Tryz.func165, Tryz.ntmps165
  go_upto_region 4 with (go_at_call 77; refine HF.out.mono ?_; rintro e w2 ⟨rfl, w1, k1, r1, rfl⟩)
  obtain ⟨ka, b0, gp, av, hl, hd, hpre⟩ := H.out
  have hks : Kept [w.heap.size] w1 (w1.setCell ⟨w.heap.size, 0, none⟩ (.int .u8 73)) := (Kept.refl _ w1).setCell (by simp) _
  have hr2 := r1.kept hks (fun p hp e => gp w.heap.size (Nat.le_refl _) (by simp at e; rw [← e]; exact hp)) (by simp; omega)
  have hb2 : Blk (w1.setCell ⟨w.heap.size, 0, none⟩ (.int .u8 73)) w.heap.size #[.int .u8 73] 5 := (b0.kept k1 (gp w.heap.size (Nat.le_refl _))).setCell 0 _
  have hk2 : Kept ps w (w1.setCell ⟨w.heap.size, 0, none⟩ (.int .u8 73)) := ((ka.mono (by simp)).trans k1 (fun x hx => .inl hx)).trans hks (by simp)
  change Code.wp _ _ _ _ (w1.setCell ⟨w.heap.size, 0, none⟩ (.int .u8 73))
  generalize w1.setCell ⟨w.heap.size, 0, none⟩ (.int .u8 73) = w3 at hr2 hb2 hk2 ⊢
  have c0 := hb2.cell0
  have hkb : Kept [] w3 (w3.alloc (.cells #[.int .i32 0] 21)) := (Kept.refl [] w3).alloc _
  have hb3 : Blk (w3.alloc (.cells #[.int .i32 0] 21)) w3.heap.size #[.int .i32 0] 21 := Blk.new w3 _ _
  have hs3 := hk2.size
  have hg := rfix_i32 pre rest hpre (hr2.kept hkb (by simp) (by simp)) (by omega) av (Nat.lt_of_lt_of_le hd (Nat.le_trans hk2.size hkb.size)) w3.heap.size 0 _ hb3.cell0 (hb3.free 0) (gp _ hs3) (by omega)
  rw [i32_same] at hg
  have HR := Lib.hid hg; have HK := Lib.hid (And.intro hk2 (And.intro hkb (And.intro hb3 (And.intro (gp _ hs3) (show w3.heap.size ≠ d by omega)))))
  clear hg hk2 hr2 hb2 hks r1 k1 ka b0 gp av hl hd hpre hkb hb3 hs3
  go_wp2_with (go_at_call 77; refine HR.out.mono ?_; rintro e w2 ⟨rfl, w4, k4, r4, rfl⟩; have hks : Kept [w3.heap.size] w4 (w4.setCell ⟨w3.heap.size, 0, none⟩ (.int .i32 (wrap32 (Lib.beNat pre : Nat)))) := (Kept.refl _ w4).setCell (by simp) _; have hb5 : Blk (w4.setCell ⟨w3.heap.size, 0, none⟩ (.int .i32 (wrap32 (Lib.beNat pre : Nat)))) w3.heap.size #[.int .i32 (wrap32 (Lib.beNat pre : Nat))] 21 := (HK.out.2.2.1.kept k4 HK.out.2.2.2.1).setCell 0 _; have c5 := hb5.cell0; have H5 := Lib.hid (And.intro (r4.kept hks (fun p hp e => HK.out.2.2.2.1 (by simp at e; rw [← e]; exact hp)) (by simpa using Ne.symm HK.out.2.2.2.2)) (((HK.out.1.trans (HK.out.2.1.mono (by simp)) (fun x hx => .inl hx)).trans k4 (fun x hx => .inl hx)).trans hks (fun x hx => by simp at hx; subst hx; exact .inr HK.out.1.size))); clear hks hb5 k4 r4)
  go_ret2
  refine ⟨rfl, ?_, H5.out.2⟩
  have := H5.out.1
  rwa [map_sub_sub] at this
set_option maxHeartbeats 1000000 in
set_option maxRecDepth 100000 in
theorem rfv_108 {w : World} {r : Value} {ps : List Nat} {d : Nat} {Ns : List Nat} (dep : Int) (pre rest : List UInt8) (hpre : pre.length = 8) (h : Rd w r ps d Ns (108 :: (pre ++ rest))) (hl : rest.length ≤ 900000000) (hav : 9 ≤ avail Ns (108 :: (pre ++ rest))) (hd : d < w.heap.size) :
    Calls Tryz.prog 165 #[r, .int .i64 dep] w fun e w' => e = .returned (.tuple #[.iface 2 (.int .i64 (wrap64 (Lib.beNat pre : Nat))), .nilIface]) ∧ Rd w' r ps d (Ns.map (· - 9)) rest ∧ Kept ps w w' := by
  have hka : Kept [] w (w.alloc (.cells #[.int .u8 0] 5)) := (Kept.refl [] w).alloc _
  have hb0 : Blk (w.alloc (.cells #[.int .u8 0] 5)) w.heap.size #[.int .u8 0] 5 := Blk.new w _ _
  have hgp : ∀ b, w.heap.size ≤ b → b ∉ ps := fun b hb hm => by have := h.mem_lt _ hm; omega
  have hav1 : 8 ≤ avail (Ns.map (· - 1)) (pre ++ rest) := by
    have : avail (Ns.map (· - 1)) (pre ++ rest) = avail Ns (108 :: (pre ++ rest)) - 1 := avail_map Ns [108] (pre ++ rest)
    omega
  have hf := rfix_u8 [108] (pre ++ rest) rfl (h.kept hka (by simp) (by simp)) (by simp; omega) (by simp only [List.cons_append, List.nil_append]; omega) (Nat.lt_of_lt_of_le hd hka.size) w.heap.size 0 _ hb0.cell0 (hb0.free 0) (hgp _ (Nat.le_refl _)) (by omega)
  rw [show Lib.beNat [108] = 108 from rfl] at hf
  have HF := Lib.hid hf; have H := Lib.hid (And.intro hka (And.intro hb0 (And.intro hgp (And.intro hav1 (And.intro hl (And.intro hd hpre))))))
  clear hf hka hb0 hgp hav1 hl hav h hd hpre
  go_enter Tryz.func165, Tryz.ntmps165
  go_upto_region 4 with (go_at_call 77; refine HF.out.mono ?_; rintro e w2 ⟨rfl, w1, k1, r1, rfl⟩)
  obtain ⟨ka, b0, gp, av, hl, hd, hpre⟩ := H.out
  have hks : Kept [w.heap.size] w1 (w1.setCell ⟨w.heap.size, 0, none⟩ (.int .u8 108)) := (Kept.refl _ w1).setCell (by simp) _
  have hr2 := r1.kept hks (fun p hp e => gp w.heap.size (Nat.le_refl _) (by simp at e; rw [← e]; exact hp)) (by simp; omega)
  have hb2 : Blk (w1.setCell ⟨w.heap.size, 0, none⟩ (.int .u8 108)) w.heap.size #[.int .u8 108] 5 := (b0.kept k1 (gp w.heap.size (Nat.le_refl _))).setCell 0 _
  have hk2 : Kept ps w (w1.setCell ⟨w.heap.size, 0, none⟩ (.int .u8 108)) := ((ka.mono (by simp)).trans k1 (fun x hx => .inl hx)).trans hks (by simp)
  change Code.wp _ _ _ _ (w1.setCell ⟨w.heap.size, 0, none⟩ (.int .u8 108))
  generalize w1.setCell ⟨w.heap.size, 0, none⟩ (.int .u8 108) = w3 at hr2 hb2 hk2 ⊢
  have c0 := hb2.cell0
  have hkb : Kept [] w3 (w3.alloc (.cells #[.int .i64 0] 2)) := (Kept.refl [] w3).alloc _
  have hb3 : Blk (w3.alloc (.cells #[.int .i64 0] 2)) w3.heap.size #[.int .i64 0] 2 := Blk.new w3 _ _
  have hs3 := hk2.size
  have hg := rfix_i64 pre rest hpre (hr2.kept hkb (by simp) (by simp)) (by omega) av (Nat.lt_of_lt_of_le hd (Nat.le_trans hk2.size hkb.size)) w3.heap.size 0 _ hb3.cell0 (hb3.free 0) (gp _ hs3) (by omega)
  rw [i64_same] at hg
  have HR := Lib.hid hg; have HK := Lib.hid (And.intro hk2 (And.intro hkb (And.intro hb3 (And.intro (gp _ hs3) (show w3.heap.size ≠ d by omega)))))
  clear hg hk2 hr2 hb2 hks r1 k1 ka b0 gp av hl hd hpre hkb hb3 hs3
  go_wp2_with (go_at_call 77; refine HR.out.mono ?_; rintro e w2 ⟨rfl, w4, k4, r4, rfl⟩; have hks : Kept [w3.heap.size] w4 (w4.setCell ⟨w3.heap.size, 0, none⟩ (.int .i64 (wrap64 (Lib.beNat pre : Nat)))) := (Kept.refl _ w4).setCell (by simp) _; have hb5 : Blk (w4.setCell ⟨w3.heap.size, 0, none⟩ (.int .i64 (wrap64 (Lib.beNat pre : Nat)))) w3.heap.size #[.int .i64 (wrap64 (Lib.beNat pre : Nat))] 2 := (HK.out.2.2.1.kept k4 HK.out.2.2.2.1).setCell 0 _; have c5 := hb5.cell0; have H5 := Lib.hid (And.intro (r4.kept hks (fun p hp e => HK.out.2.2.2.1 (by simp at e; rw [← e]; exact hp)) (by simpa using Ne.symm HK.out.2.2.2.2)) (((HK.out.1.trans (HK.out.2.1.mono (by simp)) (fun x hx => .inl hx)).trans k4 (fun x hx => .inl hx)).trans hks (fun x hx => by simp at hx; subst hx; exact .inr HK.out.1.size))); clear hks hb5 k4 r4)
  go_ret2
  refine ⟨rfl, ?_, H5.out.2⟩
  have := H5.out.1
  rwa [map_sub_sub] at this
set_option maxHeartbeats 1000000 in
set_option maxRecDepth 100000 in
theorem rfv_102 {w : World} {r : Value} {ps : List Nat} {d : Nat} {Ns : List Nat} (dep : Int) (pre rest : List UInt8) (hpre : pre.length = 4) (h : Rd w r ps d Ns (102 :: (pre ++ rest))) (hl : rest.length ≤ 900000000) (hav : 5 ≤ avail Ns (102 :: (pre ++ rest))) (hd : d < w.heap.size) :
    Calls Tryz.prog 165 #[r, .int .i64 dep] w fun e w' => e = .returned (.tuple #[.iface 178 (.float .f32 (Lib.beNat pre)), .nilIface]) ∧ Rd w' r ps d (Ns.map (· - 5)) rest ∧ Kept ps w w' := by
  have hka : Kept [] w (w.alloc (.cells #[.int .u8 0] 5)) := (Kept.refl [] w).alloc _
  have hb0 : Blk (w.alloc (.cells #[.int .u8 0] 5)) w.heap.size #[.int .u8 0] 5 := Blk.new w _ _
  have hgp : ∀ b, w.heap.size ≤ b → b ∉ ps := fun b hb hm => by have := h.mem_lt _ hm; omega
  have hav1 : 4 ≤ avail (Ns.map (· - 1)) (pre ++ rest) := by
    have : avail (Ns.map (· - 1)) (pre ++ rest) = avail Ns (102 :: (pre ++ rest)) - 1 := avail_map Ns [102] (pre ++ rest)
    omega
  have hf := rfix_u8 [102] (pre ++ rest) rfl (h.kept hka (by simp) (by simp)) (by simp; omega) (by simp only [List.cons_append, List.nil_append]; omega) (Nat.lt_of_lt_of_le hd hka.size) w.heap.size 0 _ hb0.cell0 (hb0.free 0) (hgp _ (Nat.le_refl _)) (by omega)
  rw [show Lib.beNat [102] = 102 from rfl] at hf
  have HF := Lib.hid hf; have H := Lib.hid (And.intro hka (And.intro hb0 (And.intro hgp (And.intro hav1 (And.intro hl (And.intro hd hpre))))))
  clear hf hka hb0 hgp hav1 hl hav h hd hpre
  go_enter Tryz.func165, Tryz.ntmps165
  go_upto_region 4 with (go_at_call 77; refine HF.out.mono ?_; rintro e w2 ⟨rfl, w1, k1, r1, rfl⟩)
  obtain ⟨ka, b0, gp, av, hl, hd, hpre⟩ := H.out
  have hks : Kept [w.heap.size] w1 (w1.setCell ⟨w.heap.size, 0, none⟩ (.int .u8 102)) := (Kept.refl _ w1).setCell (by simp) _
  have hr2 := r1.kept hks (fun p hp e => gp w.heap.size (Nat.le_refl _) (by simp at e; rw [← e]; exact hp)) (by simp; omega)
  have hb2 : Blk (w1.setCell ⟨w.heap.size, 0, none⟩ (.int .u8 102)) w.heap.size #[.int .u8 102] 5 := (b0.kept k1 (gp w.heap.size (Nat.le_refl _))).setCell 0 _
  have hk2 : Kept ps w (w1.setCell ⟨w.heap.size, 0, none⟩ (.int .u8 102)) := ((ka.mono (by simp)).trans k1 (fun x hx => .inl hx)).trans hks (by simp)
  change Code.wp _ _ _ _ (w1.setCell ⟨w.heap.size, 0, none⟩ (.int .u8 102))
  generalize w1.setCell ⟨w.heap.size, 0, none⟩ (.int .u8 102) = w3 at hr2 hb2 hk2 ⊢
  have c0 := hb2.cell0
  have hkb : Kept [] w3 (w3.alloc (.cells #[.float .f32 0] 178)) := (Kept.refl [] w3).alloc _
  have hb3 : Blk (w3.alloc (.cells #[.float .f32 0] 178)) w3.heap.size #[.float .f32 0] 178 := Blk.new w3 _ _
  have hs3 := hk2.size
  have hg := rfix_f32 pre rest hpre (hr2.kept hkb (by simp) (by simp)) (by omega) av (Nat.lt_of_lt_of_le hd (Nat.le_trans hk2.size hkb.size)) w3.heap.size 0 _ hb3.cell0 (hb3.free 0) (gp _ hs3) (by omega)
  have HR := Lib.hid hg; have HK := Lib.hid (And.intro hk2 (And.intro hkb (And.intro hb3 (And.intro (gp _ hs3) (show w3.heap.size ≠ d by omega)))))
  clear hg hk2 hr2 hb2 hks r1 k1 ka b0 gp av hl hd hpre hkb hb3 hs3
  go_wp2_with (go_at_call 77; refine HR.out.mono ?_; rintro e w2 ⟨rfl, w4, k4, r4, rfl⟩; have hks : Kept [w3.heap.size] w4 (w4.setCell ⟨w3.heap.size, 0, none⟩ (.float .f32 (Lib.beNat pre))) := (Kept.refl _ w4).setCell (by simp) _; have hb5 : Blk (w4.setCell ⟨w3.heap.size, 0, none⟩ (.float .f32 (Lib.beNat pre))) w3.heap.size #[.float .f32 (Lib.beNat pre)] 178 := (HK.out.2.2.1.kept k4 HK.out.2.2.2.1).setCell 0 _; have c5 := hb5.cell0; have H5 := Lib.hid (And.intro (r4.kept hks (fun p hp e => HK.out.2.2.2.1 (by simp at e; rw [← e]; exact hp)) (by simpa using Ne.symm HK.out.2.2.2.2)) (((HK.out.1.trans (HK.out.2.1.mono (by simp)) (fun x hx => .inl hx)).trans k4 (fun x hx => .inl hx)).trans hks (fun x hx => by simp at hx; subst hx; exact .inr HK.out.1.size))); clear hks hb5 k4 r4)
  go_ret2
  refine ⟨rfl, ?_, H5.out.2⟩
  have := H5.out.1
  rwa [map_sub_sub] at this
set_option maxHeartbeats 1000000 in
set_option maxRecDepth 100000 in
theorem rfv_100 {w : World} {r : Value} {ps : List Nat} {d : Nat} {Ns : List Nat} (dep : Int) (pre rest : List UInt8) (hpre : pre.length = 8) (h : Rd w r ps d Ns (100 :: (pre ++ rest))) (hl : rest.length ≤ 900000000) (hav : 9 ≤ avail Ns (100 :: (pre ++ rest))) (hd : d < w.heap.size) :
    Calls Tryz.prog 165 #[r, .int .i64 dep] w fun e w' => e = .returned (.tuple #[.iface 138 (.float .f64 (Lib.beNat pre)), .nilIface]) ∧ Rd w' r ps d (Ns.map (· - 9)) rest ∧ Kept ps w w' := by
  have hka : Kept [] w (w.alloc (.cells #[.int .u8 0] 5)) := (Kept.refl [] w).alloc _
  have hb0 : Blk (w.alloc (.cells #[.int .u8 0] 5)) w.heap.size #[.int .u8 0] 5 := Blk.new w _ _
  have hgp : ∀ b, w.heap.size ≤ b → b ∉ ps := fun b hb hm => by have := h.mem_lt _ hm; omega
  have hav1 : 8 ≤ avail (Ns.map (· - 1)) (pre ++ rest) := by
    have : avail (Ns.map (· - 1)) (pre ++ rest) = avail Ns (100 :: (pre ++ rest)) - 1 := avail_map Ns [100] (pre ++ rest)
    omega
  have hf := rfix_u8 [100] (pre ++ rest) rfl (h.kept hka (by simp) (by simp)) (by simp; omega) (by simp only [List.cons_append, List.nil_append]; omega) (Nat.lt_of_lt_of_le hd hka.size) w.heap.size 0 _ hb0.cell0 (hb0.free 0) (hgp _ (Nat.le_refl _)) (by omega)
  rw [show Lib.beNat [100] = 100 from rfl] at hf
  have HF := Lib.hid hf; have H := Lib.hid (And.intro hka (And.intro hb0 (And.intro hgp (And.intro hav1 (And.intro hl (And.intro hd hpre))))))
  clear hf hka hb0 hgp hav1 hl hav h hd hpre
  go_enter Tryz.func165, Tryz.ntmps165
  go_upto_region 4 with (go_at_call 77; refine HF.out.mono ?_; rintro e w2 ⟨rfl, w1, k1, r1, rfl⟩)
  obtain ⟨ka, b0, gp, av, hl, hd, hpre⟩ := H.out
  have hks : Kept [w.heap.size] w1 (w1.setCell ⟨w.heap.size, 0, none⟩ (.int .u8 100)) := (Kept.refl _ w1).setCell (by simp) _
  have hr2 := r1.kept hks (fun p hp e => gp w.heap.size (Nat.le_refl _) (by simp at e; rw [← e]; exact hp)) (by simp; omega)
  have hb2 : Blk (w1.setCell ⟨w.heap.size, 0, none⟩ (.int .u8 100)) w.heap.size #[.int .u8 100] 5 := (b0.kept k1 (gp w.heap.size (Nat.le_refl _))).setCell 0 _
  have hk2 : Kept ps w (w1.setCell ⟨w.heap.size, 0, none⟩ (.int .u8 100)) := ((ka.mono (by simp)).trans k1 (fun x hx => .inl hx)).trans hks (by simp)
  change Code.wp _ _ _ _ (w1.setCell ⟨w.heap.size, 0, none⟩ (.int .u8 100))
  generalize w1.setCell ⟨w.heap.size, 0, none⟩ (.int .u8 100) = w3 at hr2 hb2 hk2 ⊢
  have c0 := hb2.cell0
  have hkb : Kept [] w3 (w3.alloc (.cells #[.float .f64 0] 138)) := (Kept.refl [] w3).alloc _
  have hb3 : Blk (w3.alloc (.cells #[.float .f64 0] 138)) w3.heap.size #[.float .f64 0] 138 := Blk.new w3 _ _
  have hs3 := hk2.size
  have hg := rfix_f64 pre rest hpre (hr2.kept hkb (by simp) (by simp)) (by omega) av (Nat.lt_of_lt_of_le hd (Nat.le_trans hk2.size hkb.size)) w3.heap.size 0 _ hb3.cell0 (hb3.free 0) (gp _ hs3) (by omega)
  have HR := Lib.hid hg; have HK := Lib.hid (And.intro hk2 (And.intro hkb (And.intro hb3 (And.intro (gp _ hs3) (show w3.heap.size ≠ d by omega)))))
  clear hg hk2 hr2 hb2 hks r1 k1 ka b0 gp av hl hd hpre hkb hb3 hs3
  go_wp2_with (go_at_call 77; refine HR.out.mono ?_; rintro e w2 ⟨rfl, w4, k4, r4, rfl⟩; have hks : Kept [w3.heap.size] w4 (w4.setCell ⟨w3.heap.size, 0, none⟩ (.float .f64 (Lib.beNat pre))) := (Kept.refl _ w4).setCell (by simp) _; have hb5 : Blk (w4.setCell ⟨w3.heap.size, 0, none⟩ (.float .f64 (Lib.beNat pre))) w3.heap.size #[.float .f64 (Lib.beNat pre)] 138 := (HK.out.2.2.1.kept k4 HK.out.2.2.2.1).setCell 0 _; have c5 := hb5.cell0; have H5 := Lib.hid (And.intro (r4.kept hks (fun p hp e => HK.out.2.2.2.1 (by simp at e; rw [← e]; exact hp)) (by simpa using Ne.symm HK.out.2.2.2.2)) (((HK.out.1.trans (HK.out.2.1.mono (by simp)) (fun x hx => .inl hx)).trans k4 (fun x hx => .inl hx)).trans hks (fun x hx => by simp at hx; subst hx; exact .inr HK.out.1.size))); clear hks hb5 k4 r4)
  go_ret2
  refine ⟨rfl, ?_, H5.out.2⟩
  have := H5.out.1
  rwa [map_sub_sub] at this
theorem letters_ok : ∀ e ∈ knownL, ∀ x ∈ e.2.2, x ∈ ([111, 115, 108, 113, 83, 76, 98, 116, 49, 50, 51, 52] : List UInt8) := by decide
theorem letters_len : ∀ e ∈ knownL, e.2.2.length ≤ 20 := by decide
theorem letters_mem {c m : Int} {l : List UInt8} (h : lettersOf c m = some l) : ∃ e ∈ knownL, e.2.2 = l ∧ (e.1 : Int) = c ∧ (e.2.1 : Int) = m := by
  unfold lettersOf at h
  cases hf : knownL.find? (fun e => decide ((e.1 : Int) = c) && decide ((e.2.1 : Int) = m)) with
  | none => rw [hf] at h; cases h
  | some e =>
    rw [hf] at h
    simp only [Option.map_some, Option.some.injEq] at h
    have := List.find?_some hf
    simp at this
    exact ⟨e, List.mem_of_find?_eq_some hf, h, this⟩
theorem parg_any (B : Nat → Prop) (x : UInt8) (hx : x ∈ ([111, 115, 108, 113, 83, 76, 98, 116, 49, 50, 51, 52] : List UInt8)) (h65 : ¬ x < 65) (a : MArg) (tv : Value) (w : World) (h : FSl B w tv a.tab) (hwf : WfA a) :
    Calls Tryz.prog 28 #[.int .u8 (x.toNat : Int), .agg #[.int .i64 a.kind, .int .u64 (a.n : Int), .string (bstr a.text), tv]] w fun e w' => e = .returned (.bool (properArgB x a)) ∧ Kept [] w w' := by
  simp only [List.mem_cons, List.mem_nil_iff, or_false] at hx
  rcases hx with rfl | rfl | rfl | rfl | rfl | rfl | rfl | rfl | rfl | rfl | rfl | rfl
  · exact parg_111 B a tv w h hwf
  · exact parg_115 B a tv w h hwf
  · exact parg_108 B a tv w h hwf
  · exact parg_113 B a tv w h hwf
  · exact parg_83 B a tv w h hwf
  · exact parg_76 B a tv w h hwf
  · exact parg_98 B a tv w h hwf
  · exact parg_116 B a tv w h hwf
  all_goals exact absurd (by decide) h65
theorem properGo_cons (c : UInt8) (cs : List UInt8) (args : List MArg) : properGo (c :: cs) args = if c < 65 then properGo cs args else match args with
    | [] => false
    | a :: ar => properArgB c a && properGo cs ar := by cases args <;> simp only [properGo]
theorem proper_drop (l : List UInt8) (args : List MArg) (k : Nat) (x : UInt8) (hk : l[k]? = some x) (nx : Nat) :
    properGo (l.drop k) (args.drop nx) = if x < 65 then properGo (l.drop (k + 1)) (args.drop nx) else match args[nx]? with
      | none => false
      | some a => properArgB x a && properGo (l.drop (k + 1)) (args.drop (nx + 1)) := by
  have h1 : l.drop k = x :: l.drop (k + 1) := by
    obtain ⟨h, e⟩ := List.getElem?_eq_some_iff.1 hk
    rw [List.drop_eq_getElem_cons h, e]
  rw [h1, properGo_cons]
  by_cases h : x < 65
  · rw [if_pos h, if_pos h]
  · rw [if_neg h, if_neg h]
    cases ha : args[nx]? with
    | none => rw [List.drop_eq_nil_of_le (by simpa using ha)]
    | some a =>
      obtain ⟨h2, e⟩ := List.getElem?_eq_some_iff.1 ha
      rw [List.drop_eq_getElem_cons h2, e]
section
variable {P : Program} {ops : Array Oper} {rest : List Oper} {o : Oper} {a : Act} {w : World} {Q : Exit → Act → World → Prop}
theorem wpList_load_cells_g (hgd : Region.wanted o (yielded ops a.tmps) = true) (ty : TypeId) (x : Operand) (ho : o.op = .load ty x)
    (ad : Addr) (hx : a.eval x = .pointer (some ad)) (cs : List Value) (hc : ∀ j u, cs[j]? = some u → w.cell? (ad.add j) = some u) (d : TypeDesc)
    (hu : P.underlying ty = some d) (hd : (match d with | .struct _ | .array _ _ => true | _ => false) = true) (hi : (P.info? ty).map (·.size) = some cs.length)
    (h : wpList P ops Q rest (a.put o.dst (.agg cs.toArray)) w) : wpList P ops Q (o :: rest) a w := by
  refine wpList_step fun K hK => ?_
  rw [if_pos hgd]
  have hr := run_loadAt_cells (P := P) w ad ty cs d hc hu hd hi
  unfold Oper.wp execOp
  simp only [ho, hx, Sem.run_bind, Sem.run_pure, hr, Result.andThen_ok, Oper.upon_skip]
  exact hK _ _ h
theorem size_sArg : (Tryz.prog.info? 77).map (·.size) = some 4 := by kernel_rfl
/-- The bytes of a text lie in a row. -/
def LB (w : World) (g : Nat) (l : List UInt8) : Prop := ∀ j x, l[j]? = some x → w.cell? ⟨g, j, none⟩ = some (.int .u8 (x.toNat : Int))
theorem LB.kept {S : List Nat} {w w' : World} {g : Nat} {l : List UInt8} (h : LB w g l) (hk : Kept S w w') (hg : g ∉ S) : LB w' g l := fun j x hj => hk.cell (h j x hj) hg
theorem wpList_conv_bytes (hgd : o.guard = none) (src dst e : TypeId) (x : Operand) (ho : o.op = .convert src dst x) {u : TypeDesc} (hs : P.underlying src = some u) (hd : P.underlying dst = some (.slice e)) (he : P.underlying e = some (.int .u8))
    (l : List UInt8) (hx : a.eval x = .string (bstr l))
    (h : ∀ (cap : Nat) (w' : World), LB w' w.heap.size l → w.heap.size < w'.heap.size → Kept [] w w' → wpList P ops Q rest (a.put o.dst (.slice (some ⟨w.heap.size, 0, none⟩) l.length cap)) w') : wpList P ops Q (o :: rest) a w := by
  refine wpList_plain hgd fun K hK => ?_
  have hr := Lib.run_convert_string_bytes (P := P) w src dst e (bstr l) hs hd he
  have hz : (bstr l).size = l.length := by simp [bstr, ByteArray.size]
  unfold Oper.wp execOp
  simp only [ho, hx, Sem.run_bind, Sem.run_pure, hr, Result.andThen_ok]
  refine hK _ _ ?_
  rw [hz]
  refine h _ _ (fun j x hj => ?_) ?_ (Below.kept (Lib.bytesWorld_below w e (bstr l)) [])
  · obtain ⟨hlt, hjx⟩ := List.getElem?_eq_some_iff.1 hj
    rw [Lib.bytesWorld_cell w e (bstr l) j (by rw [hz]; exact hlt)]
    simp [bstr, List.getD, hj]
  · rw [Lib.bytesWorld_size]; omega
end
set_option maxHeartbeats 4000000 in
set_option maxRecDepth 100000 in
theorem pmeth_any (B : Nat → Prop) (w : World) (c m : Int) (av : Value) (args : List MArg) (h : ASl B w av args) (hwf : ∀ a ∈ args, WfA a) (hl : args.length ≤ 2147483647) :
    Calls Tryz.prog 12 #[.agg #[.int .i64 c, .int .i64 m, av]] w fun e w' => e = .returned (.bool (properM c m args)) ∧ Kept [] w w' := by
  obtain ⟨aa, ac, rfl, hac, hget⟩ := h.mono (B' := fun b => B b ∧ b < w.heap.size) (fun b hb hl => ⟨hb, hl⟩)
  have H := Lib.hid (And.intro hget hwf)
  have hln : (args.length : Int) ≤ 2147483647 := by omega
  clear h hget hwf hl
  have hlet := letters_any c m
  unfold lettersB at hlet
  cases hq : lettersOf c m with
  | none =>
    rw [hq] at hlet
    simp only [Option.getD_none, Option.isSome_none] at hlet
    have HL := Lib.hid hlet; clear hlet
    go_enter Tryz.func12, Tryz.ntmps12
    go_wp2_with (go_at_call 27; have hq := HL.out (w.alloc (.cells #[.int .i64 c, .int .i64 m, .slice aa args.length ac] 42)); (with_reducible refine hq.mono ?_); clear hq; rintro e w1 ⟨rfl, hk⟩; have HK := Lib.hid hk; clear hk)
    go_ret
    exact ⟨by unfold properM; rw [hq]; rfl, ((Kept.refl [] w).alloc _).trans HK.out (by simp)⟩
  | some l =>
    rw [hq] at hlet
    simp only [Option.getD_some, Option.isSome_some] at hlet
    have HL := Lib.hid hlet; clear hlet
    obtain ⟨e0, he, rfl, _⟩ := letters_mem hq
    have hok := letters_ok e0 he
    have hll := letters_len e0 he
    generalize e0.2.2 = l at hq HL hok hll
    have hpm : properM c m args = properGo l args := by unfold properM; rw [hq]
    rw [hpm]
    clear he hq hpm
    have HO := Lib.hid (And.intro hok hll)
    have hll' : (l.length : Int) ≤ 20 := by omega
    clear hok hll
    go_enter Tryz.func12, Tryz.ntmps12
    go_wp2_with (first
      | (go_at_call 27; have hq := HL.out (w.alloc (.cells #[.int .i64 c, .int .i64 m, .slice aa args.length ac] 42)); (with_reducible refine hq.mono ?_); clear hq; rintro e w1 ⟨rfl, hk⟩; have hm : Blk w1 w.heap.size #[.int .i64 c, .int .i64 m, .slice aa args.length ac] 42 := (Blk.new w #[.int .i64 c, .int .i64 m, .slice aa args.length ac] 42).kept hk (by simp); have m2 : w1.cell? ⟨w.heap.size, 2, none⟩ = some (.slice aa args.length ac) := hm.cell 2; have H1 := Lib.hid (And.intro hm (((Kept.refl [] w).alloc _).trans hk (by simp))); clear hk hm)
      | (refine wpList_conv_bytes rfl 9 22 5 (.tmp 18) rfl Tryz.underlying9 Tryz.underlying22 Tryz.underlying5 l rfl ?_; intro cap w2 hb hlt hk; have H2 := Lib.hid (And.intro hb (And.intro hlt hk)); have m3 : w2.cell? ⟨w.heap.size, 2, none⟩ = some (.slice aa args.length ac) := (H1.out.1.kept hk (by simp)).cell 2; clear hb hlt hk))
    obtain ⟨g, hg⟩ : ∃ g, g = w1.heap.size := ⟨_, rfl⟩
    rw [← hg] at H2 ⊢
    clear hg
    go_loopw [5, 21] (fun nv i W => ∃ k nx : Nat, nv = .int .i64 (nx : Int) ∧ i = .int .i64 (k : Int) ∧ k ≤ l.length ∧ nx ≤ args.length ∧ Hid (properGo l args = properGo (l.drop k) (args.drop nx) ∧ Kept [] w2 W)) (fun _ i _ => l.length - (intOf i).toNat)
    case atStart => exact ⟨0, 0, rfl, rfl, Nat.zero_le _, Nat.zero_le _, Lib.hid ⟨rfl, Kept.refl _ _⟩⟩
    case round =>
      obtain ⟨k, nx, rfl, rfl, hkl, hnx, HR⟩ := hrel
      have m4 : wr.cell? ⟨w.heap.size, 2, none⟩ = some (.slice aa args.length ac) := ((H1.out.1.kept H2.out.2.2 (by simp)).kept HR.out.2 (by simp)).cell 2
      have hk00 : Kept [] w wr := ((H1.out.2.trans H2.out.2.2 (by simp)).trans HR.out.2 (by simp))
      have HK00 := Lib.hid hk00; clear hk00
      by_cases hlt : k < l.length
      · obtain ⟨x, hx⟩ : ∃ x, l[k]? = some x := ⟨_, List.getElem?_eq_getElem hlt⟩
        have hlx : wr.cell? ⟨g, k, none⟩ = some (.int .u8 (x.toNat : Int)) := H2.out.1.kept HR.out.2 (by simp) k x hx
        have hlt' : (k : Int) < l.length := by omega
        have hdr := proper_drop l args k x hx nx
        rw [← HR.out.1] at hdr
        by_cases h65 : x < 65
        · rw [if_pos h65] at hdr
          have h65' : (x.toNat : Int) < 65 := by have : x.toNat < 65 := h65; omega
          have HD := Lib.hid hdr; clear hdr h65 hx
          go_wp2_with fail
          go_roundw
          case rel => exact ⟨k + 1, nx, rfl, rfl, by omega, by omega, Lib.hid ⟨HD.out, HR.out.2⟩⟩
          case measure => simp [intOf]; omega
        · rw [if_neg h65] at hdr
          have h65' : ¬ (x.toNat : Int) < 65 := by have : ¬ x.toNat < 65 := h65; omega
          by_cases hn : nx = args.length
          · have hn' : (nx : Int) = args.length := by omega
            rw [List.getElem?_eq_none (by omega)] at hdr
            have HD := Lib.hid hdr; clear hdr h65 hx hn
            go_wp2_with fail
            go_ret
            exact ⟨by rw [HD.out]; rfl, HK00.out⟩
          · have hn' : ¬ (nx : Int) = args.length := by omega
            have hnl : (nx : Int) < args.length := by omega
            have hnb : ((nx : Int) == (args.length : Int)) = false := by simpa using hn'
            obtain ⟨a, ha⟩ : ∃ a, args[nx]? = some a := ⟨_, List.getElem?_eq_getElem (by omega)⟩
            rw [ha] at hdr
            obtain ⟨ad, cs, rfl, hca, tv, rfl, hft⟩ := H.out.1 nx a ha
            have hca' := (hca.kept HK00.out (by simp)).2
            have hcall := parg_any _ x (HO.out.1 x (List.mem_of_getElem? hx)) h65 a tv wr (hft.kept HK00.out (by simp)) (H.out.2 a (List.mem_of_getElem? ha))
            have x0 : wr.cell? (ad.add (nx * 4)) = some (.int .i64 a.kind) := hca' 0 _ rfl
            have x1 : wr.cell? ⟨(ad.add (nx * 4)).block, (ad.add (nx * 4)).off + 1, none⟩ = some (.int .u64 (a.n : Int)) := hca' 1 _ rfl
            have x2 : wr.cell? ⟨(ad.add (nx * 4)).block, (ad.add (nx * 4)).off + 2, none⟩ = some (.string (bstr a.text)) := hca' 2 _ rfl
            have x3 : wr.cell? ⟨(ad.add (nx * 4)).block, (ad.add (nx * 4)).off + 3, none⟩ = some tv := hca' 3 _ rfl
            have HC := Lib.hid (And.intro hca' hcall)
            have hbo : ∀ b : Bool, properArgB x a = b → properGo l args = (b && properGo (l.drop (k + 1)) (args.drop (nx + 1))) := fun b hb => by rw [hdr, ← hb]
            have HD := Lib.hid hbo; clear hdr h65 hx hn ha hca hca' hcall hft hbo
            generalize properArgB x a = bb at HC HD
            cases bb with
            | false =>
              go_wp2_with (first
                | (refine wpList_load_cells_g rfl 77 (.tmp 37) rfl _ rfl [.int .i64 a.kind, .int .u64 (a.n : Int), .string (bstr a.text), tv] HC.out.1 _ Tryz.underlying77 rfl size_sArg ?_)
                | (go_at_call 28; have hq := HC.out.2; (with_reducible refine hq.mono ?_); clear hq; rintro e w5 ⟨rfl, hk5⟩; have H5 := Lib.hid hk5; clear hk5))
              go_ret
              exact ⟨by rw [HD.out false rfl]; rfl, HK00.out.trans H5.out (by simp)⟩
            | true =>
              go_wp2_with (first
                | (refine wpList_load_cells_g rfl 77 (.tmp 37) rfl _ rfl [.int .i64 a.kind, .int .u64 (a.n : Int), .string (bstr a.text), tv] HC.out.1 _ Tryz.underlying77 rfl size_sArg ?_)
                | (go_at_call 28; have hq := HC.out.2; (with_reducible refine hq.mono ?_); clear hq; rintro e w5 ⟨rfl, hk5⟩; have H5 := Lib.hid hk5; clear hk5))
              go_roundw
              case rel => exact ⟨k + 1, nx + 1, rfl, rfl, by omega, by omega, Lib.hid ⟨by rw [HD.out true rfl]; rfl, HR.out.2.trans H5.out (by simp)⟩⟩
              case measure => simp [intOf]; omega
      · have hkm : k = l.length := by omega
        subst hkm
        have hdr := HR.out.1
        rw [List.drop_length] at hdr
        by_cases hn : nx = args.length
        · subst hn
          have hr : properGo l args = true := by rw [hdr, List.drop_length]; rfl
          have HD := Lib.hid hr; clear hdr hr
          go_wp2_with fail
          go_ret
          exact ⟨by rw [HD.out]; rfl, HK00.out⟩
        · have hn' : ¬ (nx : Int) = args.length := by omega
          have hnb : ((nx : Int) == (args.length : Int)) = false := by simpa using hn'
          have hr : properGo l args = false := by
            rw [hdr]
            cases he : args.drop nx with
            | nil => have := congrArg List.length he; simp at this; omega
            | cons _ _ => rfl
          have HD := Lib.hid hr; clear hdr hr hn
          go_wp2_with fail
          go_ret
          exact ⟨by rw [HD.out]; rfl, HK00.out⟩
/-- A written row that is not empty, as a slice. -/
theorem Wr.row {w : World} {q : Nat} {bs : List Nat} {l : List UInt8} (h : Wr TB w q bs l) (hl : 0 < l.length) : ∃ v g c, v = .slice (some ⟨g, 0, none⟩) l.length c ∧ w.cell? ⟨q, 0, none⟩ = some v ∧ Row w v g l ∧ bs = [g] := by
  obtain ⟨v, h1, h2, h3, h4⟩ := h
  obtain ⟨g, c, rfl, h5, h6⟩ := own_form h2 hl
  exact ⟨_, g, c, rfl, h1.cell0, ⟨c, rfl, h2⟩, by rw [h3, h6]; rfl⟩
theorem method_beat (k : Nat) (a : Addr) (w : World) : (method (k + 1) 89 (.pointer (some a)) "amqp091/pub/amqp091.write").run Tryz.prog w = .ok (203, .pointer (some a)) w := by kernel_rfl
theorem nilAhead_beat (k : Nat) (a : Addr) (w : World) : (nilAhead (k + 1) 89 (.pointer (some a)) "amqp091/pub/amqp091.write").run Tryz.prog w = .ok (some false) w := by kernel_rfl
set_option maxHeartbeats 400000 in
set_option maxRecDepth 100000 in
theorem wf_beat (wr q p : Nat) (w : World) (hwr : w.cell? ⟨wr, 0, none⟩ = some (.iface 111 (.pointer (some ⟨q, 0, none⟩)))) (R : World → Prop)
    (hc : Calls Tryz.prog 203 #[.pointer (some ⟨p, 0, none⟩), .iface 111 (.pointer (some ⟨q, 0, none⟩))] w.drew fun e w' => e = .returned .nilIface ∧ R w') :
    Calls Tryz.prog 74 #[.pointer (some ⟨wr, 0, none⟩), .iface 89 (.pointer (some ⟨p, 0, none⟩))] w fun e w' => e = .returned .nilIface ∧ R w' := by
  have hm1 := method_beat
  have hm2 := nilAhead_beat
  go_enter Tryz.func74, Tryz.ntmps74
  go_wp2
  go_region_with (go_at_call 203; refine hc.mono ?_; rintro e w' ⟨rfl, hR⟩)
  all_goals
    go_wp2
    go_ret
    exact ⟨rfl, hR⟩
set_option maxHeartbeats 400000 in
theorem zz_beat (p : Nat) (w : World) (l : List UInt8) (hl : 0 < l.length)
    (hc : ∀ w1 q, Kept [] w w1 → w.heap.size ≤ q → Wr TB w1 q [] [] → Calls Tryz.prog 203 #[.pointer (some ⟨p, 0, none⟩), .iface 111 (.pointer (some ⟨q, 0, none⟩))] w1 fun e w' => e = .returned .nilIface ∧ ∃ bs', Wr TB w' q bs' l ∧ Adv q [] bs' w1 w') :
    Calls Tryz.prog 52 #[.iface 89 (.pointer (some ⟨p, 0, none⟩))] w fun e w' => ∃ v g, e = .returned (.tuple #[v, .nilIface]) ∧ Row w' v g l ∧ w.heap.size ≤ g ∧ Kept [] w w' := by
  obtain ⟨wa, hwa⟩ : ∃ wa, wa = (w.alloc (.cells #[.slice none 0 0] TB)).alloc (.cells #[.iface 111 (.pointer (some ⟨w.heap.size, 0, none⟩))] 184) := ⟨_, rfl⟩
  have hka : Kept [] w wa := by subst hwa; exact ((Kept.refl [] w).alloc _).alloc _
  have hq : Blk wa w.heap.size #[.slice none 0 0] TB := by subst hwa; exact (Blk.new w _ _).alloc _
  have hr : Blk wa (w.heap.size + 1) #[.iface 111 (.pointer (some ⟨w.heap.size, 0, none⟩))] 184 := by subst hwa; exact Blk.new_at (by simp)
  have hd : Kept [] wa wa.drew := (Kept.refl [] wa).drew
  have hw : Wr TB wa.drew w.heap.size [] [] := ⟨_, hq.kept hd (by simp), World.ownsRow_nil _ _ _ _, rfl, by simp⟩
  have hcall := wf_beat (w.heap.size + 1) w.heap.size p wa hr.cell0 _ (hc wa.drew w.heap.size (hka.trans hd (by simp)) (Nat.le_refl _) hw)
  have HC := Lib.hid hcall; have HK := Lib.hid hka; have HW := Lib.hid hwa; clear hcall hka hwa hq hr hd hw hc
  go_enter Tryz.func52, Tryz.ntmps52
  go_wp2_with fail
  rw [← HW.out]
  refine HC.out.mono ?_
  rintro e w1 ⟨rfl, bs', hw1, ha1⟩
  obtain ⟨v, g, c, hv, c0, hrow, hbs⟩ := hw1.row hl
  have hb := bytes_any w.heap.size v w1 c0
  have HB := Lib.hid hb
  have HR := Lib.hid (And.intro hrow (And.intro ha1 hbs)); clear hrow ha1 hbs hw1 c0 hb
  subst hv
  go_wp2_with (go_at_call 75; refine HB.out.mono ?_; rintro e w2 ⟨rfl, rfl⟩)
  go_ret2
  refine ⟨_, g, rfl, HR.out.1, ?_, ?_⟩
  · rcases HR.out.2.1.own g (by rw [HR.out.2.2]; simp) with h | h
    · simp at h
    · exact Nat.le_trans HK.out.size h
  · exact (HK.out.drew).trans HR.out.2.1.kept (by simp)
set_option maxHeartbeats 400000 in
theorem beatWrite_any (q h : Nat) (bs : List Nat) (w : World) (hw : Wr TB w q bs []) (hh : w.cell? ⟨h, 0, none⟩ = some (.int .u16 0)) :
    Calls Tryz.prog 203 #[.pointer (some ⟨h, 0, none⟩), .iface 111 (.pointer (some ⟨q, 0, none⟩))] w fun e w' => e = .returned .nilIface ∧
      ∃ bs', Wr TB w' q bs' (frameB 8 0 []) ∧ Adv q bs bs' w w' := by
  have hk0 : Kept [] w (w.alloc (.cells #[] 5)) := (Kept.refl [] w).alloc _
  have hc := writeFrame_any q 8 0 (.slice (some ⟨w.heap.size, 0, none⟩) 0 0) [] (w.alloc (.cells #[] 5)) bs (hw.kept hk0 (by simp) (by simp)) w.heap.size (.inl ⟨rfl, _, _, rfl⟩) (by have := hw.lt; omega) (fun hm => by have := hw.blt _ hm; omega) (by simp) ⟨_, _, rfl⟩ (by omega) (by omega) (by simp)
  simp only [Int.natCast_zero] at hc
  have HC := Lib.hid hc; have HK := Lib.hid hk0; clear hc hk0 hw
  go_enter Tryz.func203, Tryz.ntmps203
  go_wp2_with (go_at_call 201; refine HC.out.mono ?_; rintro e w1 ⟨rfl, hR⟩)
  go_ret
  obtain ⟨bs', h1, h2⟩ := hR
  refine ⟨rfl, bs', h1, (HK.out.mono (by simp)).trans h2.kept (fun x hx => .inl hx), fun b hb => ?_⟩
  rcases h2.own b hb with h | h
  · exact .inl h
  · exact .inr (Nat.le_trans HK.out.size h)
end Go.Proofs.YtkcdakohmfodjaaGreat
