/-
  Lemmas on the way to the statement of YtkcdakohmfodjaaGreatHeader, joined out of these texts: Hrow. No condition.
-/
import Derived.Test.YtkcdakohmfodjaaGreatNCnv
import Derived.Test.YtkcdakohmfodjaaGreatNFmtHead
import Derived.Test.YtkcdakohmfodjaaGreatNFrmOk
import Derived.Test.YtkcdakohmfodjaaGreatNGotH
import Derived.Test.YtkcdakohmfodjaaGreatNHb
import Derived.Test.YtkcdakohmfodjaaGreatNHpp
import Derived.Test.YtkcdakohmfodjaaGreatNLim
namespace Go.Proofs.YtkcdakohmfodjaaGreat
open Go.RowKit
set_option linter.unusedVariables false
set_option linter.unusedSimpArgs false
theorem HP.conv_norm {p : HP} (h : properP p.conv = true) : p.conv.norm = p.norm := by
  have hf := fits_conv p.hdr (proper_fit h).1
  show ({ p.conv with hdr := normFs p.conv.hdr } : HP) = { p with hdr := normFs p.hdr }
  unfold HP.conv
  simp only [hf.2]
theorem HP.unconv {p : HP} (h : properP p.conv = true) : properP p = true := by
  have hf := fits_conv p.hdr (proper_fit h).1
  have hz : (convT p.hdr = []) ↔ p.hdr = [] := by rw [← normFs_nil (convT p.hdr), hf.2, normFs_nil]
  have hat : ∀ i, p.conv.okAt i = p.okAt i := fun i => by
    unfold HP.okAt HP.conv
    simp only [ne_eq, hz]
  have he : p.conv.okEnd = p.okEnd := by
    have h1 : fitsB (convT p.hdr) = true := (proper_fit h).1
    unfold HP.okEnd HP.conv
    simp only [h1, hf.1]
  unfold properP at h ⊢
  rw [← he, ← funext hat]
  exact h
theorem HP.conv_bytes {p : HP} (h : properP p.conv = true) (c sz : Nat) : headerB c sz p.conv = headerB c sz p := by
  rw [← headerB_norm c sz p.conv, HP.conv_norm h, headerB_norm]
theorem WfP.conv {p : HP} (h : WfP p) : WfP p.conv := ⟨h.txt, (wf_convT p.hdr h.hdr h.hlen).1, (wf_convT p.hdr h.hdr h.hlen).2, h.mode, h.prio, h.time⟩
theorem WfP.norm {p : HP} (h : WfP p) : WfP p.norm := ⟨h.txt, wf_normFs p.hdr h.hdr, by show (normFs p.hdr).length ≤ _; rw [normFs_lenF]; exact h.hlen, h.mode, h.prio, h.time⟩
section
variable {P : Program} {ops : Array Oper} {rest : List Oper} {o : Oper} {a : Act} {w : World} {Q : Exit → Act → World → Prop}
theorem wpList_load_cells_gh (hgd : Region.wanted o (yielded ops a.tmps) = true) (ty : TypeId) (x : Operand) (ho : o.op = .load ty x)
    (ad : Addr) (hx : a.eval x = .pointer (some ad)) (cs : List Value) (hc : ∀ j u, cs[j]? = some u → w.cell? (ad.add j) = some u) (d : TypeDesc)
    (hu : P.underlying ty = some d) (hd : (match d with | .struct _ | .array _ _ => true | _ => false) = true) (hi : (P.info? ty).map (·.size) = some cs.length)
    (h : wpList P ops Q rest (a.put o.dst (.agg cs.toArray)) w) : wpList P ops Q (o :: rest) a w := by
  refine wpList_step fun K hK => ?_
  rw [if_pos hgd]
  have hr := run_loadAt_cells (P := P) w ad ty cs d hc hu hd hi
  unfold Oper.wp execOp
  simp only [ho, hx, Sem.run_bind, Sem.run_pure, hr, Result.andThen_ok, Oper.upon_skip]
  exact hK _ _ h
end
theorem Blk.all {w : World} {g : Nat} {cs : List Value} {T : TypeId} (h : Blk w g cs.toArray T) : ∀ j u, cs[j]? = some u → w.cell? ((⟨g, 0, none⟩ : Addr).add j) = some u := fun j u hj => by
  rw [addr_add, Nat.zero_add, h.cell j]; simpa using hj
set_option maxHeartbeats 8000000 in
set_option maxRecDepth 100000 in
theorem hrow_main (ch cl sz : Nat) (hch : ch ≤ 65535) (hcl : cl ≤ 65535) (hsz : sz < 18446744073709551616) (p : HP) (hwf : WfP p) (hf2 : fits2 p = true) (hp : properP p.conv = true) (B : Nat → Prop) (hv : Value) (w : World) (h : FSl B w hv p.hdr) :
    Calls Tryz.prog 6 #[.int .i64 (ch : Int), .int .i64 (cl : Int), .int .u64 (sz : Int), .agg (hpC p hv).toArray] w fun e w' => e = .returned (.bool true) ∧ Kept [] w w' := by
  have hpp := HP.unconv hp
  have hpn : properP p.norm = true := proper_normP hpp
  obtain ⟨bs, hbs⟩ : ∃ bs, bs = headerB cl sz p := ⟨_, rfl⟩
  have hbsl : bs.length ≤ 1000000 := by rw [hbs]; exact headerB_len cl sz hpp
  obtain ⟨va, vc, rfl, _⟩ := id h
  obtain ⟨A0, hA0⟩ : ∃ A0, A0 = (hpC p (.slice va p.hdr.length vc)) := ⟨_, rfl⟩
  have hA0l : A0.length = 32 := by rw [hA0]; rfl
  obtain ⟨zs, hzs⟩ : ∃ zs, zs = (hpC .zero (.slice none 0 0)) := ⟨_, rfl⟩
  have hzl : zs.length = 32 := by rw [hzs]; rfl
  have hall := alloc_sPr
  rw [← hzs] at hall
  obtain ⟨F0, hF0⟩ : ∃ F0, F0 = frame0 := ⟨_, rfl⟩
  have k0 : ∀ w : World, (Instr.alloc 35 true (.tuple #[])).run Tryz.prog w = .ok (.pointer (some ⟨w.heap.size, 0, none⟩)) (w.alloc (.cells F0.toArray 35)) := by subst hF0; exact alloc_frame
  have l0 : F0.length = 40 := by subst hF0; rfl
  rw [← hA0]
  have s33 : (Tryz.prog.info? 33).map (·.size) = some A0.length := by rw [hA0l]; exact size_iPr
  -- contracts
  have cFit : ∀ W, Calls Tryz.prog 16 #[.agg A0.toArray] W fun e w' => e = .returned (.bool true) ∧ Kept [] W w' := fun W => by rw [hA0]; refine (zzFits2_any p hwf va vc W).mono ?_; rw [hf2]; exact fun e w' h => h
  have cP1 : ∀ W, Kept [] w W → Calls Tryz.prog 17 #[.agg A0.toArray] W fun e w' => ∃ xa xc, e = .returned (.agg (hpC p.conv (.slice xa p.conv.hdr.length xc)).toArray) ∧ FSl (fun b => W.heap.size ≤ b) w' (.slice xa p.conv.hdr.length xc) p.conv.hdr ∧ Kept [] W w' := fun W hk => by
    rw [hA0]
    refine (hprop_any B p hwf _ W (h.kept hk (by simp))).mono ?_
    rintro e w' ⟨v, rfl, f1, f2⟩
    obtain ⟨xa, xc, rfl, _⟩ := id f1
    exact ⟨xa, xc, rfl, f1, f2⟩
  have cPP : ∀ W B xa xc, FSl B W (.slice xa p.conv.hdr.length xc) p.conv.hdr → Calls Tryz.prog 18 #[.agg (hpC p.conv (.slice xa p.conv.hdr.length xc)).toArray] W fun e w' => e = .returned (.bool true) ∧ Kept [] W w' := fun W B xa xc hW => by
    refine (pprop_any B p.conv hwf.conv xa xc W hW).mono ?_
    rw [hp]; exact fun e w' h => h
  have cHb : ∀ W B xa xc, FSl B W (.slice xa p.conv.hdr.length xc) p.conv.hdr → Calls Tryz.prog 19 #[.int .i64 (cl : Int), .int .u64 (sz : Int), .agg (hpC p.conv (.slice xa p.conv.hdr.length xc)).toArray] W fun e w' => ∃ k g, e = .returned (.slice (some ⟨g, 0, none⟩) bs.length k) ∧ Row w' (.slice (some ⟨g, 0, none⟩) bs.length k) g bs ∧ W.heap.size ≤ g ∧ Kept [] W w' := fun W B xa xc hW => by
    refine (hb_any B p.conv hp hwf.conv xa xc W hW cl sz (by omega) hsz).mono ?_
    rw [HP.conv_bytes hp, ← hbs]
    rintro e w' ⟨v', g, rfl, r1, r2, r3⟩
    obtain ⟨k, rfl, _⟩ := id r1
    exact ⟨k, g, rfl, r1, r2, r3⟩
  have cHn : ∀ W B xa xc, FSl B W (.slice xa p.norm.hdr.length xc) p.norm.hdr → Calls Tryz.prog 19 #[.int .i64 (cl : Int), .int .u64 (sz : Int), .agg (hpC p.norm (.slice xa p.norm.hdr.length xc)).toArray] W fun e w' => ∃ k g, e = .returned (.slice (some ⟨g, 0, none⟩) bs.length k) ∧ Row w' (.slice (some ⟨g, 0, none⟩) bs.length k) g bs ∧ W.heap.size ≤ g ∧ Kept [] W w' := fun W B xa xc hW => by
    refine (hb_any B p.norm hpn hwf.norm xa xc W hW cl sz (by omega) hsz).mono ?_
    rw [headerB_norm, ← hbs]
    rintro e w' ⟨v', g, rfl, r1, r2, r3⟩
    obtain ⟨k, rfl, _⟩ := id r1
    exact ⟨k, g, rfl, r1, r2, r3⟩
  have cP2 : ∀ W B v, FSl B W v (normFs p.hdr) → Calls Tryz.prog 17 #[.agg (hpC p.norm v).toArray] W fun e w' => ∃ xa xc, e = .returned (.agg (hpC p.norm (.slice xa p.norm.hdr.length xc)).toArray) ∧ FSl (fun b => W.heap.size ≤ b) w' (.slice xa p.norm.hdr.length xc) p.norm.hdr ∧ Kept [] W w' := fun W B v hW => by
    refine (hprop_any B p.norm hwf.norm v W hW).mono ?_
    rw [proper_convP hpp]
    rintro e w' ⟨v', rfl, f1, f2⟩
    obtain ⟨xa, xc, rfl, _⟩ := id f1
    exact ⟨xa, xc, rfl, f1, f2⟩
  have cFb : ∀ W g k, Row W (.slice (some ⟨g, 0, none⟩) bs.length k) g bs → Calls Tryz.prog 8 #[.int .i64 2, .int .i64 (ch : Int), .slice (some ⟨g, 0, none⟩) bs.length k] W fun e w' => ∃ k' g', e = .returned (.slice (some ⟨g', 0, none⟩) (bs.length + 8) k') ∧ Row w' (.slice (some ⟨g', 0, none⟩) (bs.length + 8) k') g' (frameB 2 ch bs) ∧ W.heap.size ≤ g' ∧ Kept [] W w' := fun W g k hr => by
    have hsr := hr.src bs.length (Nat.le_refl _) k
    rw [List.take_of_length_le (Nat.le_refl _)] at hsr
    refine (frameBytes_any 2 ch _ bs W (by omega) hch g hsr hbsl ⟨_, _, rfl⟩).mono ?_
    rintro e w' ⟨v, g', rfl, r1, r2, r3⟩
    obtain ⟨k', rfl, _⟩ := id r1
    rw [frameB_length] at r1 ⊢
    exact ⟨k', g', rfl, r1, r2, r3⟩
  have cFh : ∀ W, Kept [] w W → Calls Tryz.prog 20 #[.int .i64 (ch : Int), .int .i64 (cl : Int), .int .u64 (sz : Int), .agg A0.toArray] W fun e w' => ∃ k g, e = .returned (.tuple #[.slice (some ⟨g, 0, none⟩) (bs.length + 8) k, .bool true]) ∧ Row w' (.slice (some ⟨g, 0, none⟩) (bs.length + 8) k) g (frameB 2 ch bs) ∧ W.heap.size ≤ g ∧ Kept [] W w' := fun W hk => by
    rw [hA0]
    refine (formatHead_any B p hpp hwf _ W (h.kept hk (by simp)) ch cl sz hch (by omega) hsz).mono ?_
    rw [← hbs]
    rintro e w' ⟨v, g', rfl, r1, r2, r3⟩
    obtain ⟨k', rfl, _⟩ := id r1
    rw [frameB_length] at r1 ⊢
    exact ⟨k', g', rfl, r1, r2, r3⟩
  have cPf : ∀ W g k, Row W (.slice (some ⟨g, 0, none⟩) (bs.length + 8) k) g (frameB 2 ch bs) → Calls Tryz.prog 9 #[.slice (some ⟨g, 0, none⟩) (bs.length + 8) k] W fun e w' => ∃ ya yc base, e = .returned (.tuple #[.agg (headCells ch cl sz p.norm (.slice ya p.norm.hdr.length yc)).toArray, .int .i64 0, .bool true]) ∧ W.heap.size ≤ base ∧ FSl (fun b => base ≤ b) w' (.slice ya p.norm.hdr.length yc) (normFs p.hdr) ∧ Kept [] W w' := fun W g k hr => by
    refine (parse_ok _ W ⟨_, _, _, rfl⟩ (HeadGot ch cl sz p 0) (fun w1 hk1 => ?_)).mono ?_
    · have := got_head p hpp hwf ch cl sz hch (by omega) hsz [] (by simp) (.slice (some ⟨g, 0, none⟩) (bs.length + 8) k) g w1
      rw [← hbs, List.append_nil] at this
      exact this (hr.kept hk1 (by simp)).all
    · rintro e w' ⟨cs, n7, base, w8, S, rfl, x1, x2, x3, x4, ⟨rfl, out, rfl, x5⟩, x7, x8⟩
      obtain ⟨ya, yc, rfl, _⟩ := id x5
      exact ⟨ya, yc, base, rfl, x3, x5.kept x7 (fun b hb hm => by have := x4 b hm; have hb : base ≤ b := hb; omega), x8⟩
  have d1 : decide ((ch : Int) < 0) = false := decide_eq_false (by omega)
  have d2 : decide ((65535 : Int) < ch) = false := decide_eq_false (by omega)
  have d3 : decide ((cl : Int) < 0) = false := decide_eq_false (by omega)
  have d4 : decide ((65535 : Int) < cl) = false := decide_eq_false (by omega)
  have C := Lib.hid (And.intro cFit (And.intro cP1 (And.intro cPP (And.intro cHb (And.intro cHn (And.intro cP2 (And.intro cFb (And.intro cFh cPf))))))))
  have HA0 := Lib.hid hA0l; have HZ := Lib.hid (And.intro hall hzl); have K0 := Lib.hid (And.intro k0 l0); have S33 := Lib.hid s33
  clear cFit cP1 cPP cHb cHn cP2 cFb cFh cPf hA0 hA0l hall hzl hzs k0 l0 hF0 s33 h hbs hbsl hpp hpn hp hf2 hwf hch hcl hsz
  go_enter Tryz.func6, Tryz.ntmps6
  go_upto_region 1 with fail
  obtain ⟨wA, hwA⟩ : ∃ wA, wA = w.alloc (.cells A0.toArray 33) := ⟨_, rfl⟩
  have hbA : Blk wA w.heap.size A0.toArray 33 := by rw [hwA]; exact Blk.new w _ _
  have hkA : Kept [] w wA := by rw [hwA]; exact (Kept.refl [] w).alloc _
  rw [← hwA]
  obtain ⟨M0, hM0⟩ : ∃ b, b = w.heap.size := ⟨_, rfl⟩
  rw [← hM0] at hbA ⊢
  have HA := Lib.hid (And.intro hbA hkA); clear hbA hkA hwA hM0
  go_upto_region 3 with (first
    | (refine wpList_load_cells rfl 33 (.tmp 7) rfl ⟨M0, 0, none⟩ rfl A0 HA.out.1.all _ Tryz.underlying33 rfl S33.out ?_)
    | (go_at_call 16; have hq := C.out.1 wA; (with_reducible refine hq.mono ?_); clear hq; rintro e w1 ⟨rfl, hk⟩; have HA1 := Lib.hid (And.intro (HA.out.1.kept hk (by simp)) (HA.out.2.trans hk (by simp))); clear hk))
  go_upto_region 4 with (first
    | (refine wpList_load_cells rfl 33 (.tmp 7) rfl ⟨M0, 0, none⟩ rfl A0 HA1.out.1.all _ Tryz.underlying33 rfl S33.out ?_)
    | (go_at_call 17; have hq := C.out.2.1 w1 HA1.out.2; (with_reducible refine hq.mono ?_); clear hq; rintro e w2 ⟨xa, xc, rfl, hx, hk⟩; have H2 := Lib.hid (And.intro hx (And.intro (HA1.out.2.trans hk (by simp)) (HA1.out.1.kept hk (by simp)))); clear hx hk)
    | (refine wpList_alloc rfl 9 rfl 54 rfl zs.toArray (HZ.out.1 _) ?_; intro w2a h1 h2 h3; have H2A := Lib.hid (And.intro h1 h2); clear h1 h2 h3)
    | (refine wpList_store_row (P := Tryz.prog) rfl rfl 54 (.tmp 9) (.tmp 21) rfl w2.heap.size rfl 54 zs (hpC p.conv (.slice xa p.conv.hdr.length xc)) H2A.out.1 rfl (by rw [HZ.out.2]; rfl) (hpC_one _ _ rfl) size_sPr ?_; intro w3 hb3 hk3; have hk3' := H2A.out.2.trans hk3 (S' := [w2.heap.size]) (fun x hx => .inr (by simp at hx; omega)); have H3 := Lib.hid (And.intro hb3 (And.intro (H2.out.1.kept hk3' (by simp)) (And.intro (H2.out.2.1.trans hk3' (by simp)) (H2.out.2.2.kept hk3' (by simp))))); clear hb3 hk3 hk3'))
  obtain ⟨X0, hX0⟩ : ∃ b, b = w2.heap.size := ⟨_, rfl⟩
  rw [← hX0] at H3 ⊢
  clear hX0
  go_upto_region 6 with (first
    | (refine wpList_load_cells_gh (by rfl) 54 (.tmp 9) rfl ⟨X0, 0, none⟩ rfl _ H3.out.1.all _ Tryz.underlying54 rfl size_sPr ?_)
    | (go_at_call 18; have hq := C.out.2.2.1 w3 _ _ _ H3.out.2.1; (with_reducible refine hq.mono ?_); clear hq; rintro e w4 ⟨rfl, hk⟩; have H4 := Lib.hid (And.intro (H3.out.1.kept hk (by simp)) (And.intro (H3.out.2.1.kept hk (by simp)) (And.intro (H3.out.2.2.1.trans hk (by simp)) (H3.out.2.2.2.kept hk (by simp))))); clear hk))
  go_upto_region 9 with (first
    | (refine wpList_load_cells rfl 54 (.tmp 9) rfl ⟨X0, 0, none⟩ rfl _ H4.out.1.all _ Tryz.underlying54 rfl size_sPr ?_)
    | (go_at_call 19; have hq := C.out.2.2.2.1 w4 _ _ _ H4.out.2.1; (with_reducible refine hq.mono ?_); clear hq; rintro e w5 ⟨k5, g5, rfl, hr, hg, hk⟩; have H5 := Lib.hid (And.intro hr hk); clear hr hg hk)
    | (go_at_call 8; have hq := C.out.2.2.2.2.2.2.1 w5 g5 k5 H5.out.1; (with_reducible refine hq.mono ?_); clear hq; rintro e w6 ⟨k6, g6, rfl, hr, hg, hk⟩; have hk46 := H5.out.2.trans hk (by simp); have H6 := Lib.hid (And.intro hr (And.intro hk46 (And.intro (H4.out.2.2.1.trans hk46 (by simp)) (H4.out.2.2.2.kept hk46 (by simp))))); clear hr hg hk hk46)
    | (refine wpList_load_cells rfl 33 (.tmp 7) rfl ⟨M0, 0, none⟩ rfl A0 H6.out.2.2.2.all _ Tryz.underlying33 rfl S33.out ?_)
    | (go_at_call 20; have hq := C.out.2.2.2.2.2.2.2.1 w6 H6.out.2.2.1; (with_reducible refine hq.mono ?_); clear hq; rintro e w7 ⟨k7, g7, rfl, hr, hg, hk⟩; have H7 := Lib.hid (And.intro hr (And.intro hk (H6.out.1.kept hk (by simp)))); clear hr hg hk)
    | (go_at_call 9; have hq := C.out.2.2.2.2.2.2.2.2 w7 g6 k6 H7.out.2.2; (with_reducible refine hq.mono ?_); clear hq; rintro e w8 ⟨ya, yc, base, rfl, hb, ho, hk⟩; have H8 := Lib.hid (And.intro hb (And.intro ho (And.intro hk (And.intro (H7.out.1.kept hk (by simp)) (H7.out.2.2.kept hk (by simp)))))); clear hb ho hk; generalize hFB : headCells ch cl sz p.norm (.slice ya p.norm.hdr.length yc) = FB; have HFB := Lib.hid hFB; clear hFB)
    | (refine wpList_alloc rfl 13 rfl 35 rfl F0.toArray (K0.out.1 _) ?_; intro w9 h1 h2 h3; have H9 := Lib.hid (And.intro h1 h2); clear h1 h2 h3)
    | (refine wpList_store_row (P := Tryz.prog) rfl rfl 35 (.tmp 13) (.tmp 59) rfl w8.heap.size rfl 35 F0 FB H9.out.1 rfl (by rw [← HFB.out, K0.out.2]; rfl) (by rw [← HFB.out]; exact head_one _ _ _ _ _ rfl) (by rw [← HFB.out]; exact frame_size) ?_; intro w10 h1 h2; have h2' := H9.out.2.trans h2 (S' := [w8.heap.size]) (fun x hx => .inr (by simp at hx; omega)); have H10 := Lib.hid (And.intro h1 h2'); clear h1 h2 h2'))
  obtain ⟨FF, hFF⟩ : ∃ b, b = w8.heap.size := ⟨_, rfl⟩
  rw [← hFF] at H10 ⊢
  clear hFF
  have q0 : w10.cell? ⟨FF, 0, none⟩ = some (.int .i64 2) := (H10.out.1.cell 0).trans (by rw [← HFB.out]; rfl)
  have q1 : w10.cell? ⟨FF, 1, none⟩ = some (.int .i64 (ch : Int)) := (H10.out.1.cell 1).trans (by rw [← HFB.out]; rfl)
  have q5 : w10.cell? ⟨FF, 5, none⟩ = some (.int .i64 (cl : Int)) := (H10.out.1.cell 5).trans (by rw [← HFB.out]; rfl)
  have q6 : w10.cell? ⟨FF, 6, none⟩ = some (.int .u64 (sz : Int)) := (H10.out.1.cell 6).trans (by rw [← HFB.out]; rfl)
  have q7 : ∀ j u, (hpC p.norm (.slice ya p.norm.hdr.length yc))[j]? = some u → w10.cell? ((⟨FF, 7, none⟩ : Addr).add j) = some u := fun j u hj => by
    rw [addr_add, H10.out.1.cell, ← HFB.out]
    have hl := (List.getElem?_eq_some_iff.1 hj).1
    rw [List.getElem?_toArray]
    unfold headCells
    rw [List.getElem?_append_right (by simp), show 7 + j - ([Value.int .i64 2, .int .i64 (ch : Int), .int .i64 0, .int .i64 0, .slice none 0 0, .int .i64 (cl : Int), .int .u64 (sz : Int)] : List Value).length = j by simp, List.getElem?_append_left hl]
    exact hj
  have kA : Kept [] w4 w10 := ((H6.out.2.1.trans H7.out.2.1 (by simp)).trans H8.out.2.2.1 (by simp)).trans H10.out.2 (by simp)
  have v1 := conv_row (H8.out.2.2.2.1.kept H10.out.2 (by simp)) (frameB_length 2 ch bs)
  have v2 := conv_row (H8.out.2.2.2.2.kept H10.out.2 (by simp)) (frameB_length 2 ch bs)
  have HQ := Lib.hid (And.intro q7 (And.intro (H4.out.1.kept kA (by simp)) (And.intro (H4.out.2.1.kept kA (by simp)) (And.intro (H4.out.2.2.1.trans kA (by simp)) (H8.out.2.1.kept H10.out.2 (by simp))))))
  clear q7 kA
  go_upto_region 12 with (first
    | (refine wpList_load_cells rfl 33 (.tmp 102) rfl ⟨FF, 7, none⟩ rfl (hpC p.norm (.slice ya p.norm.hdr.length yc)) HQ.out.1 _ Tryz.underlying33 rfl size_iPr ?_)
    | (go_at_call 17; have hq := C.out.2.2.2.2.2.1 w10 _ _ HQ.out.2.2.2.2; (with_reducible refine hq.mono ?_); clear hq; rintro e w11 ⟨za, zc, rfl, hy, hk⟩; have H11 := Lib.hid (And.intro hy hk); clear hy hk)
    | (refine wpList_alloc rfl 16 rfl 54 rfl zs.toArray (HZ.out.1 _) ?_; intro w11a h1 h2 h3; have H11A := Lib.hid (And.intro h1 h2); clear h1 h2 h3)
    | (refine wpList_store_row (P := Tryz.prog) rfl rfl 54 (.tmp 16) (.tmp 104) rfl w11.heap.size rfl 54 zs (hpC p.norm (.slice za p.norm.hdr.length zc)) H11A.out.1 rfl (by rw [HZ.out.2]; rfl) (hpC_one _ _ rfl) size_sPr ?_; intro w12 h1 h2; have h2' := H11A.out.2.trans h2 (S' := [w11.heap.size]) (fun x hx => .inr (by simp at hx; omega)); have H12 := Lib.hid (And.intro h1 (And.intro (H11.out.1.kept h2' (by simp)) (H11.out.2.trans h2' (by simp)))); clear h1 h2 h2'))
  obtain ⟨Y0, hY0⟩ : ∃ b, b = w11.heap.size := ⟨_, rfl⟩
  rw [← hY0] at H12 ⊢
  clear hY0
  -- the last region, in whatever order
  have lYX : ∀ w', Kept [] w12 w' → Blk w' Y0 (hpC p.norm (.slice za p.norm.hdr.length zc)).toArray 54 ∧ Blk w' X0 (hpC p.conv (.slice xa p.conv.hdr.length xc)).toArray 54 := fun W hk =>
    ⟨H12.out.1.kept hk (by simp), (HQ.out.2.1.kept H12.out.2.2 (by simp)).kept hk (by simp)⟩
  have cY : ∀ W, Hid (Kept [] w12 W) → Calls Tryz.prog 19 #[.int .i64 (cl : Int), .int .u64 (sz : Int), .agg (hpC p.norm (.slice za p.norm.hdr.length zc)).toArray] W fun e w' => ∃ k g, e = .returned (.slice (some ⟨g, 0, none⟩) bs.length k) ∧ Row w' (.slice (some ⟨g, 0, none⟩) bs.length k) g bs ∧ W.heap.size ≤ g ∧ Kept [] W w' := fun W hk => C.out.2.2.2.2.1 W _ _ _ (H12.out.2.1.kept hk.out (by simp))
  have cX : ∀ W, Hid (Kept [] w12 W) → Calls Tryz.prog 19 #[.int .i64 (cl : Int), .int .u64 (sz : Int), .agg (hpC p.conv (.slice xa p.conv.hdr.length xc)).toArray] W fun e w' => ∃ k g, e = .returned (.slice (some ⟨g, 0, none⟩) bs.length k) ∧ Row w' (.slice (some ⟨g, 0, none⟩) bs.length k) g bs ∧ W.heap.size ≤ g ∧ Kept [] W w' := fun W hk => C.out.2.2.2.1 W _ _ _ ((HQ.out.2.2.1.kept H12.out.2.2 (by simp)).kept hk.out (by simp))
  have HE := Lib.hid (HQ.out.2.2.2.1.trans H12.out.2.2 (by simp))
  have hkd : Hid (Kept [] w12 w12.drew) := Lib.hid (Kept.refl [] w12).drew
  have LYX := Lib.hid lYX; have CY := Lib.hid cY; have CX := Lib.hid cX
  clear lYX cY cX q0 q1 q5 q6 v1 v2
  refine wp_region_noPanic ?_
  refine wp_region_held_drew (S := (fun w' : World => Blk w' Y0 (hpC p.norm (.slice za p.norm.hdr.length zc)).toArray 54 ∧ Blk w' X0 (hpC p.conv (.slice xa p.conv.hdr.length xc)).toArray 54)) (by kernel_rfl) (by (try dsimp only); exact LYX.out _ (Hid.out (by assumption))) (fun hHeld => ?_)
  refine wpAnyH_take (i := 0) (oi := { dst := some 105, op := Op.move (Operand.tmp 1), type := 3, pos := "laws.go:156", after := #[], guard := none }) (v := ?_) rfl (by kernel_rfl) (by kernel_rfl) (by kernel_rfl) (fun _ _ _ h => h) (Or.inl ⟨by rfl, ?_⟩) (by assumption) ?_
  rotate_left
  · intro w hSw; (try dsimp only at hSw); go_simp; try with_reducible rfl
  try simp only [Act.put, List.setIfInBounds_toArray, List.set_cons_zero, List.set_cons_succ]
  refine wpAnyH_take (i := 1) (oi := { dst := some 106, op := Op.move (Operand.tmp 2), type := 28, pos := "laws.go:156", after := #[], guard := none }) (v := ?_) rfl (by kernel_rfl) (by kernel_rfl) (by kernel_rfl) (fun _ _ _ h => h) (Or.inl ⟨by rfl, ?_⟩) (by assumption) ?_
  rotate_left
  · intro w hSw; (try dsimp only at hSw); go_simp; try with_reducible rfl
  try simp only [Act.put, List.setIfInBounds_toArray, List.set_cons_zero, List.set_cons_succ]
  refine wpAnyH_take (i := 2) (oi := { dst := some 107, op := Op.load 54 (Operand.tmp 16), type := 54, pos := "laws.go:156", after := #[], guard := none }) (v := .agg (hpC p.norm (.slice za p.norm.hdr.length zc)).toArray) rfl (by kernel_rfl) (by kernel_rfl) (by kernel_rfl) (fun _ _ _ h => h) (Or.inl ⟨by rfl, ?_⟩) (by assumption) ?_
  · intro w hSw; exact t_load 54 (.tmp 16) rfl ⟨Y0, 0, none⟩ rfl (run_loadAt_cells w ⟨Y0, 0, none⟩ 54 (hpC p.norm (.slice za p.norm.hdr.length zc)) _ hSw.1.all Tryz.underlying54 rfl size_sPr)
  try simp only [Act.put, List.setIfInBounds_toArray, List.set_cons_zero, List.set_cons_succ]
  refine wpAnyH_take (i := 5) (oi := { dst := some 110, op := Op.move (Operand.tmp 1), type := 3, pos := "laws.go:156", after := #[], guard := none }) (v := ?_) rfl (by kernel_rfl) (by kernel_rfl) (by kernel_rfl) (fun _ _ _ h => h) (Or.inl ⟨by rfl, ?_⟩) (by assumption) ?_
  rotate_left
  · intro w hSw; (try dsimp only at hSw); go_simp; try with_reducible rfl
  try simp only [Act.put, List.setIfInBounds_toArray, List.set_cons_zero, List.set_cons_succ]
  refine wpAnyH_take (i := 6) (oi := { dst := some 111, op := Op.move (Operand.tmp 2), type := 28, pos := "laws.go:156", after := #[], guard := none }) (v := ?_) rfl (by kernel_rfl) (by kernel_rfl) (by kernel_rfl) (fun _ _ _ h => h) (Or.inl ⟨by rfl, ?_⟩) (by assumption) ?_
  rotate_left
  · intro w hSw; (try dsimp only at hSw); go_simp; try with_reducible rfl
  try simp only [Act.put, List.setIfInBounds_toArray, List.set_cons_zero, List.set_cons_succ]
  refine wpAnyH_take (i := 7) (oi := { dst := some 112, op := Op.load 54 (Operand.tmp 9), type := 54, pos := "laws.go:156", after := #[], guard := none }) (v := .agg (hpC p.conv (.slice xa p.conv.hdr.length xc)).toArray) rfl (by kernel_rfl) (by kernel_rfl) (by kernel_rfl) (fun _ _ _ h => h) (Or.inl ⟨by rfl, ?_⟩) (by assumption) ?_
  · intro w hSw; exact t_load 54 (.tmp 9) rfl ⟨X0, 0, none⟩ rfl (run_loadAt_cells w ⟨X0, 0, none⟩ 54 (hpC p.conv (.slice xa p.conv.hdr.length xc)) _ hSw.2.all Tryz.underlying54 rfl size_sPr)
  try simp only [Act.put, List.setIfInBounds_toArray, List.set_cons_zero, List.set_cons_succ]
  refine wpAnyH_ready (rs := [3]) (by kernel_rfl) (by simp) ?_
  refine AllReadyH.cons (o := { dst := some 108, op := Op.call { callee := Callee.value (Operand.func 19), args := #[Operand.tmp 105, Operand.tmp 106, Operand.tmp 107], argTypes := #[3, 28, 54] }, type := 22, pos := "laws.go:156", after := #[{ on := 0, ground := Ground.data }, { on := 1, ground := Ground.data }, { on := 2, ground := Ground.data }], guard := none }) rfl (fun K hK => ?_) AllReadyH.nil
  go_simp
  go_at_call 19; have hq := CY.out _ (by assumption); (with_reducible refine hq.mono ?_); clear hq; rintro e wy ⟨ky, gy, rfl, hr, hg, hk⟩; have hzy := Lib.hid (Kept.refl [] wy); have hdy : Hid (Kept [] w12 wy) := Lib.hid (Kept.trans (Hid.out (by assumption)) hk (by simp)); have hsy := Lib.hid hk; have hvy := Lib.hid (fun W (hW : Hid (Kept [] wy W)) => conv_row (hr.kept hW.out (by simp)) rfl); clear hr hg hk
  go_wp2_with fail
  refine hK.out _ _ (by (try dsimp only); exact LYX.out _ (Hid.out (by assumption))) (fun hHeld => ?_)
  clear hK K
  try simp only [Act.put, List.setIfInBounds_toArray, List.set_cons_zero, List.set_cons_succ]
  refine wpAnyH_ready (rs := [4, 8]) (by kernel_rfl) (by simp) ?_
  refine AllReadyH.cons (o := { dst := some 109, op := Op.convert 22 9 (Operand.tmp 108), type := 9, pos := "laws.go:156", after := #[{ on := 3, ground := Ground.data }], guard := none }) rfl (fun K hK => ?_) (AllReadyH.cons (o := { dst := some 113, op := Op.call { callee := Callee.value (Operand.func 19), args := #[Operand.tmp 110, Operand.tmp 111, Operand.tmp 112], argTypes := #[3, 28, 54] }, type := 22, pos := "laws.go:156", after := #[{ on := 5, ground := Ground.data }, { on := 6, ground := Ground.data }, { on := 7, ground := Ground.data }, { on := 3, ground := Ground.chain }], guard := none }) rfl (fun K hK => ?_) AllReadyH.nil)
  ·
    (first | have hq := hvy.out wx (by assumption) | have hq := hvy.out wy (by assumption))
    go_simp
    refine hK.out _ _ (by (try dsimp only); exact LYX.out _ (Hid.out (by assumption))) (fun hHeld => ?_)
    clear hK K
    try simp only [Act.put, List.setIfInBounds_toArray, List.set_cons_zero, List.set_cons_succ]
    refine wpAnyH_ready (rs := [8]) (by kernel_rfl) (by simp) ?_
    refine AllReadyH.cons (o := { dst := some 113, op := Op.call { callee := Callee.value (Operand.func 19), args := #[Operand.tmp 110, Operand.tmp 111, Operand.tmp 112], argTypes := #[3, 28, 54] }, type := 22, pos := "laws.go:156", after := #[{ on := 5, ground := Ground.data }, { on := 6, ground := Ground.data }, { on := 7, ground := Ground.data }, { on := 3, ground := Ground.chain }], guard := none }) rfl (fun K hK => ?_) AllReadyH.nil
    go_simp
    go_at_call 19; have hq := CX.out _ (by assumption); (with_reducible refine hq.mono ?_); clear hq; rintro e wx ⟨kx, gx, rfl, hr, hg, hk⟩; have hzx := Lib.hid (Kept.refl [] wx); have hdx : Hid (Kept [] w12 wx) := Lib.hid (Kept.trans (Hid.out (by assumption)) hk (by simp)); have hsx := Lib.hid hk; have hvx := Lib.hid (fun W (hW : Hid (Kept [] wx W)) => conv_row (hr.kept hW.out (by simp)) rfl); clear hr hg hk
    go_wp2_with fail
    refine hK.out _ _ (by (try dsimp only); exact LYX.out _ (Hid.out (by assumption))) (fun hHeld => ?_)
    clear hK K
    try simp only [Act.put, List.setIfInBounds_toArray, List.set_cons_zero, List.set_cons_succ]
    refine wpAnyH_ready (rs := [9]) (by kernel_rfl) (by simp) ?_
    refine AllReadyH.cons (o := { dst := some 114, op := Op.convert 22 9 (Operand.tmp 113), type := 9, pos := "laws.go:156", after := #[{ on := 8, ground := Ground.data }], guard := none }) rfl (fun K hK => ?_) AllReadyH.nil
    (first | have hq := hvx.out wy (by assumption) | have hq := hvx.out wx (by assumption))
    go_simp
    refine hK.out _ _ (by (try dsimp only); exact LYX.out _ (Hid.out (by assumption))) (fun hHeld => ?_)
    clear hK K
    try simp only [Act.put, List.setIfInBounds_toArray, List.set_cons_zero, List.set_cons_succ]
    refine wpAnyH_take (i := 10) (oi := { dst := some 115, op := Op.binOp BinOp.eql 9 (Operand.tmp 109) (Operand.tmp 114) 9, type := 4, pos := "laws.go:156", after := #[{ on := 4, ground := Ground.data }, { on := 9, ground := Ground.data }], guard := none }) (v := ?_) rfl (by kernel_rfl) (by kernel_rfl) (by kernel_rfl) (fun _ _ _ h => h) (Or.inl ⟨by rfl, ?_⟩) (by assumption) ?_
    rotate_left
    · intro w hSw; (try dsimp only at hSw); go_simp; try with_reducible rfl
    try simp only [Act.put, List.setIfInBounds_toArray, List.set_cons_zero, List.set_cons_succ]
    refine wpAnyH_take (i := 11) (oi := { dst := some 116, op := Op.move (Operand.tmp 115), type := 4, pos := "laws.go:156", after := #[{ on := 10, ground := Ground.data }, { on := 8, ground := Ground.chain }], guard := none }) (v := ?_) rfl (by kernel_rfl) (by kernel_rfl) (by kernel_rfl) (fun _ _ _ h => h) (Or.inl ⟨by rfl, ?_⟩) (by assumption) ?_
    rotate_left
    · intro w hSw; (try dsimp only at hSw); go_simp; try with_reducible rfl
    try simp only [Act.put, List.setIfInBounds_toArray, List.set_cons_zero, List.set_cons_succ]
    refine wpAnyH_ready (rs := [12]) (by kernel_rfl) (by simp) ?_
    refine AllReadyH.cons (o := { dst := some 117, op := Op.call { callee := Callee.value (Operand.func 7), args := #[], argTypes := #[] }, type := 4, pos := "laws.go:156", after := #[{ on := 11, ground := Ground.chain }, { on := 11, ground := Ground.guard }], guard := some (11, true) }) rfl (fun K hK => ?_) AllReadyH.nil
    go_simp
    go_at_call 7; (with_reducible refine (works_any _).mono ?_); rintro e wz ⟨rfl, hk⟩; have hdz : Hid (Kept [] w12 wz) := Lib.hid (Kept.trans (Hid.out (by assumption)) hk (by simp)); clear hk
    go_wp2_with fail
    refine hK.out _ _ (by (try dsimp only); exact LYX.out _ (Hid.out (by assumption))) (fun hHeld => ?_)
    clear hK K
    try simp only [Act.put, List.setIfInBounds_toArray, List.set_cons_zero, List.set_cons_succ]
    refine wpAnyH_take (i := 13) (oi := { dst := some 118, op := Op.pick (Operand.tmp 116) (Operand.tmp 117) (Operand.const (Value.bool false)), type := 4, pos := "laws.go:156", after := #[{ on := 11, ground := Ground.data }, { on := 12, ground := Ground.data }], guard := none }) (v := ?_) rfl (by kernel_rfl) (by kernel_rfl) (by kernel_rfl) (fun _ _ _ h => h) (Or.inl ⟨by rfl, ?_⟩) (by assumption) ?_
    rotate_left
    · intro w hSw; (try dsimp only at hSw); go_simp; try with_reducible rfl
    try simp only [Act.put, List.setIfInBounds_toArray, List.set_cons_zero, List.set_cons_succ]
    refine wpAnyH_take (i := 14) (oi := { dst := some 8, op := Op.assign (Operand.tmp 118), type := 4, pos := "laws.go:156", after := #[{ on := 13, ground := Ground.data }, { on := 12, ground := Ground.chain }, { on := 0, ground := Ground.phase }, { on := 1, ground := Ground.phase }, { on := 2, ground := Ground.phase }, { on := 3, ground := Ground.phase }, { on := 4, ground := Ground.phase }, { on := 5, ground := Ground.phase }, { on := 6, ground := Ground.phase }, { on := 7, ground := Ground.phase }, { on := 8, ground := Ground.phase }, { on := 9, ground := Ground.phase }, { on := 10, ground := Ground.phase }, { on := 11, ground := Ground.phase }, { on := 12, ground := Ground.phase }, { on := 13, ground := Ground.phase }], guard := none }) (v := ?_) rfl (by kernel_rfl) (by kernel_rfl) (by kernel_rfl) (fun _ _ _ h => h) (Or.inl ⟨by rfl, ?_⟩) (by assumption) ?_
    rotate_left
    · intro w hSw; (try dsimp only at hSw); go_simp; try with_reducible rfl
    try simp only [Act.put, List.setIfInBounds_toArray, List.set_cons_zero, List.set_cons_succ]
    refine wpAnyH_done (by kernel_rfl) ?_ _
    refine NoPanic.normal ?_
    go_wp2_with fail
    go_ret
    exact ⟨rfl, HE.out.trans hdz.out (by simp)⟩
  ·
    go_simp
    go_at_call 19; have hq := CX.out _ (by assumption); (with_reducible refine hq.mono ?_); clear hq; rintro e wx ⟨kx, gx, rfl, hr, hg, hk⟩; have hzx := Lib.hid (Kept.refl [] wx); have hdx : Hid (Kept [] w12 wx) := Lib.hid (Kept.trans (Hid.out (by assumption)) hk (by simp)); have hsx := Lib.hid hk; have hvx := Lib.hid (fun W (hW : Hid (Kept [] wx W)) => conv_row (hr.kept hW.out (by simp)) rfl); clear hr hg hk
    go_wp2_with fail
    refine hK.out _ _ (by (try dsimp only); exact LYX.out _ (Hid.out (by assumption))) (fun hHeld => ?_)
    clear hK K
    try simp only [Act.put, List.setIfInBounds_toArray, List.set_cons_zero, List.set_cons_succ]
    refine wpAnyH_ready (rs := [4, 9]) (by kernel_rfl) (by simp) ?_
    refine AllReadyH.cons (o := { dst := some 109, op := Op.convert 22 9 (Operand.tmp 108), type := 9, pos := "laws.go:156", after := #[{ on := 3, ground := Ground.data }], guard := none }) rfl (fun K hK => ?_) (AllReadyH.cons (o := { dst := some 114, op := Op.convert 22 9 (Operand.tmp 113), type := 9, pos := "laws.go:156", after := #[{ on := 8, ground := Ground.data }], guard := none }) rfl (fun K hK => ?_) AllReadyH.nil)
    ·
      (first | have hq := hvy.out wx (by assumption) | have hq := hvy.out wy (by assumption))
      go_simp
      refine hK.out _ _ (by (try dsimp only); exact LYX.out _ (Hid.out (by assumption))) (fun hHeld => ?_)
      clear hK K
      try simp only [Act.put, List.setIfInBounds_toArray, List.set_cons_zero, List.set_cons_succ]
      refine wpAnyH_ready (rs := [9]) (by kernel_rfl) (by simp) ?_
      refine AllReadyH.cons (o := { dst := some 114, op := Op.convert 22 9 (Operand.tmp 113), type := 9, pos := "laws.go:156", after := #[{ on := 8, ground := Ground.data }], guard := none }) rfl (fun K hK => ?_) AllReadyH.nil
      (first | have hq := hvx.out wy (by assumption) | have hq := hvx.out wx (by assumption))
      go_simp
      refine hK.out _ _ (by (try dsimp only); exact LYX.out _ (Hid.out (by assumption))) (fun hHeld => ?_)
      clear hK K
      try simp only [Act.put, List.setIfInBounds_toArray, List.set_cons_zero, List.set_cons_succ]
      refine wpAnyH_take (i := 10) (oi := { dst := some 115, op := Op.binOp BinOp.eql 9 (Operand.tmp 109) (Operand.tmp 114) 9, type := 4, pos := "laws.go:156", after := #[{ on := 4, ground := Ground.data }, { on := 9, ground := Ground.data }], guard := none }) (v := ?_) rfl (by kernel_rfl) (by kernel_rfl) (by kernel_rfl) (fun _ _ _ h => h) (Or.inl ⟨by rfl, ?_⟩) (by assumption) ?_
      rotate_left
      · intro w hSw; (try dsimp only at hSw); go_simp; try with_reducible rfl
      try simp only [Act.put, List.setIfInBounds_toArray, List.set_cons_zero, List.set_cons_succ]
      refine wpAnyH_take (i := 11) (oi := { dst := some 116, op := Op.move (Operand.tmp 115), type := 4, pos := "laws.go:156", after := #[{ on := 10, ground := Ground.data }, { on := 8, ground := Ground.chain }], guard := none }) (v := ?_) rfl (by kernel_rfl) (by kernel_rfl) (by kernel_rfl) (fun _ _ _ h => h) (Or.inl ⟨by rfl, ?_⟩) (by assumption) ?_
      rotate_left
      · intro w hSw; (try dsimp only at hSw); go_simp; try with_reducible rfl
      try simp only [Act.put, List.setIfInBounds_toArray, List.set_cons_zero, List.set_cons_succ]
      refine wpAnyH_ready (rs := [12]) (by kernel_rfl) (by simp) ?_
      refine AllReadyH.cons (o := { dst := some 117, op := Op.call { callee := Callee.value (Operand.func 7), args := #[], argTypes := #[] }, type := 4, pos := "laws.go:156", after := #[{ on := 11, ground := Ground.chain }, { on := 11, ground := Ground.guard }], guard := some (11, true) }) rfl (fun K hK => ?_) AllReadyH.nil
      go_simp
      go_at_call 7; (with_reducible refine (works_any _).mono ?_); rintro e wz ⟨rfl, hk⟩; have hdz : Hid (Kept [] w12 wz) := Lib.hid (Kept.trans (Hid.out (by assumption)) hk (by simp)); clear hk
      go_wp2_with fail
      refine hK.out _ _ (by (try dsimp only); exact LYX.out _ (Hid.out (by assumption))) (fun hHeld => ?_)
      clear hK K
      try simp only [Act.put, List.setIfInBounds_toArray, List.set_cons_zero, List.set_cons_succ]
      refine wpAnyH_take (i := 13) (oi := { dst := some 118, op := Op.pick (Operand.tmp 116) (Operand.tmp 117) (Operand.const (Value.bool false)), type := 4, pos := "laws.go:156", after := #[{ on := 11, ground := Ground.data }, { on := 12, ground := Ground.data }], guard := none }) (v := ?_) rfl (by kernel_rfl) (by kernel_rfl) (by kernel_rfl) (fun _ _ _ h => h) (Or.inl ⟨by rfl, ?_⟩) (by assumption) ?_
      rotate_left
      · intro w hSw; (try dsimp only at hSw); go_simp; try with_reducible rfl
      try simp only [Act.put, List.setIfInBounds_toArray, List.set_cons_zero, List.set_cons_succ]
      refine wpAnyH_take (i := 14) (oi := { dst := some 8, op := Op.assign (Operand.tmp 118), type := 4, pos := "laws.go:156", after := #[{ on := 13, ground := Ground.data }, { on := 12, ground := Ground.chain }, { on := 0, ground := Ground.phase }, { on := 1, ground := Ground.phase }, { on := 2, ground := Ground.phase }, { on := 3, ground := Ground.phase }, { on := 4, ground := Ground.phase }, { on := 5, ground := Ground.phase }, { on := 6, ground := Ground.phase }, { on := 7, ground := Ground.phase }, { on := 8, ground := Ground.phase }, { on := 9, ground := Ground.phase }, { on := 10, ground := Ground.phase }, { on := 11, ground := Ground.phase }, { on := 12, ground := Ground.phase }, { on := 13, ground := Ground.phase }], guard := none }) (v := ?_) rfl (by kernel_rfl) (by kernel_rfl) (by kernel_rfl) (fun _ _ _ h => h) (Or.inl ⟨by rfl, ?_⟩) (by assumption) ?_
      rotate_left
      · intro w hSw; (try dsimp only at hSw); go_simp; try with_reducible rfl
      try simp only [Act.put, List.setIfInBounds_toArray, List.set_cons_zero, List.set_cons_succ]
      refine wpAnyH_done (by kernel_rfl) ?_ _
      refine NoPanic.normal ?_
      go_wp2_with fail
      go_ret
      exact ⟨rfl, HE.out.trans hdz.out (by simp)⟩
    ·
      (first | have hq := hvx.out wy (by assumption) | have hq := hvx.out wx (by assumption))
      go_simp
      refine hK.out _ _ (by (try dsimp only); exact LYX.out _ (Hid.out (by assumption))) (fun hHeld => ?_)
      clear hK K
      try simp only [Act.put, List.setIfInBounds_toArray, List.set_cons_zero, List.set_cons_succ]
      refine wpAnyH_ready (rs := [4]) (by kernel_rfl) (by simp) ?_
      refine AllReadyH.cons (o := { dst := some 109, op := Op.convert 22 9 (Operand.tmp 108), type := 9, pos := "laws.go:156", after := #[{ on := 3, ground := Ground.data }], guard := none }) rfl (fun K hK => ?_) AllReadyH.nil
      (first | have hq := hvy.out wx (by assumption) | have hq := hvy.out wy (by assumption))
      go_simp
      refine hK.out _ _ (by (try dsimp only); exact LYX.out _ (Hid.out (by assumption))) (fun hHeld => ?_)
      clear hK K
      try simp only [Act.put, List.setIfInBounds_toArray, List.set_cons_zero, List.set_cons_succ]
      refine wpAnyH_take (i := 10) (oi := { dst := some 115, op := Op.binOp BinOp.eql 9 (Operand.tmp 109) (Operand.tmp 114) 9, type := 4, pos := "laws.go:156", after := #[{ on := 4, ground := Ground.data }, { on := 9, ground := Ground.data }], guard := none }) (v := ?_) rfl (by kernel_rfl) (by kernel_rfl) (by kernel_rfl) (fun _ _ _ h => h) (Or.inl ⟨by rfl, ?_⟩) (by assumption) ?_
      rotate_left
      · intro w hSw; (try dsimp only at hSw); go_simp; try with_reducible rfl
      try simp only [Act.put, List.setIfInBounds_toArray, List.set_cons_zero, List.set_cons_succ]
      refine wpAnyH_take (i := 11) (oi := { dst := some 116, op := Op.move (Operand.tmp 115), type := 4, pos := "laws.go:156", after := #[{ on := 10, ground := Ground.data }, { on := 8, ground := Ground.chain }], guard := none }) (v := ?_) rfl (by kernel_rfl) (by kernel_rfl) (by kernel_rfl) (fun _ _ _ h => h) (Or.inl ⟨by rfl, ?_⟩) (by assumption) ?_
      rotate_left
      · intro w hSw; (try dsimp only at hSw); go_simp; try with_reducible rfl
      try simp only [Act.put, List.setIfInBounds_toArray, List.set_cons_zero, List.set_cons_succ]
      refine wpAnyH_ready (rs := [12]) (by kernel_rfl) (by simp) ?_
      refine AllReadyH.cons (o := { dst := some 117, op := Op.call { callee := Callee.value (Operand.func 7), args := #[], argTypes := #[] }, type := 4, pos := "laws.go:156", after := #[{ on := 11, ground := Ground.chain }, { on := 11, ground := Ground.guard }], guard := some (11, true) }) rfl (fun K hK => ?_) AllReadyH.nil
      go_simp
      go_at_call 7; (with_reducible refine (works_any _).mono ?_); rintro e wz ⟨rfl, hk⟩; have hdz : Hid (Kept [] w12 wz) := Lib.hid (Kept.trans (Hid.out (by assumption)) hk (by simp)); clear hk
      go_wp2_with fail
      refine hK.out _ _ (by (try dsimp only); exact LYX.out _ (Hid.out (by assumption))) (fun hHeld => ?_)
      clear hK K
      try simp only [Act.put, List.setIfInBounds_toArray, List.set_cons_zero, List.set_cons_succ]
      refine wpAnyH_take (i := 13) (oi := { dst := some 118, op := Op.pick (Operand.tmp 116) (Operand.tmp 117) (Operand.const (Value.bool false)), type := 4, pos := "laws.go:156", after := #[{ on := 11, ground := Ground.data }, { on := 12, ground := Ground.data }], guard := none }) (v := ?_) rfl (by kernel_rfl) (by kernel_rfl) (by kernel_rfl) (fun _ _ _ h => h) (Or.inl ⟨by rfl, ?_⟩) (by assumption) ?_
      rotate_left
      · intro w hSw; (try dsimp only at hSw); go_simp; try with_reducible rfl
      try simp only [Act.put, List.setIfInBounds_toArray, List.set_cons_zero, List.set_cons_succ]
      refine wpAnyH_take (i := 14) (oi := { dst := some 8, op := Op.assign (Operand.tmp 118), type := 4, pos := "laws.go:156", after := #[{ on := 13, ground := Ground.data }, { on := 12, ground := Ground.chain }, { on := 0, ground := Ground.phase }, { on := 1, ground := Ground.phase }, { on := 2, ground := Ground.phase }, { on := 3, ground := Ground.phase }, { on := 4, ground := Ground.phase }, { on := 5, ground := Ground.phase }, { on := 6, ground := Ground.phase }, { on := 7, ground := Ground.phase }, { on := 8, ground := Ground.phase }, { on := 9, ground := Ground.phase }, { on := 10, ground := Ground.phase }, { on := 11, ground := Ground.phase }, { on := 12, ground := Ground.phase }, { on := 13, ground := Ground.phase }], guard := none }) (v := ?_) rfl (by kernel_rfl) (by kernel_rfl) (by kernel_rfl) (fun _ _ _ h => h) (Or.inl ⟨by rfl, ?_⟩) (by assumption) ?_
      rotate_left
      · intro w hSw; (try dsimp only at hSw); go_simp; try with_reducible rfl
      try simp only [Act.put, List.setIfInBounds_toArray, List.set_cons_zero, List.set_cons_succ]
      refine wpAnyH_done (by kernel_rfl) ?_ _
      refine NoPanic.normal ?_
      go_wp2_with fail
      go_ret
      exact ⟨rfl, HE.out.trans hdz.out (by simp)⟩
end Go.Proofs.YtkcdakohmfodjaaGreat
