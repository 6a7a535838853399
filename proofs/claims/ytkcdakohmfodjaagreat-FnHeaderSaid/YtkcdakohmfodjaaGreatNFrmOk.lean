/-
  Lemmas on the way to the statement of YtkcdakohmfodjaaGreatHeader, joined out of these texts: FrmOk, ConvS, Open, Rfw, Tree. No condition.
-/
import Derived.ChangeArms
import Derived.Laws.IdiomStrings
import Derived.SizedLaws
import Derived.Test.YtkcdakohmfodjaaGreatNConv
import Derived.Test.YtkcdakohmfodjaaGreatNFrm
import Derived.Test.YtkcdakohmfodjaaGreatNRfv
import Derived.Test.YtkcdakohmfodjaaGreatNTexts
namespace Go.Proofs.YtkcdakohmfodjaaGreat
open Go.RowKit
set_option linter.unusedVariables false
set_option linter.unusedSimpArgs false
set_option maxHeartbeats 1000000 in
set_option maxRecDepth 100000 in
theorem frame_ok_2 (rr mb b d : Nat) (c0 c1 s0 s1 s2 s3 : UInt8) (rest rest' : List UInt8) (w : World) (h : RS w rr mb b d (2 :: c0 :: c1 :: s0 :: s1 :: s2 :: s3 :: rest)) (hl : Small (rest.length + 7)) (hl' : Small (rest'.length + 1))
    (R : Value → World → Prop) (hR : ∀ F w1 w2, R F w1 → Kept [w.heap.size, b] w1 w2 → R F w2)
    (hp : ∀ w2, RS w2 rr mb b d rest → w.heap.size < w2.heap.size → Calls Tryz.prog 61 #[.pointer (some ⟨rr, 0, none⟩), .int .u16 (Lib.beNat [c0, c1] : Nat), .int .u32 (Lib.beNat [s0, s1, s2, s3] : Nat)] w2 fun e w' =>
      ∃ F, e = .returned (.tuple #[F, .nilIface]) ∧ Parsed rr mb b d (206 :: rest') R F w2 w') :
    Calls Tryz.prog 43 #[.pointer (some ⟨rr, 0, none⟩)] w fun e w' => ∃ F, e = .returned (.tuple #[F, .nilIface]) ∧ RS w' rr mb b d rest' ∧ Kept [b] w w' ∧ R F w' := by
  have hr0 : w.cell? ⟨rr, 0, none⟩ = some (.iface 111 (.pointer (some ⟨b, 0, none⟩))) := h.blk.cell 0
  have hlt : rr < w.heap.size := h.blk.lt
  have hmt : mb < w.heap.size := h.max.lt
  have hbt : b < w.heap.size := h.blt
  have hdt : d < w.heap.size := h.dlt
  have hc := head_read rr mb b d 2 c0 c1 s0 s1 s2 s3 rest w h hl
  generalize hsc : w.heap.size = sc at *
  have hsb : sc ≠ b := by omega
  have hsd : sc ≠ d := by omega
  have hsr : rr ≠ sc := by omega
  have hsm : mb ≠ sc := by omega
  have HC := Lib.hid hc; have HP := Lib.hid hp; have HR := Lib.hid hR; have HS := Lib.hid hsc; have HL := Lib.hid hl'
  clear hc h hp hR hl hbt hdt hl'
  go_enter Tryz.func43, Tryz.ntmps43
  go_wp2
  go_region_with (go_at_call 56; refine (HC.out 1).mono ?_; rintro e w1 ⟨rfl, hH⟩)
  obtain ⟨⟨q0, q1, q2, q3, q4, q5, q6⟩, r0, r1, r2⟩ := hH.facts
  have HH := Lib.hid hH; clear hH
  go_wp2_with (first
    | (go_at_call 57; refine HH.out.be16.mono ?_; rintro e w' ⟨rfl, k1, rfl⟩)
    | (go_at_call 58; refine (HH.out.be32 _).mono ?_; rintro e w' ⟨rfl, k2, rfl⟩)
    | (go_at_call 61; refine (HP.out _ (HH.out.2.1.kept (drewN_kept _ _ []) (by simp) (by simp) (by simp) (by simp)) (Nat.lt_of_lt_of_le (by have := HH.out.1.lt; exact this) (drewN_kept _ _ []).size)).mono ?_; rintro e w3 ⟨F, rfl, hF⟩; have hG := Parsed.later HH.out _ rfl hF hsb; have t0 := hG.1; have HG := Lib.hid hG.2; have HF := Lib.hid hF; clear hG hF))
  go_region_with (go_at_call 56; refine (tail_read sc rr mb b d 206 _ rest' w3 HF.out.rs HL.out HG.out.1 (by simp) hsb hsd hsr hsm 1).mono ?_; rintro e w4 ⟨rfl, hT1, hT2, hT3⟩)
  all_goals
    have HT := Lib.hid (And.intro hT1 hT2); clear hT1 hT2
    have t1 : w4.cell? ⟨sc, 0, none⟩ = some (.int .u8 206) := hT3
    clear hT3
    go_wp2
    go_ret2
    refine ⟨F, rfl, HT.out.1, ?_, HR.out F _ _ HF.out.res (HT.out.2.mono (by simp))⟩
    exact (HG.out.2.trans HT.out.2 (fun x hx => .inl hx)).mono (by simp [hsc])
/-- 'string(b)' of bytes, wherever they lie. -/
theorem conv_src (s : Value) (d : Nat) (m : List UInt8) (n : Nat) (hmn : m.length = n) (w : World) (hs : Src w s d m) (hsl : ∃ ao c, s = .slice ao n c) :
    (convert 22 9 s).run Tryz.prog w = .ok (.string ⟨m.toArray⟩) w := by
  subst hmn
  rcases hs with ⟨rfl, ao, c, rfl⟩ | ⟨ad, c, _, rfl, hcell⟩
  · cases ao with
    | none => exact run_convert_bytes_nil w _ _ Tryz.underlying22 Tryz.underlying5 0 c _ Tryz.underlying9
    | some ad => exact run_convert_bytes_back w _ _ _ ad c [] Tryz.underlying22 Tryz.underlying5 Tryz.underlying9 (fun j hj => by simp at hj)
  · refine run_convert_bytes_back w _ _ _ ad c m Tryz.underlying22 Tryz.underlying5 Tryz.underlying9 fun j hj => ?_
    exact hcell j _ (by rw [u8s_get, List.getElem?_eq_getElem hj]; rfl)
theorem conv_row {w : World} {g n c : Nat} {l : List UInt8} (h : Row w (.slice (some ⟨g, 0, none⟩) n c) g l) (hn : l.length = n) : (convert 22 9 (.slice (some ⟨g, 0, none⟩) n c)).run Tryz.prog w = .ok (.string ⟨l.toArray⟩) w := by
  have := h.src n (by omega) c
  rw [List.take_of_length_le (by omega)] at this
  exact conv_src _ g l n hn w this ⟨_, _, rfl⟩
theorem u8_of (n : Int) (h : (Lit.int .u8 n).wf = true) : ∃ b : UInt8, n = (b.toNat : Int) := by
  have hx : 0 ≤ n ∧ n ≤ 255 := by simpa [Lit.wf, IntKind.min, IntKind.max, IntKind.signed, IntKind.bits] using h
  refine ⟨UInt8.ofNat n.toNat, ?_⟩
  rw [UInt8.toNat_ofNat', Nat.mod_eq_of_lt (by omega)]
  omega
theorem i64_of (n : Int) (h : (Lit.int .i64 n).wf = true) : -9223372036854775808 ≤ n ∧ n ≤ 9223372036854775807 := by
  simpa [Lit.wf, IntKind.min, IntKind.max, IntKind.signed, IntKind.bits] using h
set_option maxHeartbeats 1000000 in
set_option maxRecDepth 100000 in
theorem rfv_65 {w : World} {r : Value} {ps : List Nat} {d : Nat} {Ns : List Nat} (dep : Int) (h0 : 0 ≤ dep) (h1 : dep ≤ 1000) (body : List UInt8) (h : Rd w r ps d Ns (65 :: body)) (hl : body.length ≤ 900000000) (hav : 1 ≤ avail Ns (65 :: body)) (hd : d < w.heap.size) (Q : Value → World → Prop)
    (hc : ∀ W, Kept ps w W → Rd W r ps d (Ns.map (· - 1)) body → Calls Tryz.prog 177 #[r, .int .i64 (dep + 1)] W fun e w' => ∃ x, e = .returned (.tuple #[x, .nilIface]) ∧ Q x w') :
    Calls Tryz.prog 165 #[r, .int .i64 dep] w fun e w' => ∃ x, e = .returned (.tuple #[.iface 192 x, .nilIface]) ∧ Q x w' := by
  have HC := Lib.hid hc; clear hc
  have hdw : IntKind.i64.wrap (dep + 1) = dep + 1 := by rw [IntKind.wrap_i64]; omega
  have hka : Kept [] w (w.alloc (.cells #[.int .u8 0] 5)) := (Kept.refl [] w).alloc _
  have hb0 : Blk (w.alloc (.cells #[.int .u8 0] 5)) w.heap.size #[.int .u8 0] 5 := Blk.new w _ _
  have hgp : ∀ b, w.heap.size ≤ b → b ∉ ps := fun b hb hm => by have := h.mem_lt _ hm; omega
  have hav1 : avail (Ns.map (· - 1)) body = avail Ns (65 :: body) - 1 := avail_map Ns [65] body
  have hf := rfix_u8 [65] body rfl (h.kept hka (by simp) (by simp)) (by omega) (by simp only [List.cons_append, List.nil_append]; omega) (Nat.lt_of_lt_of_le hd hka.size) w.heap.size 0 _ hb0.cell0 (hb0.free 0) (hgp _ (Nat.le_refl _)) (by omega)
  rw [show Lib.beNat [65] = 65 from rfl] at hf
  have HF := Lib.hid hf; have H := Lib.hid (And.intro hka (And.intro hb0 (And.intro hgp (And.intro hav1 (And.intro hl (And.intro hd hav))))))
  clear hf hka hb0 hgp hav1 hl hav h hd
  go_enter Tryz.func165, Tryz.ntmps165
  go_upto_region 4 with (go_at_call 77; refine HF.out.mono ?_; rintro e w2 ⟨rfl, w1, k1, r1, rfl⟩)
  obtain ⟨ka, b0, gp, av, hl, hd, hav⟩ := H.out
  have hks : Kept [w.heap.size] w1 (w1.setCell ⟨w.heap.size, 0, none⟩ (.int .u8 65)) := (Kept.refl _ w1).setCell (by simp) _
  have hr2 := r1.kept hks (fun p hp e => gp w.heap.size (Nat.le_refl _) (by simp at e; rw [← e]; exact hp)) (by simp; omega)
  have hb2 : Blk (w1.setCell ⟨w.heap.size, 0, none⟩ (.int .u8 65)) w.heap.size #[.int .u8 65] 5 := (b0.kept k1 (gp w.heap.size (Nat.le_refl _))).setCell 0 _
  have hk2 : Kept ps w (w1.setCell ⟨w.heap.size, 0, none⟩ (.int .u8 65)) := ((ka.mono (by simp)).trans k1 (fun x hx => .inl hx)).trans hks (by simp)
  change Code.wp _ _ _ _ (w1.setCell ⟨w.heap.size, 0, none⟩ (.int .u8 65))
  generalize w1.setCell ⟨w.heap.size, 0, none⟩ (.int .u8 65) = w3 at hr2 hb2 hk2 ⊢
  have c0 := hb2.cell0
  have HR := Lib.hid (HC.out w3 hk2 hr2)
  clear hk2 hr2 hb2 hks r1 k1 ka b0 gp av hl hd
  go_wp2_with (go_at_call 177; refine HR.out.mono ?_; rintro e w2 ⟨x, rfl, hq⟩; have HQ := Lib.hid hq; clear hq)
  go_ret2
  exact ⟨_, rfl, HQ.out⟩
set_option maxHeartbeats 1000000 in
set_option maxRecDepth 100000 in
theorem rfv_70 {w : World} {r : Value} {ps : List Nat} {d : Nat} {Ns : List Nat} (dep : Int) (h0 : 0 ≤ dep) (h1 : dep ≤ 1000) (body : List UInt8) (h : Rd w r ps d Ns (70 :: body)) (hl : body.length ≤ 900000000) (hav : 1 ≤ avail Ns (70 :: body)) (hd : d < w.heap.size) (Q : Value → World → Prop)
    (hc : ∀ W, Kept ps w W → Rd W r ps d (Ns.map (· - 1)) body → Calls Tryz.prog 158 #[r, .int .i64 (dep + 1)] W fun e w' => ∃ x, e = .returned (.tuple #[x, .nilIface]) ∧ Q x w') :
    Calls Tryz.prog 165 #[r, .int .i64 dep] w fun e w' => ∃ x, e = .returned (.tuple #[.iface 96 x, .nilIface]) ∧ Q x w' := by
  have HC := Lib.hid hc; clear hc
  have hdw : IntKind.i64.wrap (dep + 1) = dep + 1 := by rw [IntKind.wrap_i64]; omega
  have hka : Kept [] w (w.alloc (.cells #[.int .u8 0] 5)) := (Kept.refl [] w).alloc _
  have hb0 : Blk (w.alloc (.cells #[.int .u8 0] 5)) w.heap.size #[.int .u8 0] 5 := Blk.new w _ _
  have hgp : ∀ b, w.heap.size ≤ b → b ∉ ps := fun b hb hm => by have := h.mem_lt _ hm; omega
  have hav1 : avail (Ns.map (· - 1)) body = avail Ns (70 :: body) - 1 := avail_map Ns [70] body
  have hf := rfix_u8 [70] body rfl (h.kept hka (by simp) (by simp)) (by omega) (by simp only [List.cons_append, List.nil_append]; omega) (Nat.lt_of_lt_of_le hd hka.size) w.heap.size 0 _ hb0.cell0 (hb0.free 0) (hgp _ (Nat.le_refl _)) (by omega)
  rw [show Lib.beNat [70] = 70 from rfl] at hf
  have HF := Lib.hid hf; have H := Lib.hid (And.intro hka (And.intro hb0 (And.intro hgp (And.intro hav1 (And.intro hl (And.intro hd hav))))))
  clear hf hka hb0 hgp hav1 hl hav h hd
  go_enter Tryz.func165, Tryz.ntmps165
  go_upto_region 4 with (go_at_call 77; refine HF.out.mono ?_; rintro e w2 ⟨rfl, w1, k1, r1, rfl⟩)
  obtain ⟨ka, b0, gp, av, hl, hd, hav⟩ := H.out
  have hks : Kept [w.heap.size] w1 (w1.setCell ⟨w.heap.size, 0, none⟩ (.int .u8 70)) := (Kept.refl _ w1).setCell (by simp) _
  have hr2 := r1.kept hks (fun p hp e => gp w.heap.size (Nat.le_refl _) (by simp at e; rw [← e]; exact hp)) (by simp; omega)
  have hb2 : Blk (w1.setCell ⟨w.heap.size, 0, none⟩ (.int .u8 70)) w.heap.size #[.int .u8 70] 5 := (b0.kept k1 (gp w.heap.size (Nat.le_refl _))).setCell 0 _
  have hk2 : Kept ps w (w1.setCell ⟨w.heap.size, 0, none⟩ (.int .u8 70)) := ((ka.mono (by simp)).trans k1 (fun x hx => .inl hx)).trans hks (by simp)
  change Code.wp _ _ _ _ (w1.setCell ⟨w.heap.size, 0, none⟩ (.int .u8 70))
  generalize w1.setCell ⟨w.heap.size, 0, none⟩ (.int .u8 70) = w3 at hr2 hb2 hk2 ⊢
  have c0 := hb2.cell0
  have HR := Lib.hid (HC.out w3 hk2 hr2)
  clear hk2 hr2 hb2 hks r1 k1 ka b0 gp av hl hd
  go_wp2_with (go_at_call 158; refine HR.out.mono ?_; rintro e w2 ⟨x, rfl, hq⟩; have HQ := Lib.hid hq; clear hq)
  go_ret2
  exact ⟨_, rfl, HQ.out⟩
set_option maxHeartbeats 1000000 in
set_option maxRecDepth 100000 in
theorem rfv_83 {w : World} {r : Value} {ps : List Nat} {d : Nat} {Ns : List Nat} (dep : Int) (h0 : 0 ≤ dep) (h1 : dep ≤ 1000) (body : List UInt8) (h : Rd w r ps d Ns (83 :: body)) (hl : body.length ≤ 900000000) (hav : 1 ≤ avail Ns (83 :: body)) (hd : d < w.heap.size) (Q : Value → World → Prop)
    (hc : ∀ W, Kept ps w W → Rd W r ps d (Ns.map (· - 1)) body → Calls Tryz.prog 157 #[r] W fun e w' => ∃ x, e = .returned (.tuple #[x, .nilIface]) ∧ Q x w') :
    Calls Tryz.prog 165 #[r, .int .i64 dep] w fun e w' => ∃ x, e = .returned (.tuple #[.iface 9 x, .nilIface]) ∧ Q x w' := by
  have HC := Lib.hid hc; clear hc
  have hka : Kept [] w (w.alloc (.cells #[.int .u8 0] 5)) := (Kept.refl [] w).alloc _
  have hb0 : Blk (w.alloc (.cells #[.int .u8 0] 5)) w.heap.size #[.int .u8 0] 5 := Blk.new w _ _
  have hgp : ∀ b, w.heap.size ≤ b → b ∉ ps := fun b hb hm => by have := h.mem_lt _ hm; omega
  have hav1 : avail (Ns.map (· - 1)) body = avail Ns (83 :: body) - 1 := avail_map Ns [83] body
  have hf := rfix_u8 [83] body rfl (h.kept hka (by simp) (by simp)) (by omega) (by simp only [List.cons_append, List.nil_append]; omega) (Nat.lt_of_lt_of_le hd hka.size) w.heap.size 0 _ hb0.cell0 (hb0.free 0) (hgp _ (Nat.le_refl _)) (by omega)
  rw [show Lib.beNat [83] = 83 from rfl] at hf
  have HF := Lib.hid hf; have H := Lib.hid (And.intro hka (And.intro hb0 (And.intro hgp (And.intro hav1 (And.intro hl (And.intro hd hav))))))
  clear hf hka hb0 hgp hav1 hl hav h hd
  go_enter Tryz.func165, Tryz.ntmps165
  go_upto_region 4 with (go_at_call 77; refine HF.out.mono ?_; rintro e w2 ⟨rfl, w1, k1, r1, rfl⟩)
  obtain ⟨ka, b0, gp, av, hl, hd, hav⟩ := H.out
  have hks : Kept [w.heap.size] w1 (w1.setCell ⟨w.heap.size, 0, none⟩ (.int .u8 83)) := (Kept.refl _ w1).setCell (by simp) _
  have hr2 := r1.kept hks (fun p hp e => gp w.heap.size (Nat.le_refl _) (by simp at e; rw [← e]; exact hp)) (by simp; omega)
  have hb2 : Blk (w1.setCell ⟨w.heap.size, 0, none⟩ (.int .u8 83)) w.heap.size #[.int .u8 83] 5 := (b0.kept k1 (gp w.heap.size (Nat.le_refl _))).setCell 0 _
  have hk2 : Kept ps w (w1.setCell ⟨w.heap.size, 0, none⟩ (.int .u8 83)) := ((ka.mono (by simp)).trans k1 (fun x hx => .inl hx)).trans hks (by simp)
  change Code.wp _ _ _ _ (w1.setCell ⟨w.heap.size, 0, none⟩ (.int .u8 83))
  generalize w1.setCell ⟨w.heap.size, 0, none⟩ (.int .u8 83) = w3 at hr2 hb2 hk2 ⊢
  have c0 := hb2.cell0
  have HR := Lib.hid (HC.out w3 hk2 hr2)
  clear hk2 hr2 hb2 hks r1 k1 ka b0 gp av hl hd
  go_wp2_with (go_at_call 157; refine HR.out.mono ?_; rintro e w2 ⟨x, rfl, hq⟩; have HQ := Lib.hid hq; clear hq)
  go_ret2
  exact ⟨_, rfl, HQ.out⟩
set_option maxHeartbeats 1000000 in
set_option maxRecDepth 100000 in
theorem rfv_84 {w : World} {r : Value} {ps : List Nat} {d : Nat} {Ns : List Nat} (dep : Int) (h0 : 0 ≤ dep) (h1 : dep ≤ 1000) (body : List UInt8) (h : Rd w r ps d Ns (84 :: body)) (hl : body.length ≤ 900000000) (hav : 1 ≤ avail Ns (84 :: body)) (hd : d < w.heap.size) (Q : Value → World → Prop)
    (hc : ∀ W, Kept ps w W → Rd W r ps d (Ns.map (· - 1)) body → Calls Tryz.prog 146 #[r] W fun e w' => ∃ x, e = .returned (.tuple #[x, .nilIface]) ∧ Q x w') :
    Calls Tryz.prog 165 #[r, .int .i64 dep] w fun e w' => ∃ x, e = .returned (.tuple #[.iface 99 x, .nilIface]) ∧ Q x w' := by
  have HC := Lib.hid hc; clear hc
  have hka : Kept [] w (w.alloc (.cells #[.int .u8 0] 5)) := (Kept.refl [] w).alloc _
  have hb0 : Blk (w.alloc (.cells #[.int .u8 0] 5)) w.heap.size #[.int .u8 0] 5 := Blk.new w _ _
  have hgp : ∀ b, w.heap.size ≤ b → b ∉ ps := fun b hb hm => by have := h.mem_lt _ hm; omega
  have hav1 : avail (Ns.map (· - 1)) body = avail Ns (84 :: body) - 1 := avail_map Ns [84] body
  have hf := rfix_u8 [84] body rfl (h.kept hka (by simp) (by simp)) (by omega) (by simp only [List.cons_append, List.nil_append]; omega) (Nat.lt_of_lt_of_le hd hka.size) w.heap.size 0 _ hb0.cell0 (hb0.free 0) (hgp _ (Nat.le_refl _)) (by omega)
  rw [show Lib.beNat [84] = 84 from rfl] at hf
  have HF := Lib.hid hf; have H := Lib.hid (And.intro hka (And.intro hb0 (And.intro hgp (And.intro hav1 (And.intro hl (And.intro hd hav))))))
  clear hf hka hb0 hgp hav1 hl hav h hd
  go_enter Tryz.func165, Tryz.ntmps165
  go_upto_region 4 with (go_at_call 77; refine HF.out.mono ?_; rintro e w2 ⟨rfl, w1, k1, r1, rfl⟩)
  obtain ⟨ka, b0, gp, av, hl, hd, hav⟩ := H.out
  have hks : Kept [w.heap.size] w1 (w1.setCell ⟨w.heap.size, 0, none⟩ (.int .u8 84)) := (Kept.refl _ w1).setCell (by simp) _
  have hr2 := r1.kept hks (fun p hp e => gp w.heap.size (Nat.le_refl _) (by simp at e; rw [← e]; exact hp)) (by simp; omega)
  have hb2 : Blk (w1.setCell ⟨w.heap.size, 0, none⟩ (.int .u8 84)) w.heap.size #[.int .u8 84] 5 := (b0.kept k1 (gp w.heap.size (Nat.le_refl _))).setCell 0 _
  have hk2 : Kept ps w (w1.setCell ⟨w.heap.size, 0, none⟩ (.int .u8 84)) := ((ka.mono (by simp)).trans k1 (fun x hx => .inl hx)).trans hks (by simp)
  change Code.wp _ _ _ _ (w1.setCell ⟨w.heap.size, 0, none⟩ (.int .u8 84))
  generalize w1.setCell ⟨w.heap.size, 0, none⟩ (.int .u8 84) = w3 at hr2 hb2 hk2 ⊢
  have c0 := hb2.cell0
  have HR := Lib.hid (HC.out w3 hk2 hr2)
  clear hk2 hr2 hb2 hks r1 k1 ka b0 gp av hl hd
  go_wp2_with (go_at_call 146; refine HR.out.mono ?_; rintro e w2 ⟨x, rfl, hq⟩; have HQ := Lib.hid hq; clear hq)
  go_ret2
  exact ⟨_, rfl, HQ.out⟩
set_option maxHeartbeats 1000000 in
set_option maxRecDepth 100000 in
theorem rfv_68 {w : World} {r : Value} {ps : List Nat} {d : Nat} {Ns : List Nat} (dep : Int) (h0 : 0 ≤ dep) (h1 : dep ≤ 1000) (body : List UInt8) (h : Rd w r ps d Ns (68 :: body)) (hl : body.length ≤ 900000000) (hav : 1 ≤ avail Ns (68 :: body)) (hd : d < w.heap.size) (Q : Value → World → Prop)
    (hc : ∀ W, Kept ps w W → Rd W r ps d (Ns.map (· - 1)) body → Calls Tryz.prog 176 #[r] W fun e w' => ∃ x, e = .returned (.tuple #[x, .nilIface]) ∧ Q x w') :
    Calls Tryz.prog 165 #[r, .int .i64 dep] w fun e w' => ∃ x, e = .returned (.tuple #[.iface 191 x, .nilIface]) ∧ Q x w' := by
  have HC := Lib.hid hc; clear hc
  have hka : Kept [] w (w.alloc (.cells #[.int .u8 0] 5)) := (Kept.refl [] w).alloc _
  have hb0 : Blk (w.alloc (.cells #[.int .u8 0] 5)) w.heap.size #[.int .u8 0] 5 := Blk.new w _ _
  have hgp : ∀ b, w.heap.size ≤ b → b ∉ ps := fun b hb hm => by have := h.mem_lt _ hm; omega
  have hav1 : avail (Ns.map (· - 1)) body = avail Ns (68 :: body) - 1 := avail_map Ns [68] body
  have hf := rfix_u8 [68] body rfl (h.kept hka (by simp) (by simp)) (by omega) (by simp only [List.cons_append, List.nil_append]; omega) (Nat.lt_of_lt_of_le hd hka.size) w.heap.size 0 _ hb0.cell0 (hb0.free 0) (hgp _ (Nat.le_refl _)) (by omega)
  rw [show Lib.beNat [68] = 68 from rfl] at hf
  have HF := Lib.hid hf; have H := Lib.hid (And.intro hka (And.intro hb0 (And.intro hgp (And.intro hav1 (And.intro hl (And.intro hd hav))))))
  clear hf hka hb0 hgp hav1 hl hav h hd
  go_enter Tryz.func165, Tryz.ntmps165
  go_upto_region 4 with (go_at_call 77; refine HF.out.mono ?_; rintro e w2 ⟨rfl, w1, k1, r1, rfl⟩)
  obtain ⟨ka, b0, gp, av, hl, hd, hav⟩ := H.out
  have hks : Kept [w.heap.size] w1 (w1.setCell ⟨w.heap.size, 0, none⟩ (.int .u8 68)) := (Kept.refl _ w1).setCell (by simp) _
  have hr2 := r1.kept hks (fun p hp e => gp w.heap.size (Nat.le_refl _) (by simp at e; rw [← e]; exact hp)) (by simp; omega)
  have hb2 : Blk (w1.setCell ⟨w.heap.size, 0, none⟩ (.int .u8 68)) w.heap.size #[.int .u8 68] 5 := (b0.kept k1 (gp w.heap.size (Nat.le_refl _))).setCell 0 _
  have hk2 : Kept ps w (w1.setCell ⟨w.heap.size, 0, none⟩ (.int .u8 68)) := ((ka.mono (by simp)).trans k1 (fun x hx => .inl hx)).trans hks (by simp)
  change Code.wp _ _ _ _ (w1.setCell ⟨w.heap.size, 0, none⟩ (.int .u8 68))
  generalize w1.setCell ⟨w.heap.size, 0, none⟩ (.int .u8 68) = w3 at hr2 hb2 hk2 ⊢
  have c0 := hb2.cell0
  have HR := Lib.hid (HC.out w3 hk2 hr2)
  clear hk2 hr2 hb2 hks r1 k1 ka b0 gp av hl hd
  go_wp2_with (go_at_call 176; refine HR.out.mono ?_; rintro e w2 ⟨x, rfl, hq⟩; have HQ := Lib.hid hq; clear hq)
  go_ret2
  exact ⟨_, rfl, HQ.out⟩
set_option maxHeartbeats 1000000 in
set_option maxRecDepth 100000 in
theorem rfv_86 {w : World} {r : Value} {ps : List Nat} {d : Nat} {Ns : List Nat} (dep : Int) (body : List UInt8) (h : Rd w r ps d Ns (86 :: body)) (hl : body.length ≤ 900000000) (hav : 1 ≤ avail Ns (86 :: body)) (hd : d < w.heap.size) :
    Calls Tryz.prog 165 #[r, .int .i64 dep] w fun e w' => e = .returned (.tuple #[.nilIface, .nilIface]) ∧ Rd w' r ps d (Ns.map (· - 1)) body ∧ Kept ps w w' := by
  have hka : Kept [] w (w.alloc (.cells #[.int .u8 0] 5)) := (Kept.refl [] w).alloc _
  have hb0 : Blk (w.alloc (.cells #[.int .u8 0] 5)) w.heap.size #[.int .u8 0] 5 := Blk.new w _ _
  have hgp : ∀ b, w.heap.size ≤ b → b ∉ ps := fun b hb hm => by have := h.mem_lt _ hm; omega
  have hav1 : avail (Ns.map (· - 1)) body = avail Ns (86 :: body) - 1 := avail_map Ns [86] body
  have hf := rfix_u8 [86] body rfl (h.kept hka (by simp) (by simp)) (by omega) (by simp only [List.cons_append, List.nil_append]; omega) (Nat.lt_of_lt_of_le hd hka.size) w.heap.size 0 _ hb0.cell0 (hb0.free 0) (hgp _ (Nat.le_refl _)) (by omega)
  rw [show Lib.beNat [86] = 86 from rfl] at hf
  have HF := Lib.hid hf; have H := Lib.hid (And.intro hka (And.intro hb0 (And.intro hgp (And.intro hav1 (And.intro hl (And.intro hd hav))))))
  clear hf hka hb0 hgp hav1 hl hav h hd
  go_enter Tryz.func165, Tryz.ntmps165
  go_upto_region 4 with (go_at_call 77; refine HF.out.mono ?_; rintro e w2 ⟨rfl, w1, k1, r1, rfl⟩)
  obtain ⟨ka, b0, gp, av, hl, hd, hav⟩ := H.out
  have hks : Kept [w.heap.size] w1 (w1.setCell ⟨w.heap.size, 0, none⟩ (.int .u8 86)) := (Kept.refl _ w1).setCell (by simp) _
  have hr2 := r1.kept hks (fun p hp e => gp w.heap.size (Nat.le_refl _) (by simp at e; rw [← e]; exact hp)) (by simp; omega)
  have hb2 : Blk (w1.setCell ⟨w.heap.size, 0, none⟩ (.int .u8 86)) w.heap.size #[.int .u8 86] 5 := (b0.kept k1 (gp w.heap.size (Nat.le_refl _))).setCell 0 _
  have hk2 : Kept ps w (w1.setCell ⟨w.heap.size, 0, none⟩ (.int .u8 86)) := ((ka.mono (by simp)).trans k1 (fun x hx => .inl hx)).trans hks (by simp)
  change Code.wp _ _ _ _ (w1.setCell ⟨w.heap.size, 0, none⟩ (.int .u8 86))
  generalize w1.setCell ⟨w.heap.size, 0, none⟩ (.int .u8 86) = w3 at hr2 hb2 hk2 ⊢
  have c0 := hb2.cell0
  have HK := Lib.hid (And.intro hr2 hk2)
  clear hk2 hr2 hb2 hks r1 k1 ka b0 gp av hl hd
  go_wp2
  go_ret2
  exact ⟨rfl, HK.out⟩
set_option maxHeartbeats 1000000 in
set_option maxRecDepth 100000 in
theorem rfv_120 {w : World} {r : Value} {ps : List Nat} {d : Nat} {Ns : List Nat} (dep : Int) (s rest body : List UInt8) (hbody : body = Lib.beBytes 4 s.length ++ (s ++ rest)) (hs : s.length ≤ 65536) (h : Rd w r ps d Ns (120 :: body)) (hl : body.length ≤ 900000000) (hav : 5 + s.length ≤ avail Ns (120 :: body)) (hd : d < w.heap.size) :
    Calls Tryz.prog 165 #[r, .int .i64 dep] w fun e w' => ∃ g, e = .returned (.tuple #[.iface 22 (.slice (some ⟨g, 0, none⟩) s.length s.length), .nilIface]) ∧ w.heap.size ≤ g ∧ Blk w' g (u8s s).toArray 5 ∧ Rd w' r ps d (Ns.map (· - (5 + s.length))) rest ∧ Kept ps w w' := by
  have hka : Kept [] w (w.alloc (.cells #[.int .u8 0] 5)) := (Kept.refl [] w).alloc _
  have hb0 : Blk (w.alloc (.cells #[.int .u8 0] 5)) w.heap.size #[.int .u8 0] 5 := Blk.new w _ _
  have hgp : ∀ b, w.heap.size ≤ b → b ∉ ps := fun b hb hm => by have := h.mem_lt _ hm; omega
  have hav1 : avail (Ns.map (· - 1)) body = avail Ns (120 :: body) - 1 := avail_map Ns [120] body
  have hf := rfix_u8 [120] body rfl (h.kept hka (by simp) (by simp)) (by omega) (by simp only [List.cons_append, List.nil_append]; omega) (Nat.lt_of_lt_of_le hd hka.size) w.heap.size 0 _ hb0.cell0 (hb0.free 0) (hgp _ (Nat.le_refl _)) (by omega)
  rw [show Lib.beNat [120] = 120 from rfl] at hf
  have HF := Lib.hid hf; have H := Lib.hid (And.intro hka (And.intro hb0 (And.intro hgp (And.intro hav1 (And.intro hl (And.intro hd hav))))))
  clear hf hka hb0 hgp hav1 hl hav h hd
  go_enter Tryz.func165, Tryz.ntmps165
  go_upto_region 4 with (go_at_call 77; refine HF.out.mono ?_; rintro e w2 ⟨rfl, w1, k1, r1, rfl⟩)
  obtain ⟨ka, b0, gp, av, hl, hd, hav⟩ := H.out
  have hks : Kept [w.heap.size] w1 (w1.setCell ⟨w.heap.size, 0, none⟩ (.int .u8 120)) := (Kept.refl _ w1).setCell (by simp) _
  have hr2 := r1.kept hks (fun p hp e => gp w.heap.size (Nat.le_refl _) (by simp at e; rw [← e]; exact hp)) (by simp; omega)
  have hb2 : Blk (w1.setCell ⟨w.heap.size, 0, none⟩ (.int .u8 120)) w.heap.size #[.int .u8 120] 5 := (b0.kept k1 (gp w.heap.size (Nat.le_refl _))).setCell 0 _
  have hk2 : Kept ps w (w1.setCell ⟨w.heap.size, 0, none⟩ (.int .u8 120)) := ((ka.mono (by simp)).trans k1 (fun x hx => .inl hx)).trans hks (by simp)
  change Code.wp _ _ _ _ (w1.setCell ⟨w.heap.size, 0, none⟩ (.int .u8 120))
  generalize w1.setCell ⟨w.heap.size, 0, none⟩ (.int .u8 120) = w3 at hr2 hb2 hk2 ⊢
  have c0 := hb2.cell0
  subst hbody
  have hbl4 := Lib.beBytes_length 4 s.length
  have hrl : rest.length ≤ 900000000 := by simp only [List.length_append] at hl; omega
  have hkb : Kept [] w3 (w3.alloc (.cells #[.int .i32 0] 21)) := (Kept.refl [] w3).alloc _
  have hb3 : Blk (w3.alloc (.cells #[.int .i32 0] 21)) w3.heap.size #[.int .i32 0] 21 := Blk.new w3 _ _
  have hs3 := hk2.size
  have hg := rfix_i32 (Lib.beBytes 4 s.length) (s ++ rest) hbl4 (hr2.kept hkb (by simp) (by simp)) (by simp; omega) (by omega) (Nat.lt_of_lt_of_le hd (Nat.le_trans hk2.size hkb.size)) w3.heap.size 0 _ hb3.cell0 (hb3.free 0) (gp _ hs3) (by omega)
  have hw32 : IntKind.i32.wrap ((s.length : Nat) : Int) = (s.length : Int) := by rw [IntKind.wrap_i32]; omega
  rw [be_four s.length (by omega), hw32] at hg
  have hav2 : s.length ≤ avail ((Ns.map (· - 1)).map (· - 4)) (s ++ rest) := by
    have : avail ((Ns.map (· - 1)).map (· - (Lib.beBytes 4 s.length).length)) (s ++ rest) = avail (Ns.map (· - 1)) (Lib.beBytes 4 s.length ++ (s ++ rest)) - (Lib.beBytes 4 s.length).length := avail_map _ _ _
    rw [hbl4] at this
    omega
  have HR := Lib.hid hg; have HK := Lib.hid (And.intro hk2 (And.intro hkb (And.intro hb3 (And.intro (gp _ hs3) (And.intro (show w3.heap.size ≠ d by omega) (And.intro hav2 (And.intro hrl (And.intro hs (Nat.lt_of_lt_of_le hd hk2.size)))))))))
  have hcv : IntKind.i64.wrap ((s.length : Nat) : Int) = (s.length : Int) := by rw [IntKind.wrap_i64]; omega
  have hnn : ¬ ((s.length : Nat) : Int) < 0 := by omega
  clear hg hk2 hr2 hb2 hks r1 k1 ka b0 gp av hl hd hkb hb3 hs3 hav2 hrl hs hav hw32 hbl4
  go_wp2_with (first
    | (go_at_call 77; refine HR.out.mono ?_; rintro e w2 ⟨rfl, w4, k4, r4, rfl⟩; have hks : Kept [w3.heap.size] w4 (w4.setCell ⟨w3.heap.size, 0, none⟩ (.int .i32 (s.length : Int))) := (Kept.refl _ w4).setCell (by simp) _; have hb5 : Blk (w4.setCell ⟨w3.heap.size, 0, none⟩ (.int .i32 (s.length : Int))) w3.heap.size #[.int .i32 (s.length : Int)] 21 := (HK.out.2.2.1.kept k4 HK.out.2.2.2.1).setCell 0 _; have c5 := hb5.cell0; have hr5 := r4.kept hks (fun p hp e => HK.out.2.2.2.1 (by simp at e; rw [← e]; exact hp)) (by simpa using Ne.symm HK.out.2.2.2.2.1); have hk5 := ((HK.out.1.trans (HK.out.2.1.mono (by simp)) (fun x hx => .inl hx)).trans k4 (fun x hx => .inl hx)).trans hks (fun x hx => by simp at hx; subst hx; exact .inr HK.out.1.size); have hz5 := Nat.le_trans (Nat.le_trans HK.out.2.1.size k4.size) hks.size; have hrb := readBytes_le s rest hr5 HK.out.2.2.2.2.2.2.2.1 (Nat.le_trans HK.out.2.2.2.2.2.2.1 (by decide)) HK.out.2.2.2.2.2.1 (Nat.lt_of_lt_of_le HK.out.2.2.2.2.2.2.2.2 hz5); have H5 := Lib.hid (And.intro hrb hk5); clear hks hb5 k4 r4 hr5 hk5 hz5 hrb)
    | (go_at_call 148; refine H5.out.1.mono ?_; rintro e w6 ⟨g, rfl, g1, g2, g3, g4⟩; have H6 := Lib.hid (And.intro g1 (And.intro g2 (And.intro g3 g4))); clear g1 g2 g3 g4))
  go_ret2
  obtain ⟨g1, g2, g3, g4⟩ := H6.out
  refine ⟨_, rfl, Nat.le_trans H5.out.2.size g1, g2, ?_, H5.out.2.trans g4 (fun x hx => .inl hx)⟩
  rw [map_sub_sub, map_sub_sub, show 1 + (4 + s.length) = 5 + s.length by omega] at g3
  exact g3
set_option maxHeartbeats 1000000 in
set_option maxRecDepth 100000 in
theorem rfv_66 {w : World} {r : Value} {ps : List Nat} {d : Nat} {Ns : List Nat} (dep : Int) (b1 : UInt8) (rest body : List UInt8) (hbody : body = b1 :: rest) (h : Rd w r ps d Ns (66 :: body)) (hl : body.length ≤ 900000000) (hav : 2 ≤ avail Ns (66 :: body)) (hd : d < w.heap.size) :
    Calls Tryz.prog 165 #[r, .int .i64 dep] w fun e w' => e = .returned (.tuple #[.iface 5 (.int .u8 (b1.toNat : Int)), .nilIface]) ∧ Rd w' r ps d (Ns.map (· - 2)) rest ∧ Kept ps w w' := by
  have hka : Kept [] w (w.alloc (.cells #[.int .u8 0] 5)) := (Kept.refl [] w).alloc _
  have hb0 : Blk (w.alloc (.cells #[.int .u8 0] 5)) w.heap.size #[.int .u8 0] 5 := Blk.new w _ _
  have hgp : ∀ b, w.heap.size ≤ b → b ∉ ps := fun b hb hm => by have := h.mem_lt _ hm; omega
  have hav1 : avail (Ns.map (· - 1)) body = avail Ns (66 :: body) - 1 := avail_map Ns [66] body
  have hf := rfix_u8 [66] body rfl (h.kept hka (by simp) (by simp)) (by omega) (by simp only [List.cons_append, List.nil_append]; omega) (Nat.lt_of_lt_of_le hd hka.size) w.heap.size 0 _ hb0.cell0 (hb0.free 0) (hgp _ (Nat.le_refl _)) (by omega)
  rw [show Lib.beNat [66] = 66 from rfl] at hf
  have HF := Lib.hid hf; have H := Lib.hid (And.intro hka (And.intro hb0 (And.intro hgp (And.intro hav1 (And.intro hl (And.intro hd hav))))))
  clear hf hka hb0 hgp hav1 hl hav h hd
  go_enter Tryz.func165, Tryz.ntmps165
  go_upto_region 4 with (go_at_call 77; refine HF.out.mono ?_; rintro e w2 ⟨rfl, w1, k1, r1, rfl⟩)
  obtain ⟨ka, b0, gp, av, hl, hd, hav⟩ := H.out
  have hks : Kept [w.heap.size] w1 (w1.setCell ⟨w.heap.size, 0, none⟩ (.int .u8 66)) := (Kept.refl _ w1).setCell (by simp) _
  have hr2 := r1.kept hks (fun p hp e => gp w.heap.size (Nat.le_refl _) (by simp at e; rw [← e]; exact hp)) (by simp; omega)
  have hb2 : Blk (w1.setCell ⟨w.heap.size, 0, none⟩ (.int .u8 66)) w.heap.size #[.int .u8 66] 5 := (b0.kept k1 (gp w.heap.size (Nat.le_refl _))).setCell 0 _
  have hk2 : Kept ps w (w1.setCell ⟨w.heap.size, 0, none⟩ (.int .u8 66)) := ((ka.mono (by simp)).trans k1 (fun x hx => .inl hx)).trans hks (by simp)
  change Code.wp _ _ _ _ (w1.setCell ⟨w.heap.size, 0, none⟩ (.int .u8 66))
  generalize w1.setCell ⟨w.heap.size, 0, none⟩ (.int .u8 66) = w3 at hr2 hb2 hk2 ⊢
  have c0 := hb2.cell0
  subst hbody
  have hkb : Kept [] w3 (w3.alloc (.cells #[.int .u8 0] 419)) := (Kept.refl [] w3).alloc _
  have hb3 : Blk (w3.alloc (.cells #[.int .u8 0] 419)) w3.heap.size (List.replicate 1 (Value.int .u8 0)).toArray 419 := Blk.new w3 _ _
  have hs3 := hk2.size
  have hfull := (hr2.kept hkb (by simp) (by simp)).full (by unfold Small; omega) 1 1 w3.heap.size 0 _ (by omega) (Nat.le_refl _) (by unfold Small; omega) hb3 (by simp) (gp _ hs3) (by omega) (by omega)
  have HF2 := Lib.hid hfull
  have HK := Lib.hid (And.intro hk2 (And.intro hkb (gp _ hs3)))
  clear hfull hk2 hr2 hb2 hks r1 k1 ka b0 gp av hl hd hav hkb hb3 hs3
  go_wp2_with (go_at_call 56; refine HF2.out.mono ?_; rintro e w5 ⟨rfl, g1, g2, g3⟩; rw [splice_all 1 _ _ (by simp)] at g2; have c5 : w5.cell? ⟨w3.heap.size, 0, none⟩ = some (.int .u8 (b1.toNat : Int)) := g2.cell 0; have H5 := Lib.hid (And.intro g1 ((HK.out.1.trans (HK.out.2.1.mono (by simp)) (fun x hx => .inl hx)).trans g3 (fun x hx => by simp only [List.mem_cons] at hx; rcases hx with rfl | hx; exact .inr HK.out.1.size; exact .inl hx))); clear g1 g2 g3)
  go_ret2
  refine ⟨rfl, ?_, H5.out.2⟩
  have := H5.out.1
  rw [map_sub_sub] at this
  simpa using this
theorem exists_list {α : Type} (P : Nat → α → Prop) : ∀ n, (∀ i, i < n → ∃ a, P i a) → ∃ l : List α, l.length = n ∧ ∀ i a, l[i]? = some a → P i a
  | 0, _ => ⟨[], rfl, fun i a h => by simp at h⟩
  | n + 1, h => by
    obtain ⟨l, h1, h2⟩ := exists_list P n fun i hi => h i (by omega)
    obtain ⟨a, ha⟩ := h n (by omega)
    refine ⟨l ++ [a], by simp [h1], fun i b hb => ?_⟩
    by_cases hi : i < l.length
    · rw [List.getElem?_append_left hi] at hb; exact h2 i b hb
    · rw [List.getElem?_append_right (by omega)] at hb
      have : i - l.length = 0 := by
        rcases Nat.eq_zero_or_pos (i - l.length) with h | h
        · exact h
        · rw [List.getElem?_eq_none (by simp; omega)] at hb; cases hb
      rw [this] at hb
      simp at hb
      subst hb
      have : i = n := by omega
      subst this; exact ha
theorem cells?_get {w : World} {a : Addr} {n : Nat} {cs : List Value} (h : w.cells? 0 a n = some cs) : cs.length = n ∧ ∀ j u, cs[j]? = some u → w.cell? (a.add j) = some u := by
  unfold World.cells? at h
  rw [if_pos (Nat.zero_le _)] at h
  have hl : cs.length = n := by simpa using mapM_some_length h
  refine ⟨hl, fun j u hj => ?_⟩
  have hj' : j < n := by rw [← hl]; exact (List.getElem?_eq_some_iff.1 hj).1
  have := mapM_some_get h j j (by simp [hj'])
  rw [this]; exact hj
theorem add_spot {a : Addr} (h : a.spot = none) (i : Nat) : (a.add i).spot = none := by unfold Addr.add; split <;> simp_all
/-- Blocks that are there. -/
abbrev There (w : World) : Nat → Prop := fun b => b < w.heap.size
theorem kat_build {w : World} : ∀ (l : List Val) (ad : Addr), ad.spot = none → (∀ (i : Nat) (v : Val), l[i]? = some v → ∃ cs, CellsAt (There w) w (ad.add (i * 7)) cs ∧ VHeld (There w) w cs v) → KAt (There w) w ad l
  | [], _, _, _ => by unfold KAt; trivial
  | v :: l, ad, hs, h => by
    unfold KAt
    obtain ⟨cs, h1, h2⟩ := h 0 v rfl
    rw [Nat.zero_mul] at h1
    refine ⟨cs, by simpa [Addr.add] using h1, h2, kat_build l _ (add_spot hs 7) fun i u hi => ?_⟩
    obtain ⟨cs', h3, h4⟩ := h (i + 1) u (by simpa using hi)
    refine ⟨cs', ?_, h4⟩
    rw [addr_add_add _ _ _ hs, show 7 + i * 7 = (i + 1) * 7 by omega]
    exact h3
theorem fat_build {w : World} : ∀ (l : List Fld) (ad : Addr), ad.spot = none → (∀ (i : Nat) (f : Fld), l[i]? = some f → ∃ cs, CellsAt (There w) w (ad.add (i * 8)) (.string (bstr f.name) :: cs) ∧ VHeld (There w) w cs f.val) → FAt (There w) w ad l
  | [], _, _, _ => by unfold FAt; trivial
  | .mk name v :: l, ad, hs, h => by
    unfold FAt
    obtain ⟨cs, h1, h2⟩ := h 0 _ rfl
    rw [Nat.zero_mul] at h1
    refine ⟨cs, by simpa [Addr.add, Fld.name] using h1, h2, fat_build l _ (add_spot hs 8) fun i u hi => ?_⟩
    obtain ⟨cs', h3, h4⟩ := h (i + 1) u (by simpa using hi)
    refine ⟨cs', ?_, h4⟩
    rw [addr_add_add _ _ _ hs, show 8 + i * 8 = (i + 1) * 8 by omega]
    exact h3
theorem wfL_of : ∀ (l : List Val), (∀ (i : Nat) (v : Val), l[i]? = some v → WfV v) → WfL l
  | [], _ => by unfold WfL; trivial
  | v :: l, h => by unfold WfL; exact ⟨h 0 v rfl, wfL_of l fun i u hi => h (i + 1) u (by simpa using hi)⟩
theorem wfFs_of : ∀ (l : List Fld), (∀ (i : Nat) (f : Fld), l[i]? = some f → f.name.length ≤ 140737488355328 ∧ WfV f.val) → WfFs l
  | [], _ => by unfold WfFs; trivial
  | .mk name v :: l, h => by unfold WfFs; exact ⟨(h 0 _ rfl).1, (h 0 _ rfl).2, wfFs_of l fun i u hi => h (i + 1) u (by simpa using hi)⟩
theorem mem_weightsAll {H : Type} {P : Program} {e : TypeId} {k : Nat} : ∀ (l : List (DataW H)) (d : DataW H), d ∈ l → k ∈ d.weights P e → k ∈ DataW.weightsAll P e l
  | [], d, hd, _ => by cases hd
  | x :: l, d, hd, hk => by
    unfold DataW.weightsAll
    rcases List.mem_cons.1 hd with rfl | hd
    · exact List.mem_append_left _ hk
    · exact List.mem_append_right _ (mem_weightsAll l d hd hk)
section
variable {H : Type} {enc : TypeId × Value → H} {w : World}
theorem trod_float {P : Program} {base : Nat} {spare : Nat → Bool} {held : Bool} {fuel : Nat} {t : TypeId} {cs : List Value} {x : DataW H × List MemPlace} {k : FloatKind} (ht : P.underlying t = some (.float k)) (h : DataW.trod enc P w base spare held fuel t cs = some x) :
    ∃ n, cs = [.float k n] ∧ x = (.lit (.float k n), []) ∧ (Lit.float k n).wf = true := by
  cases fuel with
  | zero => simp [DataW.trod] at h
  | succ n =>
    unfold DataW.trod at h
    rw [ht] at h
    split at h <;> simp_all
/-- A slice that came in: its elements, one by one. -/
theorem open_elems {t e : TypeId} {fuel : Nat} {cs : List Value} {x : DataW H × List MemPlace} {c b : Nat} (ht : Tryz.prog.underlying t = some (.slice e)) (hc : Tryz.prog.cellsOf e = c) (hb : Tryz.prog.bytesOf e = b) (hc0 : 0 < c)
    (h : DataW.trod enc Tryz.prog w 0 (fun _ => true) true fuel t cs = some x) (hw : ∀ k ∈ x.1.weights Tryz.prog t, k ≤ reachBytes) :
    ∃ (ao : Option Addr) (len cap : Nat), cs = [.slice ao len cap] ∧ len ≤ cap ∧ len * b ≤ reachBytes ∧ (len ≠ 0 → ∃ a, ao = some a ∧ a.spot = none ∧ a.block < w.heap.size) ∧ (len = 0 ∨ fuel ≠ 0) ∧
      ∀ i, i < len → ∃ a es n y, ao = some a ∧ n < fuel ∧ CellsAt (There w) w (a.add (i * c)) es ∧ es.length = c ∧ DataW.trod enc Tryz.prog w 0 (fun _ => true) true n e es = some y ∧ ∀ k ∈ y.1.weights Tryz.prog e, k ≤ reachBytes := by
  rcases DataW.trod_slice ht h with ⟨rfl, _⟩ | ⟨a, len, cap, elems, rest, n, rfl, rfl, rfl, _, hl, hm, hlen, hel, _, _⟩
  · exact ⟨none, 0, 0, rfl, Nat.le_refl _, by simp, fun h => absurd rfl h, .inl rfl, fun i hi => absurd hi (by omega)⟩
  · have hwt : ∀ k ∈ ((elems.length + rest.length) * b :: (DataW.weightsAll Tryz.prog e (elems.map (·.1)) ++ DataW.weightsAll Tryz.prog e (rest.map (·.1)))), k ≤ reachBytes := by
      intro k hk
      refine hw k ?_
      unfold DataW.weights
      rw [ht]
      simpa [hb] using hk
    have hex : ∀ i, i < len → ∃ es y, CellsAt (There w) w (a.add (i * c)) es ∧ es.length = c ∧ DataW.trod enc Tryz.prog w 0 (fun _ => true) true n e es = some y ∧ ∀ k ∈ y.1.weights Tryz.prog e, k ≤ reachBytes := by
      intro i hi
      have he := hel i hi
      obtain ⟨y, hy⟩ : ∃ y, elems[i]? = some y := ⟨_, List.getElem?_eq_getElem (by omega)⟩
      rw [hy, hc] at he
      simp only [Option.bind_eq_some_iff] at he
      obtain ⟨es, h1, h2⟩ := he
      obtain ⟨h3, h4⟩ := cells?_get h1
      refine ⟨es, y, ⟨?_, h4⟩, h3, h2, fun k hk => hwt k ?_⟩
      · have h5 : es[0]? = some es[0] := List.getElem?_eq_getElem (by omega)
        have := World.block_lt_of_cell? w _ (h4 0 _ h5)
        simpa [Addr.add] using this
      · refine List.mem_cons_of_mem _ (List.mem_append_left _ (mem_weightsAll _ y.1 ?_ hk))
        exact List.mem_map.2 ⟨y, List.mem_of_getElem? hy, rfl⟩
    refine ⟨some a, len, cap, rfl, hl, ?_, fun hne => ?_, .inr (by omega), fun i hi => ?_⟩
    · have := hwt _ (List.mem_cons_self ..)
      have h2 : len * b ≤ (elems.length + rest.length) * b := Nat.mul_le_mul_right _ (by omega)
      omega
    · obtain ⟨es, y, h1, h2, _⟩ := hex 0 (by omega)
      rw [Nat.zero_mul] at h1
      have h3 : a.add 0 = a := by simp [Addr.add]
      rw [h3] at h1
      exact ⟨a, rfl, h1.spot (by intro e; subst e; simp at h2; omega), h1.1⟩
    · obtain ⟨es, y, h1, h2, h3, h4⟩ := hex i hi
      exact ⟨a, es, n, y, rfl, by omega, h1, h2, h3, h4⟩
/-- A value that came in. -/
def OpenV (enc : TypeId × Value → H) (w : World) (n : Nat) : Prop := ∀ (cs : List Value) (x : DataW H × List MemPlace), DataW.trod enc Tryz.prog w 0 (fun _ => true) true n 151 cs = some x → (∀ k ∈ x.1.weights Tryz.prog 151, k ≤ reachBytes) →
  ∃ v, VHeld (There w) w cs v ∧ WfV v
theorem cells_iV : Tryz.prog.cellsOf 151 = 7 := by kernel_rfl
theorem cells_iF : Tryz.prog.cellsOf 153 = 8 := by kernel_rfl
theorem bytes_iV : Tryz.prog.bytesOf 151 = 96 := by kernel_rfl
theorem bytes_iF : Tryz.prog.bytesOf 153 = 112 := by kernel_rfl
theorem cells_u8 : Tryz.prog.cellsOf 5 = 1 := by kernel_rfl
theorem cells_i64 : Tryz.prog.cellsOf 2 = 1 := by kernel_rfl
theorem cells_int : Tryz.prog.cellsOf 3 = 1 := by kernel_rfl
theorem cells_f64 : Tryz.prog.cellsOf 138 = 1 := by kernel_rfl
theorem cells_str : Tryz.prog.cellsOf 9 = 1 := by kernel_rfl
theorem cells_sV : Tryz.prog.cellsOf 149 = 1 := by kernel_rfl
theorem cells_sF : Tryz.prog.cellsOf 31 = 1 := by kernel_rfl
theorem bstr_self (s : ByteArray) : s = bstr s.data.toList := by cases s; simp [bstr]
theorem reach_le {k : Nat} (h : k ≤ reachBytes) : k ≤ 140737488355328 := by unfold reachBytes at h; omega
set_option maxRecDepth 100000 in
/-- A field that came in. -/
theorem open_field (n : Nat) (hv : ∀ m, m < n → OpenV enc w m) (cs : List Value) (x : DataW H × List MemPlace) (h : DataW.trod enc Tryz.prog w 0 (fun _ => true) true n 153 cs = some x) (hw : ∀ k ∈ x.1.weights Tryz.prog 153, k ≤ reachBytes) :
    ∃ (f : Fld) (cs' : List Value), cs = .string (bstr f.name) :: cs' ∧ VHeld (There w) w cs' f.val ∧ f.name.length ≤ 140737488355328 ∧ WfV f.val := by
  obtain ⟨xs, m, rfl, rfl, hl, hlen, hf⟩ := DataW.trod_struct Tryz.underlying153 h
  match xs, hlen with
  | [x0, x1], _ =>
    have h0 : DataW.trod enc Tryz.prog w 0 (fun _ => true) true m 9 (List.take (Tryz.prog.cellsOf 9) (List.drop 0 cs)) = some x0 := hf 0 _ rfl
    have h1 : DataW.trod enc Tryz.prog w 0 (fun _ => true) true m 151 (List.take (Tryz.prog.cellsOf 151) (List.drop 1 cs)) = some x1 := hf 1 _ rfl
    rw [cells_iF] at hl
    match cs, hl with
    | c0 :: cs', hl =>
      have hl' : cs'.length = 7 := by simpa using hl
      rw [cells_str] at h0
      rw [cells_iV] at h1
      simp only [List.drop_zero, List.take_succ_cons, List.take_zero, List.drop_succ_cons] at h0 h1
      rw [List.take_of_length_le (by omega)] at h1
      obtain ⟨s, e0, e1, _⟩ := DataW.trod_string Tryz.underlying9 h0
      have hwt : ∀ k ∈ x0.1.weights Tryz.prog 9 ++ (x1.1.weights Tryz.prog 151 ++ []), k ≤ reachBytes := by
        intro k hk
        refine hw k ?_
        unfold DataW.weights
        simp only [List.map_cons, List.map_nil]
        rw [Tryz.underlying153]
        simpa [DataW.weightsEach] using hk
      obtain ⟨v, v1, v2⟩ := hv m (by omega) cs' x1 h1 (fun k hk => hwt k (by simp [hk]))
      simp only [List.cons.injEq, and_true] at e0
      refine ⟨.mk s.data.toList v, cs', ?_, v1, ?_, v2⟩
      · rw [e0]; congr 2
      · refine reach_le (hwt _ ?_)
        rw [e1]
        simp [DataW.weights, Fld.name]
set_option maxRecDepth 100000 in
/-- A slice of fields that came in. -/
theorem open_fslice (n : Nat) (hv : ∀ m, m < n → OpenV enc w m) (cs : List Value) (x : DataW H × List MemPlace) (h : DataW.trod enc Tryz.prog w 0 (fun _ => true) true n 31 cs = some x) (hw : ∀ k ∈ x.1.weights Tryz.prog 31, k ≤ reachBytes) :
    ∃ (s : Value) (l : List Fld), cs = [s] ∧ FSl (There w) w s l ∧ WfFs l ∧ l.length ≤ 140737488355328 := by
  obtain ⟨ao, len, cap, rfl, hl, hr, hsp, hfu, hel⟩ := open_elems Tryz.underlying31 cells_iF bytes_iF (by decide) h hw
  obtain ⟨l, l1, l2⟩ := exists_list (fun i (f : Fld) => ∃ a cs', ao = some a ∧ CellsAt (There w) w (a.add (i * 8)) (.string (bstr f.name) :: cs') ∧ VHeld (There w) w cs' f.val ∧ f.name.length ≤ 140737488355328 ∧ WfV f.val) len fun i hi => by
    obtain ⟨a, es, m, y, rfl, hm, h1, h2, h3, h4⟩ := hel i hi
    obtain ⟨f, cs', rfl, f1, f2, f3⟩ := open_field m (fun k hk => hv k (by omega)) es y h3 h4
    exact ⟨f, a, cs', rfl, h1, f1, f2, f3⟩
  subst l1
  refine ⟨_, l, rfl, ⟨ao, cap, rfl, hl, fun hne => ?_, ?_⟩, wfFs_of l fun i f hi => ?_, by have := reach_le hr; omega⟩
  · obtain ⟨a, rfl, _⟩ := hsp (by intro e; exact hne (List.eq_nil_of_length_eq_zero e)); rfl
  · cases l with
    | nil => unfold FAt; trivial
    | cons f l =>
      obtain ⟨a, rfl, hs, _⟩ := hsp (by simp)
      refine fat_build _ a hs fun i f hi => ?_
      obtain ⟨a', cs', e, f1, f2, _⟩ := l2 i f hi
      obtain rfl : a = a' := by simpa using e
      exact ⟨cs', f1, f2⟩
  · obtain ⟨a, cs', _, _, _, f3, f4⟩ := l2 i f hi
    exact ⟨f3, f4⟩
set_option maxRecDepth 100000 in
theorem open_vslice (n : Nat) (hv : ∀ m, m < n → OpenV enc w m) (cs : List Value) (x : DataW H × List MemPlace) (h : DataW.trod enc Tryz.prog w 0 (fun _ => true) true n 149 cs = some x) (hw : ∀ k ∈ x.1.weights Tryz.prog 149, k ≤ reachBytes) :
    ∃ (s : Value) (l : List Val), cs = [s] ∧ KSl (There w) w s l ∧ WfL l ∧ l.length ≤ 140737488355328 := by
  obtain ⟨ao, len, cap, rfl, hl, hr, hsp, hfu, hel⟩ := open_elems Tryz.underlying149 cells_iV bytes_iV (by decide) h hw
  obtain ⟨l, l1, l2⟩ := exists_list (fun i (v : Val) => ∃ a cs', ao = some a ∧ CellsAt (There w) w (a.add (i * 7)) cs' ∧ VHeld (There w) w cs' v ∧ WfV v) len fun i hi => by
    obtain ⟨a, es, m, y, rfl, hm, h1, h2, h3, h4⟩ := hel i hi
    obtain ⟨v, f1, f2⟩ := hv m (by omega) es y h3 h4
    exact ⟨v, a, es, rfl, h1, f1, f2⟩
  subst l1
  refine ⟨_, l, rfl, ⟨ao, cap, rfl, hl, fun hne => ?_, ?_⟩, wfL_of l fun i f hi => ?_, by have := reach_le hr; omega⟩
  · obtain ⟨a, rfl, _⟩ := hsp (by intro e; exact hne (List.eq_nil_of_length_eq_zero e)); rfl
  · cases l with
    | nil => unfold KAt; trivial
    | cons f l =>
      obtain ⟨a, rfl, hs, _⟩ := hsp (by simp)
      refine kat_build _ a hs fun i f hi => ?_
      obtain ⟨a', cs', e, f1, f2, _⟩ := l2 i f hi
      obtain rfl : a = a' := by simpa using e
      exact ⟨cs', f1, f2⟩
  · obtain ⟨a, cs', _, _, _, f3⟩ := l2 i f hi
    exact f3
set_option maxRecDepth 100000 in
/-- Every value that came in. -/
theorem open_value (n : Nat) : OpenV enc w n := by
  induction n using Nat.strongRecOn with
  | _ n ih =>
  intro cs x h hw
  obtain ⟨xs, m, rfl, rfl, hl, hlen, hf⟩ := DataW.trod_struct Tryz.underlying151 h
  match xs, hlen with
  | [x0, x1, x2, x3, x4, x5, x6], _ =>
    have h0 : DataW.trod enc Tryz.prog w 0 (fun _ => true) true m 5 (List.take (Tryz.prog.cellsOf 5) (List.drop 0 cs)) = some x0 := hf 0 _ rfl
    have h1 : DataW.trod enc Tryz.prog w 0 (fun _ => true) true m 2 (List.take (Tryz.prog.cellsOf 2) (List.drop 1 cs)) = some x1 := hf 1 _ rfl
    have h2 : DataW.trod enc Tryz.prog w 0 (fun _ => true) true m 138 (List.take (Tryz.prog.cellsOf 138) (List.drop 2 cs)) = some x2 := hf 2 _ rfl
    have h3 : DataW.trod enc Tryz.prog w 0 (fun _ => true) true m 3 (List.take (Tryz.prog.cellsOf 3) (List.drop 3 cs)) = some x3 := hf 3 _ rfl
    have h4 : DataW.trod enc Tryz.prog w 0 (fun _ => true) true m 9 (List.take (Tryz.prog.cellsOf 9) (List.drop 4 cs)) = some x4 := hf 4 _ rfl
    have h5 : DataW.trod enc Tryz.prog w 0 (fun _ => true) true m 149 (List.take (Tryz.prog.cellsOf 149) (List.drop 5 cs)) = some x5 := hf 5 _ rfl
    have h6 : DataW.trod enc Tryz.prog w 0 (fun _ => true) true m 31 (List.take (Tryz.prog.cellsOf 31) (List.drop 6 cs)) = some x6 := hf 6 _ rfl
    rw [cells_iV] at hl
    rw [cells_u8] at h0
    rw [cells_i64] at h1
    rw [cells_f64] at h2
    rw [cells_int] at h3
    rw [cells_str] at h4
    rw [cells_sV] at h5
    rw [cells_sF] at h6
    match cs, hl with
    | [c0, c1, c2, c3, c4, c5, c6], _ =>
      simp only [List.drop_zero, List.take_succ_cons, List.take_zero, List.drop_succ_cons] at h0 h1 h2 h3 h4 h5 h6
      have hwt : ∀ k ∈ x4.1.weights Tryz.prog 9 ++ (x5.1.weights Tryz.prog 149 ++ x6.1.weights Tryz.prog 31), k ≤ reachBytes := by
        intro k hk
        refine hw k ?_
        unfold DataW.weights
        simp only [List.map_cons, List.map_nil]
        rw [Tryz.underlying151]
        simp only [DataW.weightsEach, List.map_cons, List.map_nil, List.append_nil]
        simp only [List.mem_append] at hk ⊢
        rcases hk with hk | hk | hk <;> simp [hk]
      obtain ⟨k, e0, _, w0⟩ := DataW.trod_int Tryz.underlying5 h0
      obtain ⟨n, e1, _, w1⟩ := DataW.trod_int Tryz.underlying2 h1
      obtain ⟨f, e2, _, w2⟩ := trod_float Tryz.underlying138 h2
      obtain ⟨sc, e3, _, w3⟩ := DataW.trod_int Tryz.underlying3 h3
      obtain ⟨s, e4, g4, _⟩ := DataW.trod_string Tryz.underlying9 h4
      obtain ⟨kv, kids, e5, k1, k2, k3⟩ := open_vslice m (fun j hj => ih j (by omega)) _ x5 h5 (fun k hk => hwt k (by simp [hk]))
      obtain ⟨fv, flds, e6, f1, f2, f3⟩ := open_fslice m (fun j hj => ih j (by omega)) _ x6 h6 (fun k hk => hwt k (by simp [hk]))
      simp only [List.cons.injEq, and_true] at e0 e1 e2 e3 e4 e5 e6
      obtain ⟨kb, rfl⟩ := u8_of k w0
      have hn := i64_of n w1
      have hfl : f < 18446744073709551616 := by simpa [Lit.wf] using w2
      have htx : s.data.toList.length ≤ 140737488355328 := by
        refine reach_le (hwt _ ?_)
        rw [g4]
        simp [DataW.weights]
      obtain ⟨ka, kc, rfl, b1, b2, b3⟩ := k1
      obtain ⟨fa, fc, rfl, d1, d2, d3⟩ := f1
      refine ⟨.mk kb n f sc s.data.toList kids flds, ?_, ?_⟩
      · unfold VHeld
        refine ⟨ka, kc, fa, fc, ?_, b1, d1, b2, d2, b3, d3⟩
        rw [e0, e1, e2, e3, e4, e5, e6, ← bstr_self s]
      · unfold WfV
        exact ⟨htx, k3, f3, k2, f2, hn.1, hn.2, hfl⟩
end
end Go.Proofs.YtkcdakohmfodjaaGreat
