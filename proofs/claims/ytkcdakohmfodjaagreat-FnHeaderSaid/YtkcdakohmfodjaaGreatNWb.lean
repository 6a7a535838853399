/-
  Lemmas on the way to the statement of YtkcdakohmfodjaaGreatHeader, joined out of these texts: Wb. No condition.
-/
import Derived.Deep.Cut
import Derived.Test.YtkcdakohmfodjaaGreatNConv
import Derived.Test.YtkcdakohmfodjaaGreatNRarr
import Derived.Test.YtkcdakohmfodjaaGreatNRfix
import Derived.Test.YtkcdakohmfodjaaGreatNTold
namespace Go.Proofs.YtkcdakohmfodjaaGreat
open Go.RowKit
set_option linter.unusedVariables false
set_option linter.unusedSimpArgs false
/-- m has been written to the buffer at q, which held l. -/
def Wrote (q : Nat) (bs : List Nat) (l m : List UInt8) (w w' : World) : Prop := ∃ bs', Wr TB w' q bs' (l ++ m) ∧ Adv q bs bs' w w'
theorem Wrote.nil {q : Nat} {bs : List Nat} {l : List UInt8} {w : World} (h : Wr TB w q bs l) : Wrote q bs l [] w w := ⟨bs, by rw [List.append_nil]; exact h, Adv.refl q bs w⟩
theorem Adv.kept_r {q : Nat} {bs bs1 : List Nat} {w w1 w2 : World} (h : Adv q bs bs1 w w1) (k : Kept [] w1 w2) : Adv q bs bs1 w w2 := ⟨h.kept.trans k (by simp), h.own⟩
theorem Adv.kept_l {q : Nat} {bs bs1 : List Nat} {w w1 w2 : World} (k : Kept [] w w1) (h : Adv q bs bs1 w1 w2) : Adv q bs bs1 w w2 := ⟨(k.mono (by simp)).trans h.kept (fun x hx => .inl hx), fun b hb => (h.own b hb).imp id (fun h => Nat.le_trans k.size h)⟩
/-- The row cs with the cells l at o. -/
def putAt (cs : List Value) (o : Nat) (l : List Value) : List Value := cs.take o ++ l ++ cs.drop (o + l.length)
theorem sets2 : ∀ (o : Nat) (cs : List Value) (_ : o + 2 ≤ cs.length) (a b : Value), (cs.set o a).set (o + 1) b = putAt cs o [a, b]
  | 0, _ :: _ :: cs, _, a, b => by simp [putAt]
  | o + 1, x :: cs, h, a, b => by
    have := sets2 o cs (by simp at h; omega) a b
    unfold putAt at this ⊢
    simp only [List.set_cons_succ, List.take_succ_cons, List.cons_append, List.length_cons, List.length_nil, Nat.zero_add, this]
    simp [Nat.add_right_comm]
theorem sets4 : ∀ (o : Nat) (cs : List Value) (_ : o + 4 ≤ cs.length) (a b c d : Value), (((cs.set o a).set (o + 1) b).set (o + 2) c).set (o + 3) d = putAt cs o [a, b, c, d]
  | 0, _ :: _ :: _ :: _ :: cs, _, a, b, c, d => by simp [putAt]
  | o + 1, x :: cs, h, a, b, c, d => by
    have := sets4 o cs (by simp at h; omega) a b c d
    unfold putAt at this ⊢
    simp only [List.set_cons_succ, List.take_succ_cons, List.cons_append, List.length_cons, List.length_nil, Nat.zero_add, show o + 1 + 1 = o + 1 + 1 from rfl, show o + 1 + 2 = o + 2 + 1 by omega, show o + 1 + 3 = o + 3 + 1 by omega, this]
    simp [Nat.add_right_comm]
theorem putAt_putAt (cs : List Value) (o : Nat) (l m : List Value) (h : o + l.length + m.length ≤ cs.length) : putAt (putAt cs o l) (o + l.length) m = putAt cs o (l ++ m) := by
  have e1 : (cs.take o ++ l).length = o + l.length := by simp; omega
  unfold putAt
  rw [List.take_append_of_le_length (by omega), List.take_of_length_le (by omega), List.drop_append, List.drop_of_length_le (by omega), e1]
  simp only [List.nil_append, List.drop_drop, List.append_assoc, List.length_append]
  congr 4
  omega
theorem putAt_len (cs : List Value) (o : Nat) (l : List Value) (h : o + l.length ≤ cs.length) : (putAt cs o l).length = cs.length := by unfold putAt; simp; omega
theorem putAt_take (cs l : List Value) (n : Nat) (h : l.length = n) : (putAt cs 0 l).take n = l := by
  subst h
  unfold putAt
  rw [List.take_zero, List.nil_append]
  exact List.take_left' rfl
theorem be_app (a b n : Nat) : Lib.beBytes (a + b) n = Lib.beBytes a (n / 256 ^ b) ++ Lib.beBytes b n := by
  apply List.ext_getElem?
  intro k
  by_cases hk : k < a
  · rw [List.getElem?_append_left (by rw [Lib.beBytes_length]; exact hk), beBytes_get _ _ _ (by omega), beBytes_get _ _ _ hk, Nat.div_div_eq_div_mul, ← Nat.pow_add]
    congr 4
    omega
  · rw [List.getElem?_append_right (by rw [Lib.beBytes_length]; omega), Lib.beBytes_length]
    by_cases hk2 : k < a + b
    · rw [beBytes_get _ _ _ hk2, beBytes_get _ _ _ (by omega)]
      congr 4
      omega
    · rw [List.getElem?_eq_none (by rw [Lib.beBytes_length]; omega), List.getElem?_eq_none (by rw [Lib.beBytes_length]; omega)]
theorem set_row {w : World} {g i : Nat} {cs : List Value} {t : TypeId} (h : Blk w g cs.toArray t) (u : Value) : Blk (w.setCell ⟨g, i, none⟩ u) g (cs.set i u).toArray t := by
  have := h.setCell i u
  rwa [List.setIfInBounds_toArray] at this
theorem tyes_u64 (v : Value) (w : World) : (Instr.typeAssert (.iface 28 v) 20 28 true).run Tryz.prog w = .ok (.tuple #[v, .bool true]) w := by kernel_rfl
/-- The first n cells of a row are these bytes. -/
theorem Blk.srcAt {w : World} {g n : Nat} {cs : List Value} {t : TypeId} (h : Blk w g cs.toArray t) (m : List UInt8) (hm : cs.take m.length = u8s m) (hn : n = m.length) (c : Nat) : Src w (.slice (some ⟨g, 0, none⟩) n c) g m := by
  subst hn
  refine .inr ⟨_, c, rfl, rfl, fun j v hj => ?_⟩
  rw [addr_add, Nat.zero_add, h.cell j]
  have hl : j < m.length := by have := (List.getElem?_eq_some_iff.1 hj).1; simpa [u8s] using this
  rw [← hm, List.getElem?_take_of_lt hl] at hj
  simpa using hj
set_option maxHeartbeats 1000000 in
set_option maxRecDepth 100000 in
theorem put16_any (g o n c v : Nat) (cs : List Value) (t : TypeId) (w : World) (hb : Blk w g cs.toArray t) (hn : 2 ≤ n) (hfit : o + 2 ≤ cs.length) (hv : v < 65536) :
    Calls Tryz.prog 209 #[.slice (some ⟨g, o, none⟩) n c, .int .u16 (v : Int)] w fun e w' => e = .returned (.tuple #[]) ∧ Blk w' g (putAt cs o (u8s (Lib.beBytes 2 v))).toArray t ∧ Kept [g] w w' := by
  obtain ⟨x0, e0, y0⟩ : ∃ x : UInt8, (v : Int) / 256 % 256 = (x.toNat : Int) ∧ x = UInt8.ofNat (v / 256) := ⟨_, by simp; try omega, rfl⟩
  obtain ⟨x1, e1, y1⟩ : ∃ x : UInt8, (v : Int) % 256 = (x.toNat : Int) ∧ x = UInt8.ofNat v := ⟨_, by simp; try omega, rfl⟩
  have hbe : u8s (Lib.beBytes 2 v) = [.int .u8 (x0.toNat : Int), .int .u8 (x1.toNat : Int)] := by rw [be2, ← y0, ← y1]; rfl
  rw [hbe, ← sets2 o cs hfit]
  have hn0 : (0 : Int) < n := by omega
  have hn1 : (1 : Int) < n := by omega
  have f0 := hb.free o
  have f1 := hb.free (o + 1)
  have c0 : ∃ u, w.cell? ⟨g, o, none⟩ = some u := ⟨cs[o]'(by omega), by rw [hb.cell]; simp⟩
  have c1 : ∃ u, w.cell? ⟨g, o + 1, none⟩ = some u := ⟨cs[o + 1]'(by omega), by rw [hb.cell]; simp⟩
  obtain ⟨u0, c0⟩ := c0
  obtain ⟨u1, c1⟩ := c1
  have HB := Lib.hid hb
  clear hb hbe y0 y1 hfit hv
  go_enter Tryz.func209, Tryz.ntmps209
  go_wp2
  go_end0
  exact ⟨rfl, (set_row (set_row HB.out _) _), (((Kept.refl [g] w).setCell (by simp) _).setCell (by simp) _)⟩
set_option maxHeartbeats 1000000 in
set_option maxRecDepth 100000 in
theorem put32_any (g o n c v : Nat) (cs : List Value) (t : TypeId) (w : World) (hb : Blk w g cs.toArray t) (hn : 4 ≤ n) (hfit : o + 4 ≤ cs.length) (hv : v < 4294967296) :
    Calls Tryz.prog 210 #[.slice (some ⟨g, o, none⟩) n c, .int .u32 (v : Int)] w fun e w' => e = .returned (.tuple #[]) ∧ Blk w' g (putAt cs o (u8s (Lib.beBytes 4 v))).toArray t ∧ Kept [g] w w' := by
  obtain ⟨x0, e0, y0⟩ : ∃ x : UInt8, (v : Int) / 16777216 % 256 = (x.toNat : Int) ∧ x = UInt8.ofNat (v / 16777216) := ⟨_, by simp; try omega, rfl⟩
  obtain ⟨x1, e1, y1⟩ : ∃ x : UInt8, (v : Int) / 65536 % 256 = (x.toNat : Int) ∧ x = UInt8.ofNat (v / 65536) := ⟨_, by simp; try omega, rfl⟩
  obtain ⟨x2, e2, y2⟩ : ∃ x : UInt8, (v : Int) / 256 % 256 = (x.toNat : Int) ∧ x = UInt8.ofNat (v / 256) := ⟨_, by simp; try omega, rfl⟩
  obtain ⟨x3, e3, y3⟩ : ∃ x : UInt8, (v : Int) % 256 = (x.toNat : Int) ∧ x = UInt8.ofNat v := ⟨_, by simp; try omega, rfl⟩
  have hbe : u8s (Lib.beBytes 4 v) = [.int .u8 (x0.toNat : Int), .int .u8 (x1.toNat : Int), .int .u8 (x2.toNat : Int), .int .u8 (x3.toNat : Int)] := by rw [be4, ← y0, ← y1, ← y2, ← y3]; rfl
  rw [hbe, ← sets4 o cs hfit]
  have hn0 : (0 : Int) < n := by omega
  have hn1 : (1 : Int) < n := by omega
  have hn2 : (2 : Int) < n := by omega
  have hn3 : (3 : Int) < n := by omega
  have f0 := hb.free o
  have f1 := hb.free (o + 1)
  have f2 := hb.free (o + 2)
  have f3 := hb.free (o + 3)
  have c0 : ∃ u, w.cell? ⟨g, o, none⟩ = some u := ⟨cs[o]'(by omega), by rw [hb.cell]; simp⟩
  have c1 : ∃ u, w.cell? ⟨g, o + 1, none⟩ = some u := ⟨cs[o + 1]'(by omega), by rw [hb.cell]; simp⟩
  have c2 : ∃ u, w.cell? ⟨g, o + 2, none⟩ = some u := ⟨cs[o + 2]'(by omega), by rw [hb.cell]; simp⟩
  have c3 : ∃ u, w.cell? ⟨g, o + 3, none⟩ = some u := ⟨cs[o + 3]'(by omega), by rw [hb.cell]; simp⟩
  obtain ⟨u0, c0⟩ := c0
  obtain ⟨u1, c1⟩ := c1
  obtain ⟨u2, c2⟩ := c2
  obtain ⟨u3, c3⟩ := c3
  have HB := Lib.hid hb
  clear hb hbe y0 y1 y2 y3 hfit hv
  go_enter Tryz.func210, Tryz.ntmps210
  go_wp2
  go_end0
  exact ⟨rfl, (set_row (set_row (set_row (set_row HB.out _) _) _) _), (((((Kept.refl [g] w).setCell (by simp) _).setCell (by simp) _).setCell (by simp) _).setCell (by simp) _)⟩
set_option maxHeartbeats 1000000 in
set_option maxRecDepth 100000 in
theorem put64_any (g o n c v : Nat) (cs : List Value) (t : TypeId) (w : World) (hb : Blk w g cs.toArray t) (hn : 8 ≤ n) (hc : n ≤ c) (hfit : o + 8 ≤ cs.length) (hv : v < 18446744073709551616) :
    Calls Tryz.prog 211 #[.slice (some ⟨g, o, none⟩) n c, .int .u64 (v : Int)] w fun e w' => e = .returned (.tuple #[]) ∧ Blk w' g (putAt cs o (u8s (Lib.beBytes 8 v))).toArray t ∧ Kept [g] w w' := by
  have e0 : (v : Int) / 4294967296 % 4294967296 = (v : Int) / 4294967296 := by omega
  have e0' : (v : Int) / 4294967296 = ((v / 4294967296 : Nat) : Int) := by omega
  have e1 : (v : Int) % 4294967296 = ((v % 4294967296 : Nat) : Int) := by omega
  have hc1 := put32_any g o n c (v / 4294967296) cs t w hb (by omega) (by omega) (by omega)
  have hc2 := fun (w1 : World) (h1 : Blk w1 g (putAt cs o (u8s (Lib.beBytes 4 (v / 4294967296)))).toArray t) => put32_any g (o + 4) (n - 4) (c - 4) (v % 4294967296) _ t w1 h1 (by omega) (by rw [putAt_len _ _ _ (by simp [u8s, Lib.beBytes_length]; omega)]; omega) (by omega)
  have hc2 : ∀ w1 : World, Blk w1 g (putAt cs o (u8s (Lib.beBytes 4 (v / 4294967296)))).toArray t → Calls Tryz.prog 210 #[.slice (some ⟨g, o + 4, none⟩) (n - 4) (c - 4), .int .u32 ((v : Int) % 4294967296)] w1 fun e w' => e = .returned (.tuple #[]) ∧
      Blk w' g (putAt (putAt cs o (u8s (Lib.beBytes 4 (v / 4294967296)))) (o + 4) (u8s (Lib.beBytes 4 (v % 4294967296)))).toArray t ∧ Kept [g] w1 w' := by rw [e1]; exact hc2
  have hc1 : Calls Tryz.prog 210 #[.slice (some ⟨g, o, none⟩) n c, .int .u32 ((v : Int) / 4294967296)] w fun e w' => e = .returned (.tuple #[]) ∧ Blk w' g (putAt cs o (u8s (Lib.beBytes 4 (v / 4294967296)))).toArray t ∧ Kept [g] w w' := by rw [e0']; exact hc1
  clear e0' e1
  have hfin : putAt (putAt cs o (u8s (Lib.beBytes 4 (v / 4294967296)))) (o + 4) (u8s (Lib.beBytes 4 (v % 4294967296))) = putAt cs o (u8s (Lib.beBytes 8 v)) := by
    rw [show o + 4 = o + (u8s (Lib.beBytes 4 (v / 4294967296))).length by simp [u8s, Lib.beBytes_length], putAt_putAt _ _ _ _ (by simp [u8s, Lib.beBytes_length]; omega), ← u8s_append]
    rw [be_app 4 4 v, be_cut4]
  have hn7 : (7 : Int) < n := by omega
  have hnn : ((n : Int) - 4) = ((n - 4 : Nat) : Int) := by omega
  have f7 := hb.free (o + 7)
  obtain ⟨u7, c7⟩ : ∃ u, w.cell? ⟨g, o + 7, none⟩ = some u := ⟨cs[o + 7]'(by omega), by rw [hb.cell]; simp⟩
  have n4 : (4 : Int) ≤ n := by omega
  have nc : (n : Int) ≤ c := by omega
  have n4' : 4 ≤ n := by omega
  have HC := Lib.hid (And.intro hc1 (And.intro hc2 hfin))
  clear hb hc1 hc2 hfin hfit hv
  go_enter Tryz.func211, Tryz.ntmps211
  go_upto_region 2 with (go_at_call 210; refine HC.out.1.mono ?_; rintro e w1 ⟨rfl, h1, hk1⟩; have H1 := Lib.hid (And.intro h1 hk1); clear h1 hk1)
  go_wp2_with (go_at_call 210; refine (HC.out.2.1 w1 H1.out.1).mono ?_; rintro e w2 ⟨rfl, h2, hk2⟩; have H2 := Lib.hid (And.intro h2 hk2); clear h2 hk2)
  go_end0
  refine ⟨rfl, ?_, H1.out.2.trans H2.out.2 (fun x hx => .inl hx)⟩
  rw [← HC.out.2.2]
  exact H2.out.1
set_option maxHeartbeats 1000000 in
set_option maxRecDepth 100000 in
/-- writeFixed of a number of 1 byte(s). -/
theorem wfix_u8 (q : Nat) (bs : List Nat) (l : List UInt8) (v : Nat) (w : World) (hw : Wr TB w q bs l) (hv : v < 256) (hl : l.length ≤ 1000000000) :
    Calls Tryz.prog 206 #[.iface 111 (.pointer (some ⟨q, 0, none⟩)), .iface 5 (.int .u8 (v : Int))] w fun e w' => e = .returned .nilIface ∧ Wrote q bs l (Lib.beBytes 1 v) w w' := by
  obtain ⟨wa, hwa⟩ : ∃ wa, wa = w.alloc (.cells (List.replicate 8 (.int .u8 0)).toArray 5) := ⟨_, rfl⟩
  have hmk : (Instr.makeSlice 22 (.int .i64 8) (.int .i64 8)).run Tryz.prog w = .ok (.slice (some ⟨w.heap.size, 0, none⟩) 8 8) wa := by rw [hwa]; exact make_bytes 8 (by omega) w
  have hba : Blk wa w.heap.size (List.replicate 8 (Value.int .u8 0)).toArray 5 := by rw [hwa]; exact Blk.new w _ _
  have hka : Kept [] w wa := by rw [hwa]; exact (Kept.refl [] w).alloc _
  have hm1 := method_wbuf
  have hm2 := nilAhead_wbuf
  have ty_u8 := tyes_u8
  have hvv : (v : Int) = ((UInt8.ofNat v).toNat : Int) := by simp; omega
  obtain ⟨wb, hwb⟩ : ∃ wb, wb = wa.alloc (.cells (u8s [UInt8.ofNat v]).toArray 5) := ⟨_, rfl⟩
  have hwb' : wb = wa.alloc (.cells #[.int .u8 (v : Int)] 5) := by rw [hwb, hvv]; rfl
  have hkb : Kept [] w wb := by rw [hwb]; exact hka.alloc _
  have hsrc : Src wb (.slice (some ⟨wa.heap.size, 0, none⟩) 1 1) wa.heap.size [UInt8.ofNat v] := by rw [hwb]; exact (Blk.new wa _ _).src 1
  have hwr := write_any q bs _ wa.heap.size l [UInt8.ofNat v] wb (hw.kept hkb (by simp) (by simp)) hsrc ⟨_, 1, rfl⟩ (by simp; omega)
  have HC := Lib.hid (And.intro hwr hkb); have HB := Lib.hid hwb'
  clear hw hwr hkb hsrc hba hka hwb hwb' hvv hv hl hwa
  go_enter Tryz.func206, Tryz.ntmps206
  go_wp2_with fail
  rw [← HB.out]
  refine HC.out.1.mono ?_
  rintro e w2 ⟨rfl, bs', h1, h2⟩
  have H2 := Lib.hid (And.intro h1 h2); clear h1 h2
  go_wp2
  go_ret
  rw [be1]
  exact ⟨rfl, bs', H2.out.1, H2.out.2.kept_l HC.out.2⟩
set_option maxHeartbeats 1000000 in
set_option maxRecDepth 100000 in
/-- writeFixed of a number of 2 byte(s). -/
theorem wfix_u16 (q : Nat) (bs : List Nat) (l : List UInt8) (v : Nat) (w : World) (hw : Wr TB w q bs l) (hv : v < 65536) (hl : l.length ≤ 1000000000) :
    Calls Tryz.prog 206 #[.iface 111 (.pointer (some ⟨q, 0, none⟩)), .iface 84 (.int .u16 (v : Int))] w fun e w' => e = .returned .nilIface ∧ Wrote q bs l (Lib.beBytes 2 v) w w' := by
  obtain ⟨wa, hwa⟩ : ∃ wa, wa = w.alloc (.cells (List.replicate 8 (.int .u8 0)).toArray 5) := ⟨_, rfl⟩
  have hmk : (Instr.makeSlice 22 (.int .i64 8) (.int .i64 8)).run Tryz.prog w = .ok (.slice (some ⟨w.heap.size, 0, none⟩) 8 8) wa := by rw [hwa]; exact make_bytes 8 (by omega) w
  have hba : Blk wa w.heap.size (List.replicate 8 (Value.int .u8 0)).toArray 5 := by rw [hwa]; exact Blk.new w _ _
  have hka : Kept [] w wa := by rw [hwa]; exact (Kept.refl [] w).alloc _
  have hm1 := method_wbuf
  have hm2 := nilAhead_wbuf
  have tn_u8 := fun v w => tno_u8 84 v w (by decide)
  have ty_u16 := tyes_u16
  have hput := put16_any w.heap.size 0 2 8 v _ 5 wa hba (by omega) (by simp) hv
  have HC := Lib.hid (And.intro hput (And.intro hka (And.intro hw hl)))
  clear hw hput hba hka hl hwa hv
  go_enter Tryz.func206, Tryz.ntmps206
  go_upto_region 19 with (go_at_call 209; refine HC.out.1.mono ?_; rintro e w1 ⟨rfl, h1, hk1⟩; have H1 := Lib.hid (And.intro h1 hk1); clear h1 hk1)
  have hkw : Kept [] w w1 := HC.out.2.1.trans H1.out.2 (by simp)
  have hsrc : Src w1 (.slice (some ⟨w.heap.size, 0, none⟩) 2 8) w.heap.size (Lib.beBytes 2 v) := H1.out.1.srcAt (Lib.beBytes 2 v) (putAt_take _ _ _ (u8s_length _)) (Lib.beBytes_length _ _).symm 8
  have hwr := write_any q bs _ w.heap.size l (Lib.beBytes 2 v) w1 (HC.out.2.2.1.kept hkw (by simp) (by simp)) hsrc ⟨_, 8, by rw [Lib.beBytes_length]⟩ (by have := HC.out.2.2.2; rw [Lib.beBytes_length]; omega)
  have HW := Lib.hid hwr; have HK := Lib.hid hkw; clear hwr hkw hsrc
  go_wp2_with fail
  refine HW.out.mono ?_
  rintro e w2 ⟨rfl, bs', h1, h2⟩
  have H2 := Lib.hid (And.intro h1 h2); clear h1 h2
  go_wp2
  go_ret
  exact ⟨rfl, bs', H2.out.1, H2.out.2.kept_l HK.out⟩
set_option maxHeartbeats 1000000 in
set_option maxRecDepth 100000 in
/-- writeFixed of a number of 4 byte(s). -/
theorem wfix_u32 (q : Nat) (bs : List Nat) (l : List UInt8) (v : Nat) (w : World) (hw : Wr TB w q bs l) (hv : v < 4294967296) (hl : l.length ≤ 1000000000) :
    Calls Tryz.prog 206 #[.iface 111 (.pointer (some ⟨q, 0, none⟩)), .iface 70 (.int .u32 (v : Int))] w fun e w' => e = .returned .nilIface ∧ Wrote q bs l (Lib.beBytes 4 v) w w' := by
  obtain ⟨wa, hwa⟩ : ∃ wa, wa = w.alloc (.cells (List.replicate 8 (.int .u8 0)).toArray 5) := ⟨_, rfl⟩
  have hmk : (Instr.makeSlice 22 (.int .i64 8) (.int .i64 8)).run Tryz.prog w = .ok (.slice (some ⟨w.heap.size, 0, none⟩) 8 8) wa := by rw [hwa]; exact make_bytes 8 (by omega) w
  have hba : Blk wa w.heap.size (List.replicate 8 (Value.int .u8 0)).toArray 5 := by rw [hwa]; exact Blk.new w _ _
  have hka : Kept [] w wa := by rw [hwa]; exact (Kept.refl [] w).alloc _
  have hm1 := method_wbuf
  have hm2 := nilAhead_wbuf
  have tn_u8 := fun v w => tno_u8 70 v w (by decide)
  have tn_u16 := fun v w => tno_u16 70 v w (by decide)
  have ty_u32 := tyes_u32
  have hput := put32_any w.heap.size 0 4 8 v _ 5 wa hba (by omega) (by simp) hv
  have HC := Lib.hid (And.intro hput (And.intro hka (And.intro hw hl)))
  clear hw hput hba hka hl hwa hv
  go_enter Tryz.func206, Tryz.ntmps206
  go_upto_region 19 with (go_at_call 210; refine HC.out.1.mono ?_; rintro e w1 ⟨rfl, h1, hk1⟩; have H1 := Lib.hid (And.intro h1 hk1); clear h1 hk1)
  have hkw : Kept [] w w1 := HC.out.2.1.trans H1.out.2 (by simp)
  have hsrc : Src w1 (.slice (some ⟨w.heap.size, 0, none⟩) 4 8) w.heap.size (Lib.beBytes 4 v) := H1.out.1.srcAt (Lib.beBytes 4 v) (putAt_take _ _ _ (u8s_length _)) (Lib.beBytes_length _ _).symm 8
  have hwr := write_any q bs _ w.heap.size l (Lib.beBytes 4 v) w1 (HC.out.2.2.1.kept hkw (by simp) (by simp)) hsrc ⟨_, 8, by rw [Lib.beBytes_length]⟩ (by have := HC.out.2.2.2; rw [Lib.beBytes_length]; omega)
  have HW := Lib.hid hwr; have HK := Lib.hid hkw; clear hwr hkw hsrc
  go_wp2_with fail
  refine HW.out.mono ?_
  rintro e w2 ⟨rfl, bs', h1, h2⟩
  have H2 := Lib.hid (And.intro h1 h2); clear h1 h2
  go_wp2
  go_ret
  exact ⟨rfl, bs', H2.out.1, H2.out.2.kept_l HK.out⟩
set_option maxHeartbeats 1000000 in
set_option maxRecDepth 100000 in
/-- writeFixed of a number of 8 byte(s). -/
theorem wfix_u64 (q : Nat) (bs : List Nat) (l : List UInt8) (v : Nat) (w : World) (hw : Wr TB w q bs l) (hv : v < 18446744073709551616) (hl : l.length ≤ 1000000000) :
    Calls Tryz.prog 206 #[.iface 111 (.pointer (some ⟨q, 0, none⟩)), .iface 28 (.int .u64 (v : Int))] w fun e w' => e = .returned .nilIface ∧ Wrote q bs l (Lib.beBytes 8 v) w w' := by
  obtain ⟨wa, hwa⟩ : ∃ wa, wa = w.alloc (.cells (List.replicate 8 (.int .u8 0)).toArray 5) := ⟨_, rfl⟩
  have hmk : (Instr.makeSlice 22 (.int .i64 8) (.int .i64 8)).run Tryz.prog w = .ok (.slice (some ⟨w.heap.size, 0, none⟩) 8 8) wa := by rw [hwa]; exact make_bytes 8 (by omega) w
  have hba : Blk wa w.heap.size (List.replicate 8 (Value.int .u8 0)).toArray 5 := by rw [hwa]; exact Blk.new w _ _
  have hka : Kept [] w wa := by rw [hwa]; exact (Kept.refl [] w).alloc _
  have hm1 := method_wbuf
  have hm2 := nilAhead_wbuf
  have tn_u8 := fun v w => tno_u8 28 v w (by decide)
  have tn_u16 := fun v w => tno_u16 28 v w (by decide)
  have tn_u32 := fun v w => tno_u32 28 v w (by decide)
  have ty_u64 := tyes_u64
  have hput := put64_any w.heap.size 0 8 8 v _ 5 wa hba (by omega) (by omega) (by simp) hv
  have HC := Lib.hid (And.intro hput (And.intro hka (And.intro hw hl)))
  clear hw hput hba hka hl hwa hv
  go_enter Tryz.func206, Tryz.ntmps206
  go_upto_region 19 with (go_at_call 211; refine HC.out.1.mono ?_; rintro e w1 ⟨rfl, h1, hk1⟩; have H1 := Lib.hid (And.intro h1 hk1); clear h1 hk1)
  have hkw : Kept [] w w1 := HC.out.2.1.trans H1.out.2 (by simp)
  have hsrc : Src w1 (.slice (some ⟨w.heap.size, 0, none⟩) 8 8) w.heap.size (Lib.beBytes 8 v) := H1.out.1.srcAt (Lib.beBytes 8 v) (putAt_take _ _ _ (u8s_length _)) (Lib.beBytes_length _ _).symm 8
  have hwr := write_any q bs _ w.heap.size l (Lib.beBytes 8 v) w1 (HC.out.2.2.1.kept hkw (by simp) (by simp)) hsrc ⟨_, 8, by rw [Lib.beBytes_length]⟩ (by have := HC.out.2.2.2; rw [Lib.beBytes_length]; omega)
  have HW := Lib.hid hwr; have HK := Lib.hid hkw; clear hwr hkw hsrc
  go_wp2_with fail
  refine HW.out.mono ?_
  rintro e w2 ⟨rfl, bs', h1, h2⟩
  have H2 := Lib.hid (And.intro h1 h2); clear h1 h2
  go_wp2
  go_ret
  exact ⟨rfl, bs', H2.out.1, H2.out.2.kept_l HK.out⟩
end Go.Proofs.YtkcdakohmfodjaaGreat
