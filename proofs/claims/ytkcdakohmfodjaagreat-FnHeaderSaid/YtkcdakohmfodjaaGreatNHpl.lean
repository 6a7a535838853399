/-
  Lemmas on the way to the statement of YtkcdakohmfodjaaGreatHeader, joined out of these texts: Hpl, SpV, Rtab, SortP, Rend. No condition.
-/
import Derived.Laws.IdiomStrings
import Derived.Test.YtkcdakohmfodjaaGreatNFrm
import Derived.Test.YtkcdakohmfodjaaGreatNFrmOk
import Derived.Test.YtkcdakohmfodjaaGreatNHpW
import Derived.Test.YtkcdakohmfodjaaGreatNOwn
import Derived.Test.YtkcdakohmfodjaaGreatNPropV
namespace Go.Proofs.YtkcdakohmfodjaaGreat
open Go.RowKit
set_option linter.unusedVariables false
set_option linter.unusedSimpArgs false
section
variable {P : Program} {ops : Array Oper} {rest : List Oper} {o : Oper} {a : Act} {w : World} {Q : Exit → Act → World → Prop}
theorem wpList_run_g (hgd : Region.wanted o (yielded ops a.tmps) = true) (v : Value) (w' : World) (hr : (execOp a.eval o).run P w = .ok (.value v) w') (h : wpList P ops Q rest (a.put o.dst v) w') : wpList P ops Q (o :: rest) a w := by
  refine wpList_step fun K hK => ?_
  rw [if_pos hgd]
  unfold Oper.wp
  rw [hr]
  exact hK _ _ h
theorem wpList_indexAt_g (hgd : Region.wanted o (yielded ops a.tmps) = true) (ty : TypeId) (x i : Operand) (ho : o.op = .indexAddr ty x i) (ad ad' : Addr) (hx : a.eval x = .pointer (some ad)) (k : Nat) (hi : a.eval i = .int .i64 (k : Int)) (hr : (Instr.indexAt ty (.pointer (some ad)) (.int .i64 (k : Int))).run P w = .ok (.pointer (some ad')) w)
    (h : wpList P ops Q rest (a.put o.dst (.pointer (some ad'))) w) : wpList P ops Q (o :: rest) a w :=
  wpList_run_g hgd _ w (by simp only [execOp, ho, hx, hi, Sem.run_bind, hr, Result.andThen_ok, Sem.run_pure]) h
end
theorem run_indexAt_txt (g : Nat) : ∀ (k : Nat) (hk : k < 14) (w : World), (Instr.indexAt 30 (.pointer (some ⟨g, 14, none⟩)) (.int .i64 (k : Int))).run Tryz.prog w = .ok (.pointer (some ⟨g, 14 + k, none⟩)) w
  | 0, _, w => by kernel_rfl
  | 1, _, w => by kernel_rfl
  | 2, _, w => by kernel_rfl
  | 3, _, w => by kernel_rfl
  | 4, _, w => by kernel_rfl
  | 5, _, w => by kernel_rfl
  | 6, _, w => by kernel_rfl
  | 7, _, w => by kernel_rfl
  | 8, _, w => by kernel_rfl
  | 9, _, w => by kernel_rfl
  | 10, _, w => by kernel_rfl
  | 11, _, w => by kernel_rfl
  | 12, _, w => by kernel_rfl
  | 13, _, w => by kernel_rfl
  | k + 14, h, w => absurd h (by omega)
theorem properP_at {p : HP} (k : Nat) (hk : k < 14) (h : p.okAt k = false) : properP p = false := by
  cases hp : properP p with
  | false => rfl
  | true => have := proper_at hp k hk; rw [h] at this; cases this
theorem properP_end {p : HP} (h : ∀ j, j < 14 → p.okAt j = true) : properP p = p.okEnd := by
  unfold properP
  have : (List.range 14).all p.okAt = true := by rw [List.all_eq_true]; exact fun j hj => h j (List.mem_range.1 hj)
  rw [this, Bool.true_and]
theorem upto_succ {p : HP} {k : Nat} (h : ∀ j, j < k → p.okAt j = true) (hk : p.okAt k = true) : ∀ j, j < k + 1 → p.okAt j = true := fun j hj => by
  rcases Nat.lt_or_ge j k with h1 | h1
  · exact h j h1
  · obtain rfl : j = k := by omega
    exact hk
theorem bstr_nilH : bstr [] = ⟨#[]⟩ := rfl
theorem bstr_neH (l : List UInt8) (h : l ≠ []) : ¬ bstr l = ⟨#[]⟩ := fun e => h (by have := congrArg (fun s => s.data) e; simpa [bstr] using this)
theorem bstr_cat (a b : List UInt8) : bstr a ++ bstr b = bstr (a ++ b) := by
  unfold bstr
  apply ByteArray.ext
  simp [ByteArray.data_append]
theorem run_cat (x y : Operand) (t : TypeId) (o : Oper) (a : Act) (ho : o.op = .binOp .add 9 x y t) (l m : List UInt8) (hx : a.eval x = .string (bstr l)) (hy : a.eval y = .string (bstr m)) (hl : l.length + m.length ≤ 9223372036854775807) (w : World) :
    (execOp a.eval o).run Tryz.prog w = .ok (.value (.string (bstr (l ++ m)))) w := by
  have hn : ¬ ((9223372036854775807 : Int) < ((l.length + m.length : Nat) : Int)) := by omega
  rw [← bstr_cat]
  have h1 : (bstr l).size = l.length := by simp [bstr, ByteArray.size]
  have h2 : (bstr m).size = m.length := by simp [bstr, ByteArray.size]
  have hm : ¬ (((bstr l).size + (bstr m).size : Nat) : Int) > IntKind.i64.max := by rw [h1, h2]; simp [IntKind.max, IntKind.signed, IntKind.bits]; omega
  have h3 : ((Op.stringOp .add (bstr l) (bstr m)).run Tryz.prog w) = .ok (.string (bstr l ++ bstr m)) w := by
    unfold Op.stringOp
    simp only [if_neg hm, Sem.run_pure]
  simp only [execOp, ho, hx, hy, eqGuard, binOp, Bool.not_false, if_true, Sem.run_bind, Sem.run_pure, Result.andThen_ok, h3]
theorem wpList_cat_g {ops : Array Oper} {rest : List Oper} {o : Oper} {a : Act} {w : World} {Q : Exit → Act → World → Prop} (hgd : Region.wanted o (yielded ops a.tmps) = true) (x y : Operand) (t : TypeId) (ho : o.op = .binOp .add 9 x y t) (l m : List UInt8) (hx : a.eval x = .string (bstr l)) (hy : a.eval y = .string (bstr m)) (hl : l.length + m.length ≤ 9223372036854775807)
    (h : wpList Tryz.prog ops Q rest (a.put o.dst (.string (bstr (l ++ m)))) w) : wpList Tryz.prog ops Q (o :: rest) a w :=
  wpList_run_g hgd _ w (run_cat x y t o a ho l m hx hy hl w) h
/-- 'string(*w)' of a writer's bytes. -/
theorem conv_own {w : World} {T : TypeId} (hT : Tryz.prog.underlying T = some (.slice 5)) {v : Value} {l : List UInt8} (h : w.ownsRow 0 5 1 v l.length (u8s l)) : (convert T 9 v).run Tryz.prog w = .ok (.string ⟨l.toArray⟩) w := by
  rcases own_cases h with ⟨rfl, rfl⟩ | ⟨g, cap, rfl, hc, hcell⟩
  · exact run_convert_bytes_nil w _ _ hT Tryz.underlying5 0 0 _ Tryz.underlying9
  · exact run_convert_bytes_back w _ _ _ ⟨g, 0, none⟩ cap l hT Tryz.underlying5 Tryz.underlying9 fun j hj => by
      rw [addr_add]
      exact hcell j _ (by rw [u8s_get, List.getElem?_eq_getElem hj]; rfl)
theorem wr_fresh (w : World) : Wr 61 ((w.alloc (.cells #[] 5)).alloc (.cells #[.slice (some ⟨w.heap.size, 0, none⟩) 0 0] 61)) (w.heap.size + 1) [w.heap.size] [] :=
  ⟨.slice (some ⟨w.heap.size, 0, none⟩) 0 0, Blk.new_at (by simp), ⟨rfl, .inr ⟨w.heap.size, 0, #[], rfl, Nat.zero_le _, (Blk.new w #[] 5).alloc _, Nat.le_refl _, by unfold maxLen; omega, rfl, rfl⟩⟩, rfl, by simp⟩
theorem encFs_append (a b : List Fld) : encFs (a ++ b) = encFs a ++ encFs b := by
  induction a with
  | nil => rfl
  | cons x a ih => cases x with | mk name v => simp [encFs, ih]
theorem encL_append (a b : List Val) : encL (a ++ b) = encL a ++ encL b := by
  induction a with
  | nil => rfl
  | cons x a ih => simp [encL, ih]
theorem OkFs.get (l : List Fld) (p : Option (List UInt8)) (d : Nat) (h : OkFs l p d) (k : Nat) (name : List UInt8) (v : Val) (hk : l[k]? = some (.mk name v)) : name.length ≤ 255 ∧ OkV v d := by
  induction l generalizing k p with
  | nil => simp at hk
  | cons x l ih =>
    cases x with
    | mk nm u =>
      unfold OkFs at h
      cases k with
      | zero => simp only [List.getElem?_cons_zero, Option.some.injEq, Fld.mk.injEq] at hk; obtain ⟨rfl, rfl⟩ := hk; exact ⟨h.1, h.2.2.1⟩
      | succ k => exact ih _ h.2.2.2 k (by simpa using hk)
theorem OkL.get (l : List Val) (d : Nat) (h : OkL l d) (k : Nat) (v : Val) (hk : l[k]? = some v) : OkV v d := by
  induction l generalizing k with
  | nil => simp at hk
  | cons x l ih =>
    unfold OkL at h
    cases k with
    | zero => simp only [List.getElem?_cons_zero, Option.some.injEq] at hk; subst hk; exact h.1
    | succ k => exact ih h.2 k (by simpa using hk)
theorem costFs_get (l : List Fld) (k : Nat) (name : List UInt8) (v : Val) (hk : l[k]? = some (.mk name v)) : costV v ≤ costFs l := by
  induction l generalizing k with
  | nil => simp at hk
  | cons x l ih =>
    cases x with
    | mk nm u =>
      unfold costFs
      cases k with
      | zero => simp only [List.getElem?_cons_zero, Option.some.injEq, Fld.mk.injEq] at hk; obtain ⟨rfl, rfl⟩ := hk; omega
      | succ k => have := ih k (by simpa using hk); omega
theorem costL_get (l : List Val) (k : Nat) (v : Val) (hk : l[k]? = some v) : costV v ≤ costL l := by
  induction l generalizing k with
  | nil => simp at hk
  | cons x l ih =>
    unfold costL
    cases k with
    | zero => simp only [List.getElem?_cons_zero, Option.some.injEq] at hk; subst hk; omega
    | succ k => have := ih k (by simpa using hk); omega
theorem encFs_take_len (l : List Fld) (m : Nat) : (encFs (l.take m)).length ≤ (encFs l).length := by
  have := encFs_append (l.take m) (l.drop m)
  rw [List.take_append_drop] at this
  rw [this, List.length_append]; omega
theorem encL_take_len (l : List Val) (m : Nat) : (encL (l.take m)).length ≤ (encL l).length := by
  have := encL_append (l.take m) (l.drop m)
  rw [List.take_append_drop] at this
  rw [this, List.length_append]; omega
/-- The writer's value of v. -/
def WrVC (v : Val) : Prop := ∀ (B : Nat → Prop) (cs : List Value) (d q : Nat) (bs : List Nat) (l : List UInt8) (w : World), VHeld B w cs v → WfV v → OkV v d → costV v ≤ 2000 → Wr 61 w q bs l → (∀ b, B b → b ≠ q ∧ b ∉ bs) → l.length + d ≤ 100000010 → d ≤ 100 →
  Calls Tryz.prog 50 #[.pointer (some ⟨q, 0, none⟩), .agg cs.toArray] w fun e w' => e = .returned (.tuple #[]) ∧ ∃ bs', Wr 61 w' q bs' (l ++ encV v) ∧ Adv q bs bs' w w'
/-- The writer's table of fs. -/
def WrFC (fs : List Fld) : Prop := ∀ (B : Nat → Prop) (s : Value) (p : Option (List UInt8)) (d q : Nat) (bs : List Nat) (l : List UInt8) (w : World), FSl B w s fs → WfFs fs → fs.length ≤ 140737488355328 → OkFs fs p d → costFs fs ≤ 2000 → Wr 61 w q bs l → (∀ b, B b → b ≠ q ∧ b ∉ bs) → l.length + d ≤ 100000010 → d ≤ 100 →
  Calls Tryz.prog 32 #[.pointer (some ⟨q, 0, none⟩), s] w fun e w' => e = .returned (.tuple #[]) ∧ ∃ bs', Wr 61 w' q bs' (l ++ encT fs) ∧ Adv q bs bs' w w'
set_option maxHeartbeats 2000000 in
set_option maxRecDepth 100000 in
theorem wtable_of (fs : List Fld) (hv : ∀ x, x ∈ fs → WrVC x.val) : WrFC fs := by
  intro B s p d q bs l w hs hwf hll hok hcost hw hB hl hd1
  obtain ⟨fa, fc, rfl, hfc, hfs, hget⟩ := hs.get
  have hn : (fs.length : Int) ≤ 140737488355328 := by omega
  have hel := encFs_len fs
  have H := Lib.hid (And.intro hs (And.intro hwf (And.intro hok (And.intro hcost (And.intro hw (And.intro hB (And.intro hget (And.intro hv (And.intro hl (And.intro hel hd1))))))))))
  clear hs hwf hok hcost hw hB hget hv hfs hl hel hd1
  go_enter Tryz.func32, Tryz.ntmps32
  go_wp2_with fail
  generalize hW1 : (w.alloc _).alloc _ = W1
  have hwi : Wr 61 W1 (w.heap.size + 1) [w.heap.size] [] := by rw [← hW1]; exact wr_fresh w
  have hk1 : Kept [] w W1 := by rw [← hW1]; exact ((Kept.refl [] w).alloc _).alloc _
  have hsz1 : W1.heap.size = w.heap.size + 1 + 1 := by rw [← hW1]; simp
  clear hW1
  go_loopw [11] (fun i W => ∃ (m : Nat) (bi : List Nat), m ≤ fs.length ∧ i = .int .i64 (m : Int) ∧ Hid (Wr 61 W (w.heap.size + 1) bi (encFs (fs.take m)) ∧ Adv (w.heap.size + 1) [w.heap.size] bi W1 W)) (fun i _ => fs.length - (intOf i).toNat)
  case atStart => exact ⟨0, [w.heap.size], Nat.zero_le _, rfl, Lib.hid ⟨hwi, Adv.refl _ _ _⟩⟩
  case round =>
    obtain ⟨m, bi, hmk, rfl, HR⟩ := hrel
    have hbi : ∀ b ∈ bi, w.heap.size ≤ b ∧ b < wr.heap.size := fun b hb => ⟨by rcases HR.out.2.own b hb with h | h; simp at h; omega; omega, HR.out.1.blt b hb⟩
    have hkw : Kept [] w wr := hk1.trans HR.out.2.kept (fun x hx => .inr (by simp at hx; omega))
    have HB := Lib.hid (And.intro hbi hkw); clear hbi hkw
    by_cases hlt : m < fs.length
    · obtain ⟨name, v, hx⟩ : ∃ name v, fs[m]? = some (.mk name v) := by
        rw [List.getElem?_eq_getElem hlt]; cases fs[m] with | mk name v => exact ⟨name, v, rfl⟩
      obtain ⟨ad, cs, rfl, hca, hvh⟩ := H.out.2.2.2.2.2.2.1 m name v hx
      have hlt' : (m : Int) < fs.length := by omega
      have hca' := (hca.kept HB.out.2 (by simp)).2
      have hvh' := VHeld.kept HB.out.2 (by simp) v hvh
      obtain ⟨a0, a1, a2, a3, a4, a5, a6, rfl⟩ := hvh'.seven
      have hvlt := VHeld.mono (B' := fun b => B b ∧ b < w.heap.size) (fun b hb hl => ⟨hb, hl⟩) v hvh
      have HX := Lib.hid (And.intro hx (And.intro hca' (And.intro hvh' hvlt)))
      clear hx hca hca' hvh hvh' hvlt
      go_upto_region 4 with (first
        | (refine wpList_load_cells rfl 143 (.tmp 13) rfl _ rfl _ HX.out.2.1 _ Tryz.underlying143 rfl size_sFld ?_)
        | (refine wpList_store_row (P := Tryz.prog) rfl rfl 143 (.tmp 6) (.tmp 14) rfl wr.heap.size rfl 143 _ [.string (bstr name), a0, a1, a2, a3, a4, a5, a6] (Blk.new wr _ _) rfl rfl (by intro u hu; rcases List.mem_cons.1 hu with rfl | hu; rfl; exact HX.out.2.2.1.one u hu) size_sFld ?_; intro w2 hb2 hk2; have HB2 := Lib.hid (And.intro hb2 (((Kept.refl [] wr).alloc _).trans hk2 (S' := [wr.heap.size]) (by simp))); clear hb2 hk2))
      have c0 : w2.cell? ⟨wr.heap.size, 0, none⟩ = some (.string (bstr name)) := HB2.out.1.cell 0
      have hnm := OkFs.get fs _ _ H.out.2.2.1 m name v HX.out.1
      have hln := encFs_take_len fs m
      have hsh := short_any (w.heap.size + 1) name bi (encFs (fs.take m)) w2 (HR.out.1.kept HB2.out.2 (by simp) (by simp)) (by omega) (by have := H.out.2.2.2.2.2.2.2.2.2.1; have := H.out.2.2.2.1; omega)
      have HS := Lib.hid hsh; have HN := Lib.hid (And.intro hnm hln); clear hsh hnm hln
      go_upto_region 5 with (go_at_call 30; refine HS.out.mono ?_; rintro e w3 ⟨rfl, b3, hw3, ha3⟩; have H3 := Lib.hid (And.intro hw3 ha3); clear hw3 ha3)
      have hq3 : wr.heap.size ∉ (w.heap.size + 1) :: bi := by
        simp only [List.mem_cons, not_or]
        exact ⟨by have := HR.out.1.lt; omega, fun h => by have := (HB.out.1 _ h).2; omega⟩
      have hb3 := HB2.out.1.kept H3.out.2.kept hq3
      have hcells := hb3.cell
      have z1 : w3.cell? ⟨wr.heap.size, 1, none⟩ = some a0 := hcells 1
      have z2 : w3.cell? ⟨wr.heap.size, 2, none⟩ = some a1 := hcells 2
      have z3 : w3.cell? ⟨wr.heap.size, 3, none⟩ = some a2 := hcells 3
      have z4 : w3.cell? ⟨wr.heap.size, 4, none⟩ = some a3 := hcells 4
      have z5 : w3.cell? ⟨wr.heap.size, 5, none⟩ = some a4 := hcells 5
      have z6 : w3.cell? ⟨wr.heap.size, 6, none⟩ = some a5 := hcells 6
      have z7 : w3.cell? ⟨wr.heap.size, 7, none⟩ = some a6 := hcells 7
      have hk3 : Kept [] w w3 := (HB.out.2.trans HB2.out.2 (by simp)).trans H3.out.2.kept (fun x hx => by
        simp only [List.mem_cons] at hx
        rcases hx with rfl | hx
        · exact .inr (by omega)
        · exact .inr (HB.out.1 x hx).1)
      have hvc := H.out.2.2.2.2.2.2.2.1 (.mk name v) (List.mem_of_getElem? HX.out.1) (fun b => B b ∧ b < w.heap.size) _ d (w.heap.size + 1) b3 _ w3 (VHeld.kept hk3 (by simp) v HX.out.2.2.2) (WfFs.get fs H.out.2.1 m name v HX.out.1).2 HN.out.1.2
        (by have := costFs_get fs m name v HX.out.1; have := H.out.2.2.2.1; simp only [Fld.val]; omega) H3.out.1 (fun b hb => ⟨by omega, fun hm => by rcases H3.out.2.own b hm with h | h; have := (HB.out.1 b h).1; omega; have := HB2.out.2.size; have := HB.out.2.size; omega⟩)
        (by have := H.out.2.2.2.2.2.2.2.2.2.1; have := H.out.2.2.2.1; have := HN.out.2; have := HN.out.1.1; have := H.out.2.2.2.2.2.2.2.2.2.2; simp [Lib.beBytes_length]; omega) H.out.2.2.2.2.2.2.2.2.2.2
      have HV := Lib.hid hvc; clear hvc hcells hb3 hk3
      go_wp2_with (go_at_call 50; refine HV.out.mono ?_; rintro e w4 ⟨rfl, b4, hw4, ha4⟩; have H4 := Lib.hid (And.intro hw4 ha4); clear hw4 ha4)
      go_roundw
      case rel =>
        refine ⟨m + 1, b4, hlt, rfl, Lib.hid ⟨?_, ?_⟩⟩
        · have e1 : fs.take (m + 1) = fs.take m ++ [.mk name v] := by rw [List.take_add_one, HX.out.1]; rfl
          rw [e1, encFs_append]
          have := H4.out.1
          simp only [encFs, Fld.val, List.append_nil, List.append_assoc] at this ⊢
          exact this
        · exact (HR.out.2.trans (⟨HB2.out.2.mono (by simp), fun b hb => .inl hb⟩ : Adv (w.heap.size + 1) bi bi wr w2)).trans (H3.out.2.trans H4.out.2)
      case measure => simp [intOf]; omega
    · have hkn : (m : Int) = fs.length := by omega
      have hwi2 := HR.out.1
      rw [List.take_of_length_le (by omega)] at hwi2
      obtain ⟨v, q1, q2, q3, q4⟩ := hwi2
      have c1 := q1.cell0
      have hcv := conv_own Tryz.underlying61 q2
      have hlg := long_any q (encFs fs) bs l wr (H.out.2.2.2.2.1.kept HB.out.2 (by simp) (by simp)) (by have := H.out.2.2.2.2.2.2.2.2.2.1; have := H.out.2.2.2.1; omega) (by have := H.out.2.2.2.2.2.2.2.2.1; omega)
      have HL := Lib.hid hlg; clear hlg q1 q2 q3 q4
      go_wp2_with (go_at_call 31; refine HL.out.mono ?_; rintro e w4 ⟨rfl, b4, hw4, ha4⟩; have H4 := Lib.hid (And.intro hw4 ha4); clear hw4 ha4)
      go_end0
      exact ⟨rfl, b4, H4.out.1, (⟨HB.out.2.mono (by simp), fun b hb => .inl hb⟩ : Adv q bs bs w wr).trans H4.out.2⟩
theorem len_map {w : World} {b : Nat} {es : List (Value × Value)} (h : MapAt w b es) (ty : TypeId) : (Builtin.len_ #[96] ty #[.map (some b)]).run Tryz.prog w = .ok (.int .i64 es.length) w := by
  unfold MapAt at h
  simp [Builtin.len_, run_underlying Tryz.underlying96, MapKept.run_getObj_map h, goInt, mapEnts_length]
theorem bytes_ne (a b : List UInt8) (h : a ≠ b) : ((⟨a.toArray⟩ : ByteArray) == ⟨b.toArray⟩) = false := by
  show (a.toArray == b.toArray) = false
  simpa using h
theorem bytesLess_irrefl (a : List UInt8) : Op.bytesLess a a = false := by
  induction a with
  | nil => rfl
  | cons x a ih => simp [Op.bytesLess, ih]
theorem bytesLess_trans : ∀ (a b c : List UInt8), Op.bytesLess a b = true → Op.bytesLess b c = true → Op.bytesLess a c = true
  | _, [], _, h, _ => by cases ‹List UInt8› <;> simp [Op.bytesLess] at h
  | a, y :: b, [], _, h => by simp [Op.bytesLess] at h
  | [], y :: b, z :: c, _, _ => rfl
  | x :: a, y :: b, z :: c, h, h' => by
    simp only [Op.bytesLess, Bool.or_eq_true, decide_eq_true_eq, Bool.and_eq_true, beq_iff_eq] at h h' ⊢
    rcases h with h | ⟨rfl, h⟩
    · rcases h' with h' | ⟨rfl, h'⟩
      · exact .inl (UInt8.lt_trans h h')
      · exact .inl h
    · rcases h' with h' | ⟨rfl, h'⟩
      · exact .inl h'
      · exact .inr ⟨rfl, bytesLess_trans a b c h h'⟩
theorem OkFs.above : ∀ (l : List Fld) (p : List UInt8) (d : Nat), OkFs l (some p) d → ∀ x ∈ l, Op.bytesLess p x.name = true
  | [], p, d, _, x, hx => by simp at hx
  | .mk nm u :: l, p, d, h, x, hx => by
    unfold OkFs at h
    have h1 := h.2.1 p rfl
    rcases List.mem_cons.1 hx with rfl | hx
    · exact h1
    · exact bytesLess_trans _ _ _ h1 (OkFs.above l nm d h.2.2.2 x hx)
/-- A name is none of those ahead of it. -/
theorem OkFs.fresh : ∀ (l : List Fld) (p : Option (List UInt8)) (d : Nat), OkFs l p d → ∀ (m : Nat) (name : List UInt8) (v : Val), l[m]? = some (.mk name v) → ∀ x ∈ l.take m, x.name ≠ name
  | [], p, d, _, m, name, v, hm, x, hx => by simp at hx
  | .mk nm u :: l, p, d, h, 0, name, v, hm, x, hx => by simp at hx
  | .mk nm u :: l, p, d, h, m + 1, name, v, hm, x, hx => by
    unfold OkFs at h
    simp only [List.getElem?_cons_succ] at hm
    rw [List.take_succ_cons] at hx
    rcases List.mem_cons.1 hx with rfl | hx
    · intro e
      have := OkFs.above l nm d h.2.2.2 (.mk name v) (List.mem_of_getElem? hm)
      simp only [Fld.name] at this e
      rw [e, bytesLess_irrefl] at this
      exact Bool.noConfusion this
    · exact OkFs.fresh l _ d h.2.2.2 m name v hm x hx
/-- The package's reading of v. -/
def RdVC (v : Val) : Prop := ∀ (d : Nat) (dep : Int) (w : World) (r : Value) (ps : List Nat) (db : Nat) (Ns : List Nat) (rest : List UInt8), WfV v → OkV v d → costV v ≤ 2000 → 0 ≤ dep → dep + d ≤ 30 →
  Rd w r ps db Ns (encV v ++ rest) → (encV v ++ rest).length ≤ 900000000 → (encV v).length ≤ avail Ns (encV v ++ rest) → db < w.heap.size →
  Calls Tryz.prog 165 #[r, .int .i64 dep] w fun e w' => ∃ x, e = .returned (.tuple #[x, .nilIface]) ∧ PV (fun b => w.heap.size ≤ b) w' x v ∧ Rd w' r ps db (Ns.map (· - (encV v).length)) rest ∧ Kept ps w w'
/-- The package's reading of a table. -/
def RdFC (fs : List Fld) : Prop := ∀ (p : Option (List UInt8)) (d : Nat) (dep : Int) (w : World) (r : Value) (ps : List Nat) (db : Nat) (Ns : List Nat) (rest : List UInt8), WfFs fs → OkFs fs p d → costFs fs ≤ 2000 → 0 ≤ dep → dep + d ≤ 30 →
  Rd w r ps db Ns (encT fs ++ rest) → (encT fs ++ rest).length ≤ 900000000 → (encT fs).length ≤ avail Ns (encT fs ++ rest) → db < w.heap.size →
  Calls Tryz.prog 158 #[r, .int .i64 dep] w fun e w' => ∃ b es, e = .returned (.tuple #[.map (some b), .nilIface]) ∧ w.heap.size ≤ b ∧ MapAt w' b es ∧ PF (fun b => w.heap.size ≤ b) w' es fs ∧ Rd w' r ps db (Ns.map (· - (encT fs).length)) rest ∧ Kept ps w w'
/-- The bytes that are left in the buffer at nb. -/
def leftIn (nb : Nat) (w : World) : Nat := match w.cell? ⟨nb, 0, none⟩ with | some (.slice _ n _) => n | _ => 0
theorem Buf.leftIn {w : World} {b d : Nat} {l : List UInt8} (h : Buf w b d l) : leftIn b w = l.length := by
  obtain ⟨ao, c, h1, _, _⟩ := h
  unfold Go.Proofs.YtkcdakohmfodjaaGreat.leftIn
  rw [h1.cell0]
theorem costFs_len (l : List Fld) : l.length ≤ costFs l := by
  induction l with
  | nil => simp [costFs]
  | cons x l ih => cases x with | mk nm u => unfold costFs; simp only [List.length_cons]; omega
section
variable {P : Program} {ops : Array Oper} {rest : List Oper} {o : Oper} {a : Act} {w : World} {Q : Exit → Act → World → Prop}
/-- 'm[k] = v' of a key that is new, as an assignment. -/
theorem wpList_update_new (hgd : o.guard = none) (hdst : o.dst = none) (t : TypeId) (m k v : Operand) (ho : o.op = .mapUpdate t m k v) (b : Nat) (es : List (Value × Value)) (h : MapAt w b es) (hm : a.eval m = .map (some b)) (kt e : TypeId) (kd : TypeDesc)
    (ht : P.underlying t = some (.map kt e)) (hu : P.underlying kt = some kd) (hp : (match kd with | .int _ | .string | .bool => true | _ => false) = true) (kv vv : Value) (hkv : a.eval k = kv) (hvv : a.eval v = vv) (hk : ∀ e ∈ es, Instr.sameNow kd kv e.1 = some false)
    (hK : ∀ w', MapAt w' b (es ++ [(kv, vv)]) → Kept [b] w w' → wpList P ops Q rest a w') : wpList P ops Q (o :: rest) a w := by
  refine wpList_plain hgd fun K hK' => ?_
  obtain ⟨w', hr, h1, h2⟩ := run_mapUpdate_new (P := P) h ht hu hp kv vv hk
  unfold Oper.wp execOp
  simp only [ho, hm, hkv, hvv, Sem.run_bind, Sem.run_pure, hr, Result.andThen_ok, Oper.upon_skip, hdst, Act.put]
  exact hK' _ _ (hK w' h1 h2)
end
set_option maxHeartbeats 2000000 in
set_option maxRecDepth 100000 in
theorem rtab_of (fs : List Fld) (hv : ∀ x, x ∈ fs → RdVC x.val) : RdFC fs := by
  intro p d dep w r ps db Ns rest hwf hok hcost hd0 hd1 hr hlen hav hdb
  have hel := encFs_len fs
  have hbl4 := Lib.beBytes_length 4 (encFs fs).length
  unfold encT at hr hlen hav
  rw [List.append_assoc] at hr hlen hav
  have hlen' : (encFs fs).length + rest.length + 4 ≤ 900000000 := by simp only [List.length_append] at hlen; omega
  have hgp : ∀ b, w.heap.size ≤ b → b ∉ ps := fun b hb hm => by have := hr.mem_lt _ hm; omega
  have hka : Kept [] w (w.alloc (.cells #[.slice none 0 0] 113)) := (Kept.refl [] w).alloc _
  have hb0 : Blk (w.alloc (.cells #[.slice none 0 0] 113)) w.heap.size #[.slice none 0 0] 113 := Blk.new w _ _
  have hlg := rlong (encFs fs) rest (hr.kept hka (by simp) (by simp)) (by omega) (by omega) (by simp only [List.length_append] at hav; omega) (Nat.lt_of_lt_of_le hdb hka.size)
  have HL := Lib.hid hlg
  have H := Lib.hid (And.intro hwf (And.intro hok (And.intro hcost (And.intro hel (And.intro hlen' (And.intro hgp (And.intro hka (And.intro hb0 (And.intro hv hdb)))))))))
  have hdep : ¬ (32 : Int) < dep := by omega
  have hmk : ∀ w : World, (Instr.makeMap 96 none).run Tryz.prog w = .ok (.map (some w.heap.size)) (w.alloc (.map #[] 0)) := fun w => run_makeMap _ w
  clear hlg hwf hok hcost hel hlen' hgp hka hb0 hv hdb hbl4 hr hlen hav
  go_enter Tryz.func158, Tryz.ntmps158
  go_wp2_with (first
    | (go_at_call 157; refine HL.out.mono ?_; rintro e w2 ⟨rfl, r2, k2⟩; have hws := writeString_new w.heap.size (encFs fs) w2 (H.out.2.2.2.2.2.2.2.1.kept k2 (H.out.2.2.2.2.2.1 _ (Nat.le_refl _))) (by have := H.out.2.2.2.2.1; omega); have H2 := Lib.hid (And.intro r2 (And.intro k2 hws)); clear r2 k2 hws)
    | (go_at_call 164; refine H2.out.2.2.mono ?_; rintro e w3 ⟨rfl, d3, h3a, h3b, h3c, h3d⟩; have H3 := Lib.hid (And.intro h3a (And.intro h3b (And.intro h3c h3d))); clear h3a h3b h3c h3d))
  generalize hmb : w3.heap.size = mb at *
  obtain ⟨W1, hW1⟩ : ∃ W1, W1 = w3.alloc (.map #[] 0) := ⟨_, rfl⟩
  rw [← hW1]
  have hm1 : MapAt W1 mb [] := by rw [hW1, ← hmb]; exact MapAt.new w3
  have hk31 : Kept [] w3 W1 := by rw [hW1]; exact (Kept.refl [] w3).alloc _
  have hz1 : W1.heap.size = mb + 1 := by rw [hW1]; simp [hmb]
  have hbf1 := H3.out.2.2.1.kept hk31 (by simp) (by simp)
  have hnb : w.heap.size < mb := by
    have h1 := H2.out.2.1.size; have h2 := H3.out.2.2.2.size
    simp at h1; omega
  have hd3 : w.heap.size < d3 := by
    have h1 := H2.out.2.1.size; have := H3.out.1
    simp at h1; omega
  have hdm : encFs fs ≠ [] → d3 < mb := H3.out.2.1
  have HH := Lib.hid (And.intro hk31 (And.intro hz1 (And.intro hnb (And.intro hd3 hdm)))); clear hk31 hz1 hnb hd3 hdm hmk hW1
  go_loopw [4, 5] (fun mv ev W => mv = .map (some mb) ∧ ev = .nilIface ∧ ∃ (m : Nat) (es : List (Value × Value)), m ≤ fs.length ∧ es.length = m ∧ Hid (Buf W w.heap.size d3 (encFs (fs.drop m)) ∧ MapAt W mb es ∧ PF (fun b => mb + 1 ≤ b) W es (fs.take m) ∧ Kept [w.heap.size, mb] W1 W)) (fun _ _ W => leftIn w.heap.size W)
  case atStart => exact ⟨rfl, rfl, 0, [], Nat.zero_le _, rfl, Lib.hid ⟨hbf1, hm1, by rw [List.take_zero]; unfold PF; rfl, Kept.refl _ _⟩⟩
  case round =>
    obtain ⟨rfl, rfl, m, es, hmk, hem, HR⟩ := hrel
    have hln := blen_any w.heap.size d3 (encFs (fs.drop m)) wr HR.out.1
    have HN := Lib.hid hln; clear hln
    by_cases hlt : m < fs.length
    · obtain ⟨name, v, hx⟩ : ∃ name v, fs[m]? = some (.mk name v) := by
        rw [List.getElem?_eq_getElem hlt]; cases fs[m] with | mk name v => exact ⟨name, v, rfl⟩
      have hdrop : fs.drop m = .mk name v :: fs.drop (m + 1) := by
        rw [List.getElem?_eq_getElem hlt, Option.some.injEq] at hx
        rw [← hx]; exact List.drop_eq_getElem_cons hlt
      have henc : encFs (fs.drop m) = Lib.beBytes 1 name.length ++ (name ++ (encV v ++ encFs (fs.drop (m + 1)))) := by rw [hdrop]; simp [encFs, List.append_assoc]
      have hlen : (encFs (fs.drop m)).length ≤ (encFs fs).length := by
        have := encFs_append (fs.take m) (fs.drop m)
        rw [List.take_append_drop] at this
        rw [this, List.length_append]; omega
      have hb1 := Lib.beBytes_length 1 name.length
      have hpos : (0 : Int) < ((encFs (fs.drop m)).length : Int) := by rw [henc]; simp only [List.length_append]; omega
      have hne : encFs fs ≠ [] := by intro e; rw [e] at hlen; simp only [List.length_nil] at hlen; omega
      have hdm := HH.out.2.2.2.2 hne
      have hwsz : mb + 1 ≤ wr.heap.size := by have := HR.out.2.2.2.size; have := HH.out.2.1; omega
      have hnm := OkFs.get fs _ _ H.out.2.1 m name v hx
      have hrd : Rd wr (.iface 111 (.pointer (some ⟨w.heap.size, 0, none⟩))) [w.heap.size] d3 [] (encFs (fs.drop m)) := .buf _ _ _ HR.out.1 (by have := HH.out.2.2.2.1; omega)
      have hrd' := hrd
      rw [henc] at hrd
      have hll : 1 + (name.length + ((encV v).length + (encFs (fs.drop (m + 1))).length)) ≤ 900000000 := by
        have h1 := hlen; rw [henc] at h1; simp only [List.length_append] at h1
        have := H.out.2.2.2.1; have := H.out.2.2.1
        omega
      have hsh := rshort name _ hrd hnm.1 (by simp only [List.length_append]; omega) (by simp [avail]; omega) (by omega)
      have hfr := OkFs.fresh fs _ _ H.out.2.1 m name v hx
      have hkeys := HR.out.2.2.1.keys
      have hnew : ∀ e ∈ es, Instr.sameNow .string (.string ⟨name.toArray⟩) e.1 = some false := by
        intro e he
        have h1 : e.1 ∈ es.map Prod.fst := List.mem_map_of_mem he
        rw [hkeys] at h1
        obtain ⟨x, hx1, hx2⟩ := List.mem_map.1 h1
        have h2 := hfr x hx1
        rw [← hx2]
        have h3 : name ≠ x.name := fun e => h2 e.symm
        exact congrArg some (bytes_ne _ _ h3)
      have hcv := costFs_get fs m name v hx
      have hwv := (WfFs.get fs H.out.1 m name v hx).2
      have hvc := fun (W : World) hr hd3w => H.out.2.2.2.2.2.2.2.2.1 (.mk name v) (List.mem_of_getElem? hx) d dep W (.iface 111 (.pointer (some ⟨w.heap.size, 0, none⟩))) [w.heap.size] d3 [] (encFs (fs.drop (m + 1))) hwv hnm.2 (by have := H.out.2.2.1; simp only [Fld.val]; omega) hd0 hd1 hr (by simp only [Fld.val, List.length_append]; omega) (by simp [avail]) hd3w
      have hes : ¬ (8192 : Int) ≤ (m : Int) := by have := costFs_len fs; have := H.out.2.2.1; omega
      have HS := Lib.hid hsh; have HV := Lib.hid hvc; have HX := Lib.hid (And.intro hx (And.intro hnew (And.intro hdm hwsz)))
      have HE := Lib.hid (And.intro henc hrd')
      clear hsh hvc hx hnew hcv hwv hkeys hfr hll hrd hrd' hnm hdm hwsz hb1 hlen hdrop hne henc
      go_wp2_with (first
        | (go_at_call 44; refine HN.out.mono ?_; rintro e w4 ⟨rfl, rfl⟩)
        | (go_at_call 144; refine HS.out.mono ?_; rintro e w5 ⟨rfl, r5, k5⟩; have hv5 := HV.out w5 r5 (by have := k5.size; have := HX.out.2.2; omega); have H5 := Lib.hid (And.intro k5 hv5); clear hv5 r5 k5)
        | (go_at_call 165; refine H5.out.2.mono ?_; rintro e w6 ⟨x, rfl, p6, r6, k6⟩; have hk6 : Kept [w.heap.size] wr w6 := H5.out.1.trans k6 (fun x hx => .inl hx); have hm6 : MapAt w6 mb es := HR.out.2.1.kept hk6 (by simp; have := HH.out.2.2.1; omega); have hlm := fun ty => len_map hm6 ty; rw [hem] at hlm; have H6 := Lib.hid (And.intro p6 (And.intro r6 (And.intro hk6 hm6))); clear p6 r6 k6 hk6 hm6)
        | (refine wpList_update_new rfl rfl 96 (.tmp 46) (.tmp 47) (.tmp 48) rfl mb es H6.out.2.2.2 rfl _ _ _ Tryz.underlying96 Tryz.underlying9 rfl (.string ⟨name.toArray⟩) x rfl rfl HX.out.2.1 ?_; intro w7 m7 k7; have H7 := Lib.hid (And.intro m7 k7); clear m7 k7))
      go_roundw
      case rel =>
        have hbf := H6.out.2.1.buf_inv
        have hz5 := H5.out.1.size
        have hk7 : Kept [w.heap.size, mb] wr w7 := (H6.out.2.2.1.mono (by simp)).trans H7.out.2 (by simp)
        refine ⟨rfl, rfl, m + 1, es ++ [(.string ⟨name.toArray⟩, x)], hlt, by simp [hem], Lib.hid ⟨hbf.kept H7.out.2 (by simp; have := HH.out.2.2.1; omega) (by simp; have := HX.out.2.2.1; omega), H7.out.1, ?_, HR.out.2.2.2.trans hk7 (fun x hx => .inl hx)⟩⟩
        have e1 : fs.take (m + 1) = fs.take m ++ [.mk name v] := by rw [List.take_add_one, HX.out.1]; rfl
        rw [e1]
        refine PF.snoc name v x (PV.kept H7.out.2 (fun b hb => by simp; omega) v (PV.mono (fun b hb _ => by have := HX.out.2.2.2; omega) v H6.out.1)) _ _ ?_
        exact PF.kept hk7 (fun b hb => by simp; have := HH.out.2.2.1; omega) _ HR.out.2.2.1
      case measure =>
        have hbf := H6.out.2.1.buf_inv
        have hb7 := hbf.kept H7.out.2 (by simp; have := HH.out.2.2.1; omega) (by simp; have := HX.out.2.2.1; omega)
        rw [hb7.leftIn, HR.out.1.leftIn, HE.out.1]
        simp only [List.length_append, Lib.beBytes_length]
        omega
    · have hfin : fs.drop m = [] := List.drop_of_length_le (by omega)
      have hbe := HR.out.1
      rw [hfin] at hbe
      have hln2 : Calls Tryz.prog 44 #[.pointer (some ⟨w.heap.size, 0, none⟩)] wr fun e w' => e = .returned (.int .i64 0) ∧ wr = w' := blen_any w.heap.size d3 [] wr hbe
      have HN2 := Lib.hid hln2; clear hln2 hbe
      go_wp2_with (go_at_call 44; refine HN2.out.mono ?_; rintro e w4 ⟨rfl, rfl⟩)
      go_ret2
      have hkr : Kept [w.heap.size] w2 wr := (H3.out.2.2.2.trans (HH.out.1.mono (by simp)) (fun x hx => .inl hx)).trans HR.out.2.2.2 (fun x hx => by
        simp only [List.mem_cons, List.not_mem_nil, or_false] at hx
        rcases hx with rfl | rfl
        · exact .inl (by simp)
        · exact .inr (by rw [← hmb]; exact H3.out.2.2.2.size))
      have hka := H.out.2.2.2.2.2.2.1
      have hwk : Kept ps w wr := ((hka.mono (by simp)).trans H2.out.2.1 (fun x hx => .inl hx)).trans hkr (fun x hx => by simp at hx; exact .inr (by omega))
      refine ⟨mb, es, rfl, Nat.le_of_lt HH.out.2.2.1, HR.out.2.1, ?_, ?_, hwk⟩
      · have := HR.out.2.2.1
        rw [List.take_of_length_le (by omega)] at this
        exact PF.mono (fun b hb _ => by have := HH.out.2.2.1; omega) _ this
      · have e2 : (encT fs).length = 4 + (encFs fs).length := by unfold encT; rw [List.length_append, Lib.beBytes_length]
        rw [e2]
        exact H2.out.1.kept hkr (fun p hp => by simp; intro e; exact H.out.2.2.2.2.2.1 _ (Nat.le_refl _) (e ▸ hp)) (by simp; have := H.out.2.2.2.2.2.2.2.2.2; omega)
end Go.Proofs.YtkcdakohmfodjaaGreat
namespace Go.Proofs.YtkcdakohmfodjaaGreat
set_option linter.unusedVariables false
set_option linter.unusedSimpArgs false
theorem bytesLess_tri : ∀ (a b : List UInt8), Op.bytesLess a b = false → Op.bytesLess b a = false → a = b
  | [], [], _, _ => rfl
  | [], y :: b, h, _ => by simp [Op.bytesLess] at h
  | x :: a, [], _, h => by simp [Op.bytesLess] at h
  | x :: a, y :: b, h, h' => by
    simp only [Op.bytesLess, Bool.or_eq_false_iff, decide_eq_false_iff_not, Bool.and_eq_false_imp, beq_iff_eq] at h h'
    have hxy : x = y := UInt8.le_antisymm (UInt8.not_lt.1 h'.1) (UInt8.not_lt.1 h.1)
    rw [bytesLess_tri a b (h.2 hxy) (h'.2 hxy.symm), hxy]
/-- A permutation of a list's images is the images of a permutation. -/
theorem perm_lift {α β : Type} (f : α → β) : ∀ {a b : List β}, a.Perm b → ∀ xs : List α, xs.map f = a → ∃ ys : List α, ys.Perm xs ∧ ys.map f = b := by
  intro a b h
  induction h with
  | nil => intro xs hx; exact ⟨xs, List.Perm.refl _, hx⟩
  | cons x _ ih =>
    intro xs hx
    cases xs with
    | nil => simp at hx
    | cons z xs =>
      simp only [List.map_cons, List.cons.injEq] at hx
      obtain ⟨ys, h1, h2⟩ := ih xs hx.2
      exact ⟨z :: ys, h1.cons z, by simp [h2, hx.1]⟩
  | swap x y l =>
    intro xs hx
    match xs, hx with
    | [], hx => simp at hx
    | [_], hx => simp at hx
    | z :: u :: xs, hx =>
      simp only [List.map_cons, List.cons.injEq] at hx
      exact ⟨u :: z :: xs, List.Perm.swap z u xs, by simp [hx.1, hx.2.1, hx.2.2]⟩
  | trans _ _ ih1 ih2 =>
    intro xs hx
    obtain ⟨ys, h1, h2⟩ := ih1 xs hx
    obtain ⟨zs, h3, h4⟩ := ih2 ys h2
    exact ⟨zs, h3.trans h1, h4⟩
/-- Fields whose names grow: the only sorted order. -/
theorem sorted_unique (L : List Fld) (hL : L.Pairwise (fun x y => Op.bytesLess x.name y.name = true)) (l : List Fld) (hp : l.Perm L) (hs : l.Pairwise (fun x y => Op.bytesLess y.name x.name = false)) : l = L := by
  refine List.Perm.eq_of_pairwise (le := fun x y => Op.bytesLess y.name x.name = false) ?_ hs ?_ hp
  · intro a b ha hb h1 h2
    have ha := hp.subset ha
    obtain ⟨i, hi, rfl⟩ := List.mem_iff_getElem.1 ha
    obtain ⟨j, hj, rfl⟩ := List.mem_iff_getElem.1 hb
    rcases Nat.lt_trichotomy i j with h | h | h
    · have := List.pairwise_iff_getElem.1 hL i j hi hj h; rw [h2] at this; cases this
    · subst h; rfl
    · have := List.pairwise_iff_getElem.1 hL j i hj hi h; rw [h1] at this; cases this
  · refine hL.imp fun {a b} h => ?_
    cases h' : Op.bytesLess b.name a.name with
    | false => rfl
    | true => have := bytesLess_trans _ _ _ h h'; rw [bytesLess_irrefl] at this; cases this
theorem OkFs.pairs : ∀ (l : List Fld) (p : Option (List UInt8)) (d : Nat), OkFs l p d → l.Pairwise (fun x y => Op.bytesLess x.name y.name = true)
  | [], _, _, _ => List.Pairwise.nil
  | .mk nm u :: l, p, d, h => by
    unfold OkFs at h
    exact List.Pairwise.cons (OkFs.above l nm d h.2.2.2) (OkFs.pairs l _ d h.2.2.2)
theorem range_perm {n : Nat} {is : List Nat} (hn : is.Nodup) (hl : ∀ i ∈ is, i < n) (ha : ∀ i, i < n → i ∈ is) : is.Perm (List.range n) :=
  (List.perm_ext_iff_of_nodup hn List.nodup_range).2 fun i => ⟨fun h => List.mem_range.2 (hl i h), fun h => ha i (List.mem_range.1 h)⟩
theorem range_map {α : Type} [Inhabited α] (l : List α) : (List.range l.length).map (fun i => l[i]!) = l := by
  apply List.ext_getElem
  · simp
  · intro i h1 h2
    simp at h1
    simp [h1]
end Go.Proofs.YtkcdakohmfodjaaGreat
namespace Go.Proofs.YtkcdakohmfodjaaGreat
open Go.RowKit
set_option linter.unusedVariables false
set_option linter.unusedSimpArgs false
set_option maxHeartbeats 1000000 in
set_option maxRecDepth 100000 in
theorem rfix_u8_end {w : World} {r : Value} {ps : List Nat} {d : Nat} {Ns : List Nat} (l : List UInt8) (h : Rd w r ps d Ns l) (hl : l.length ≤ 1000000000) (hav : avail Ns l = 0) (hd : d < w.heap.size) (pb po : Nat) :
    Calls Tryz.prog 77 #[r, .iface 375 (.pointer (some ⟨pb, po, none⟩))] w fun e w' => e = .returned EOFV ∧ Kept [] w w' := by
  obtain ⟨wa, hwa⟩ : ∃ wa, wa = w.alloc (.cells (List.replicate 1 (.int .u8 0)).toArray 5) := ⟨_, rfl⟩
  have hmk : (Instr.makeSlice 22 (.int .i64 1) (.int .i64 1)).run Tryz.prog w = .ok (.slice (some ⟨w.heap.size, 0, none⟩) 1 1) wa := by rw [hwa]; exact make_bytes 1 (by omega) w
  have hka : Kept [] w wa := by rw [hwa]; exact (Kept.refl [] w).alloc _
  have hfull := (h.kept hka (by simp) (by simp)).full_end (by unfold Small; omega) 1 1 w.heap.size 0 _ (by omega) (Nat.le_refl _) (by unfold Small; omega) (by rw [hwa]; exact Blk.new w (List.replicate 1 (Value.int .u8 0)).toArray 5) (by simp) (fun hm => by have := h.mem_lt _ hm; omega) (by omega) hav
  have HF := Lib.hid hfull; have HK := Lib.hid hka
  clear hfull hka h hav hwa
  have t0 := ta_u8_u8
  have t1 := ta_u8_i8
  have t2 := ta_u8_u16
  have t3 := ta_u8_i16
  have t4 := ta_u8_u32
  have t5 := ta_u8_i32
  have t6 := ta_u8_f32
  have t7 := ta_u8_u64
  have t8 := ta_u8_i64
  have t9 := ta_u8_f64
  go_enter Tryz.func77, Tryz.ntmps77
  go_wp2_with (go_at_call 56; refine HF.out.mono ?_; rintro e w2 ⟨rfl, rfl⟩)
  go_ret
  exact ⟨rfl, HK.out.drew⟩
set_option maxHeartbeats 1000000 in
set_option maxRecDepth 100000 in
theorem rfv_end {w : World} {r : Value} {ps : List Nat} {d : Nat} {Ns : List Nat} (dep : Int) (l : List UInt8) (h : Rd w r ps d Ns l) (hl : l.length ≤ 1000000000) (hav : avail Ns l = 0) (hd : d < w.heap.size) :
    Calls Tryz.prog 165 #[r, .int .i64 dep] w fun e w' => e = .returned (.tuple #[.nilIface, EOFV]) ∧ Kept [] w w' := by
  have hka : Kept [] w (w.alloc (.cells #[.int .u8 0] 5)) := (Kept.refl [] w).alloc _
  have hf := rfix_u8_end l (h.kept hka (by simp) (by simp)) hl hav (Nat.lt_of_lt_of_le hd hka.size) w.heap.size 0
  have HF := Lib.hid hf; have HK := Lib.hid hka
  clear hf hka h hav
  go_enter Tryz.func165, Tryz.ntmps165
  go_wp2_with (go_at_call 77; refine HF.out.mono ?_; rintro e w2 ⟨rfl, k2⟩; have K2 := Lib.hid k2; clear k2)
  go_ret2
  exact ⟨rfl, HK.out.trans K2.out (by simp)⟩
end Go.Proofs.YtkcdakohmfodjaaGreat
