/-
  Lemmas on the way to the statement of YtkcdakohmfodjaaGreatMethodRead, joined out of these texts: SpW, Row, Float. No condition.
-/
import Derived.Deep.Cut
import Derived.Lib.AppendStr
import Derived.StillTailTactics
import Derived.Test.YtkcdakohmfodjaaGreatMAA
import GoSem.Core.Float
namespace Go.Proofs.YtkcdakohmfodjaaGreat
open Go.RowKit
set_option linter.unusedVariables false
set_option linter.unusedSimpArgs false
section
variable {P : Program} (w : World)
/-- An append of a string's bytes, with word of where the new slice lies. -/
theorem run_append2_string (t u ty e : TypeId) (i : TypeInfo) (ht : P.underlying t = some (.slice e)) (hu : P.underlying u = some .string) (hi : P.info? e = some i) (hz : i.zero = some (.int .u8 0)) (hsize : i.size = 1) (hby : i.bytes = 1)
    (v : Value) (n : Nat) (xs : List Value) (hown : w.ownsRow 0 e 1 v n xs) (s : ByteArray) (hb : n + s.size ≤ 140737488355328) :
    ∃ v' w', (Builtin.append_ #[t, u] ty #[v, .string s]).run P w = .ok v' w' ∧ w'.ownsRow 0 e 1 v' (n + s.size) (xs ++ Lib.strCells s) ∧ w.grownBy w' v.ownBlock ∧
      (v'.ownBlock = v.ownBlock ∨ v'.ownBlock = some w.heap.size) := by
  have hmax : n + s.size ≤ maxLen := by unfold maxLen; omega
  obtain ⟨v', w', hr, h2, h3, h4⟩ := Lib.run_append_own_string (P := P) w 0 t u ty e i ht hu hi hz hsize hby v n xs hown s hmax hb (Nat.zero_le _)
  refine ⟨v', w', hr, h2, h3, ?_⟩
  rcases hown.2 with ⟨hv, hn0⟩ | ⟨g, cap, cur, hv, hg0, hg, hnc, hcm, hcs, htake⟩
  · by_cases hm : s.size = 0
    · have : v' = .slice none 0 0 := h4.2 ⟨hv, hm⟩
      exact .inl (by rw [this, hv])
    · subst hv hn0
      have hr' := run_append_nil_string (P := P) w t u ty e i (.int .u8 0) ht hu hi hz s (by omega) (by omega) (by rw [hby]; omega)
      rw [hr'] at hr
      simp only [Result.ok.injEq] at hr
      rw [← hr.1]
      exact .inr rfl
  · subst hv
    by_cases hroom : n + s.size ≤ cap
    · have hcs' : cur.size = cap := by simpa using hcs
      have hr' := Lib.run_append_room_string (P := P) w t u ty e i ht hu hi hsize g n cap cur hg s hroom (by omega)
      rw [hr'] at hr
      simp only [Result.ok.injEq] at hr
      rw [← hr.1]
      exact .inl rfl
    · have hxl : xs.length = n := by simpa using hown.1
      have holds : ∀ j u, xs[j]? = some u → w.cell? ((⟨g, 0, none⟩ : Addr).add j) = some u := hown.cells (g := g) rfl
      have hr' := Lib.run_append_grow_string (P := P) w t u ty e i (.int .u8 0) ht hu hi hz ⟨g, 0, none⟩ n cap xs (by rw [hsize]; simpa using hxl) holds s (by omega) (by omega) (by rw [hby]; exact growslice_fits (by omega) (by omega))
      rw [hr'] at hr
      simp only [Result.ok.injEq] at hr
      rw [← hr.1]
      exact .inr rfl
theorem wpList_append2_string {ops : Array Oper} {rest : List Oper} {o : Oper} {a : Act} {Q : Exit → Act → World → Prop} (hgd : o.guard = none) (sl x : Operand) (t u : TypeId)
    (ho : o.op = .call { callee := .builtin .append, args := #[sl, x], argTypes := #[t, u] })
    (e : TypeId) (i : TypeInfo) (ht : P.underlying t = some (.slice e)) (hu : P.underlying u = some .string) (hi : P.info? e = some i) (hz : i.zero = some (.int .u8 0)) (hsize : i.size = 1) (hby : i.bytes = 1)
    (v : Value) (n : Nat) (xs : List Value) (hs : a.eval sl = v) (hown : w.ownsRow 0 e 1 v n xs) (s : ByteArray) (hx : a.eval x = .string s) (hb : n + s.size ≤ 140737488355328)
    (h : ∀ v' w', w'.ownsRow 0 e 1 v' (n + s.size) (xs ++ Lib.strCells s) → w.grownBy w' v.ownBlock → (v'.ownBlock = v.ownBlock ∨ v'.ownBlock = some w.heap.size) → wpList P ops Q rest (a.put o.dst v') w') : wpList P ops Q (o :: rest) a w := by
  refine wpList_plain hgd fun K hK => ?_
  obtain ⟨v', w', hr, h2, h3, h4⟩ := run_append2_string (P := P) w t u o.type e i ht hu hi hz hsize hby v n xs hown s hb
  unfold Oper.wp execOp
  simp only [ho, resolve, invoke, builtin, Sem.run_bind, Sem.run_pure, Result.andThen_ok, List.map_toArray, List.map_cons, List.map_nil, hs, hx, hr]
  exact hK _ _ (h v' w' h2 h3 h4)
end
theorem strCells_bstr (l : List UInt8) : Lib.strCells ⟨l.toArray⟩ = u8s l := by simp [Lib.strCells, u8s]
theorem ownBlock_slice {w : World} {e : TypeId} {v : Value} {n : Nat} {xs : List Value} (h : w.ownsRow 0 e 1 v n xs) : ∃ ao k c, v = .slice ao k c := by
  rcases h.2 with ⟨hv, hn⟩ | ⟨g, cap, cur, hv, _⟩
  · exact ⟨none, 0, 0, hv⟩
  · exact ⟨_, _, _, hv⟩
/-- What an append of bytes and the store of the new value leave of a writer. -/
theorem wr_more {T : TypeId} {w w1 : World} {q : Nat} {bs : List Nat} {v v' : Value} {l m : List UInt8} (hw : Blk w q #[v] T) (hbs : bs = v.ownBlock.toList) (hne : q ∉ bs) (g1 : w1.ownsRow 0 5 1 v' (l.length + m.length) (u8s l ++ u8s m))
    (g2 : w.grownBy w1 v.ownBlock) (g3 : v'.ownBlock = v.ownBlock ∨ v'.ownBlock = some w.heap.size) :
    Blk w1 q #[v] T ∧ ∃ bs', Wr T (w1.setCell ⟨q, 0, none⟩ v') q bs' (l ++ m) ∧ Adv q bs bs' w (w1.setCell ⟨q, 0, none⟩ v') := by
  have hk1 : Kept bs w w1 := (Kept.refl bs w).grown g2 (fun k hk => .inl (by rw [hbs, hk]; simp))
  have hb1 := hw.kept hk1 hne
  have hq : q ∉ v'.ownBlock.toList := by
    rcases g3 with h | h
    · rw [h, ← hbs]; exact hne
    · rw [h]; have := hw.lt; simp; omega
  have hks : Kept [q] w1 (w1.setCell ⟨q, 0, none⟩ v') := (Kept.refl _ w1).setCell (by simp) _
  refine ⟨hb1, v'.ownBlock.toList, ⟨v', hb1.setCell 0 v', ?_, rfl, hq⟩, ⟨?_, ?_⟩⟩
  · have := ownsRow_kept g1 hks (fun b hb e => hq (by simp at e; subst e; simp [hb]))
    simpa [u8s_append] using this
  · exact (hk1.mono (fun x hx => .inl (by simp [hx]))).trans hks (fun x hx => .inl (by simp at hx; simp [hx]))
  · intro b hb
    rcases g3 with h | h
    · exact .inl (by rw [hbs, ← h]; exact hb)
    · rw [h] at hb; simp at hb; exact .inr (by omega)
theorem u8Info : ∃ i, Tryz.prog.info? 5 = some i ∧ i.zero = some (.int .u8 0) ∧ i.size = 1 ∧ i.bytes = 1 := info_parts infoPut
set_option maxHeartbeats 1000000 in
set_option maxRecDepth 100000 in
theorem short_any (q : Nat) (s : List UInt8) (bs : List Nat) (l : List UInt8) (w : World) (hw : Wr 61 w q bs l) (hs : s.length ≤ 1000000000) (hl : l.length ≤ 1000000000) :
    Calls Tryz.prog 30 #[.pointer (some ⟨q, 0, none⟩), .string ⟨s.toArray⟩] w fun e w' => e = .returned (.tuple #[]) ∧
      ∃ bs', Wr 61 w' q bs' (l ++ (Lib.beBytes 1 s.length ++ s)) ∧ Adv q bs bs' w w' := by
  have HW := Lib.hid hw
  have hwu : IntKind.u64.wrap (s.length : Int) = s.length := by rw [IntKind.wrap_u64]; omega
  obtain ⟨i, i1, i2, i3, i4⟩ := u8Info
  have HI := Lib.hid (And.intro i1 (And.intro i2 (And.intro i3 i4))); clear hw i1 i2 i3 i4
  go_enter Tryz.func30, Tryz.ntmps30
  go_upto_region 1 with (go_at_call 21; refine (put_any q s.length 1 bs l w HW.out (by omega) (by omega) (by omega)).mono ?_; rintro e w1 ⟨rfl, bs1, hw1, ha1⟩)
  obtain ⟨v, q1, q2, q3, q4⟩ := hw1
  have c0 := q1.cell0
  have H1 := Lib.hid (And.intro q1 (And.intro q2 (And.intro q3 (And.intro q4 ha1)))); clear q1 q2 q3 q4 ha1
  go_wp2_with (refine wpList_append2_string _ rfl (.tmp 12) (.tmp 13) 61 9 rfl 5 i Tryz.underlying61 Tryz.underlying9 HI.out.1 HI.out.2.1 HI.out.2.2.1 HI.out.2.2.2 v _ _ rfl H1.out.2.1 ⟨s.toArray⟩ rfl (by simp [ByteArray.size, Lib.beBytes_length]; omega) ?_; intro v' w2 g1 g2 g3; obtain ⟨ao, kk, c, rfl⟩ := ownBlock_slice g1; rw [strCells_bstr] at g1; have g1 : w2.ownsRow 0 5 1 (.slice ao kk c) ((l ++ Lib.beBytes 1 s.length).length + s.length) (u8s (l ++ Lib.beBytes 1 s.length) ++ u8s s) := g1; obtain ⟨h1, h2⟩ := wr_more H1.out.1 H1.out.2.2.1 H1.out.2.2.2.1 g1 g2 g3; have c2 := h1.cell0; have f2 := h1.free 0; have H2 := Lib.hid h2; clear g1 g2 g3 h1 h2)
  go_end0
  obtain ⟨bs2, k1, k2⟩ := H2.out
  rw [List.append_assoc] at k1
  exact ⟨rfl, bs2, k1, H1.out.2.2.2.2.trans k2⟩
set_option maxHeartbeats 1000000 in
set_option maxRecDepth 100000 in
theorem long_any (q : Nat) (s : List UInt8) (bs : List Nat) (l : List UInt8) (w : World) (hw : Wr 61 w q bs l) (hs : s.length ≤ 1000000000) (hl : l.length ≤ 1000000000) :
    Calls Tryz.prog 31 #[.pointer (some ⟨q, 0, none⟩), .string ⟨s.toArray⟩] w fun e w' => e = .returned (.tuple #[]) ∧
      ∃ bs', Wr 61 w' q bs' (l ++ (Lib.beBytes 4 s.length ++ s)) ∧ Adv q bs bs' w w' := by
  have HW := Lib.hid hw
  have hwu : IntKind.u64.wrap (s.length : Int) = s.length := by rw [IntKind.wrap_u64]; omega
  obtain ⟨i, i1, i2, i3, i4⟩ := u8Info
  have HI := Lib.hid (And.intro i1 (And.intro i2 (And.intro i3 i4))); clear hw i1 i2 i3 i4
  go_enter Tryz.func31, Tryz.ntmps31
  go_upto_region 1 with (go_at_call 21; refine (put_any q s.length 4 bs l w HW.out (by omega) (by omega) (by omega)).mono ?_; rintro e w1 ⟨rfl, bs1, hw1, ha1⟩)
  obtain ⟨v, q1, q2, q3, q4⟩ := hw1
  have c0 := q1.cell0
  have H1 := Lib.hid (And.intro q1 (And.intro q2 (And.intro q3 (And.intro q4 ha1)))); clear q1 q2 q3 q4 ha1
  go_wp2_with (refine wpList_append2_string _ rfl (.tmp 12) (.tmp 13) 61 9 rfl 5 i Tryz.underlying61 Tryz.underlying9 HI.out.1 HI.out.2.1 HI.out.2.2.1 HI.out.2.2.2 v _ _ rfl H1.out.2.1 ⟨s.toArray⟩ rfl (by simp [ByteArray.size, Lib.beBytes_length]; omega) ?_; intro v' w2 g1 g2 g3; obtain ⟨ao, kk, c, rfl⟩ := ownBlock_slice g1; rw [strCells_bstr] at g1; have g1 : w2.ownsRow 0 5 1 (.slice ao kk c) ((l ++ Lib.beBytes 4 s.length).length + s.length) (u8s (l ++ Lib.beBytes 4 s.length) ++ u8s s) := g1; obtain ⟨h1, h2⟩ := wr_more H1.out.1 H1.out.2.2.1 H1.out.2.2.2.1 g1 g2 g3; have c2 := h1.cell0; have f2 := h1.free 0; have H2 := Lib.hid h2; clear g1 g2 g3 h1 h2)
  go_end0
  obtain ⟨bs2, k1, k2⟩ := H2.out
  rw [List.append_assoc] at k1
  exact ⟨rfl, bs2, k1, H1.out.2.2.2.2.trans k2⟩
section
variable {P : Program}
theorem run_storeVar_row (w : World) (g : Nat) (t ty : TypeId) (cur new : List Value) (v : Value) (hg : Blk w g cur.toArray t) (hv : v.cells = new.toArray) (hl : new.length = cur.length) (h1 : ∀ u ∈ new, u.oneCell' = true)
    (hi : (P.info? ty).map (·.size) = some new.length) : (storeVar ty ⟨g, 0, none⟩ v).run P w = .ok () (w.setRow g new.toArray) := by
  have hst := run_storeCells_at P g 0 t new 0 cur.toArray w hg (by simp [hl]) h1
  simp only [Nat.add_zero, Nat.zero_add, List.take_zero, List.nil_append] at hst
  rw [List.drop_of_length_le (by simp [hl]), List.append_nil] at hst
  cases hq : P.info? ty with
  | none => simp [hq] at hi
  | some i =>
    have hs : i.size = new.length := by simpa [hq] using hi
    simp [storeVar, Sem.run_bind, sizeOf, typeInfo, hq, hs, hv, hst]
theorem run_storeAt_row (w : World) (g : Nat) (t ty : TypeId) (cur new : List Value) (v : Value) (hg : Blk w g cur.toArray t) (hv : v.cells = new.toArray) (hl : new.length = cur.length) (h1 : ∀ u ∈ new, u.oneCell' = true)
    (hi : (P.info? ty).map (·.size) = some new.length) : (Instr.storeAt ty (.pointer (some ⟨g, 0, none⟩)) v).run P w = .ok () (w.setRow g new.toArray) := by
  simp only [Instr.storeAt, Instr.sureAddr, Sem.run_bind, Sem.run_pure, Result.andThen_ok, run_storeVar_row w g t ty cur new v hg hv hl h1 hi]
theorem run_loadAt_row (w : World) (g : Nat) (t ty : TypeId) (cs : Array Value) (d : TypeDesc) (hg : Blk w g cs t)
    (hu : P.underlying ty = some d) (hd : (match d with | .struct _ | .array _ _ => true | _ => false) = true) (hi : (P.info? ty).map (·.size) = some cs.size) :
    (Instr.loadAt ty (.pointer (some ⟨g, 0, none⟩))).run P w = .ok (.agg cs) w := by
  simp only [Instr.loadAt, Instr.sureAddr, Sem.run_bind, Sem.run_pure, Result.andThen_ok, run_loadVar_row w g t ty cs (0, 0) d hg hu hd hi]
/-- A store of a whole value into a variable that is known whole. -/
theorem wpList_store_row {ops : Array Oper} {rest : List Oper} {o : Oper} {a : Act} {w : World} {Q : Exit → Act → World → Prop} (hgd : o.guard = none) (hdst : o.dst = none) (ty : TypeId) (x y : Operand) (ho : o.op = .store ty x y)
    (g : Nat) (hx : a.eval x = .pointer (some ⟨g, 0, none⟩)) (t : TypeId) (cur new : List Value) (hg : Blk w g cur.toArray t) (hv : (a.eval y).cells = new.toArray) (hl : new.length = cur.length) (h1 : ∀ u ∈ new, u.oneCell' = true)
    (hi : (P.info? ty).map (·.size) = some new.length)
    (h : ∀ w', Blk w' g new.toArray t → Kept [g] w w' → wpList P ops Q rest a w') : wpList P ops Q (o :: rest) a w := by
  refine wpList_plain hgd fun K hK => ?_
  have hr := run_storeAt_row (P := P) w g t ty cur new (a.eval y) hg hv hl h1 hi
  unfold Oper.wp execOp
  simp only [ho, hx, Sem.run_bind, Sem.run_pure, hr, Result.andThen_ok, Oper.upon_skip, hdst, Act.put]
  exact hK _ _ (h _ (setRow_heap w g cur.toArray _ t _ hg) ((Kept.refl [g] w).setRow (by simp) _))
end
end Go.Proofs.YtkcdakohmfodjaaGreat
namespace Go.Proofs.YtkcdakohmfodjaaGreat.Flt
open Ieee
set_option linter.unusedVariables false
set_option linter.unusedSimpArgs false
theorem log2_shift (m k : Nat) (h : m ≠ 0) : (m * 2 ^ k).log2 = m.log2 + k := by
  induction k with
  | zero => simp
  | succ k ih =>
    have h2 : m * 2 ^ k ≠ 0 := by have := Nat.two_pow_pos k; intro e; rcases Nat.mul_eq_zero.1 e with e | e <;> omega
    rw [Nat.pow_succ, ← Nat.mul_assoc, Nat.mul_comm _ 2, Nat.log2_two_mul h2, ih]; omega
theorem cut_exact (w : Toward) (neg : Bool) (n d : Nat) : w.cut neg (n * 2 ^ d) d = n := by
  unfold Toward.cut
  by_cases h : n = 0
  · subst h
    simp only [Nat.zero_mul]
    cases w <;> simp
  · have hl := log2_shift n d h
    have e : min d ((n * 2 ^ d).log2 + 2) = d := by rw [hl]; omega
    have hp : 0 < 2 ^ d := Nat.two_pow_pos d
    simp only [e, Nat.one_shiftLeft, Nat.mul_div_cancel _ hp, Nat.mul_mod_left]
    cases w <;> simp
/-- (m, p) is how the format has a number. -/
def Canon (f : Format) (m : Nat) (p : Int) : Prop :=
  (m < f.binade ∧ p = f.leastPlace) ∨ (f.binade ≤ m ∧ m < 2 * f.binade ∧ f.leastPlace ≤ p)
def rungOf (f : Format) (m : Nat) (p : Int) : Nat := (p - f.leastPlace).toNat * f.binade + m
/-- m * 2 ^ p is m' * 2 ^ p'. -/
def SameNum (m : Nat) (p : Int) (m' : Nat) (p' : Int) : Prop :=
  m * 2 ^ (p - p').toNat = m' * 2 ^ (p' - p).toNat
theorem log2_eq {m k : Nat} (h0 : 2 ^ k ≤ m) (h1 : m < 2 ^ (k + 1)) : m.log2 = k := by
  have hm : m ≠ 0 := by have := Nat.two_pow_pos k; omega
  exact (Nat.log2_eq_iff hm).2 ⟨h0, h1⟩
theorem nearest_exact (f : Format) (neg : Bool) (m m' : Nat) (p p' : Int) (hc : Canon f m' p') (hs : SameNum m p m' p') : f.nearest neg m p = f.word neg (min (rungOf f m' p') f.infRung) ∨ m = 0 := by
  by_cases hm : m = 0
  · exact .inr hm
  refine .inl ?_
  unfold SameNum at hs
  have hm' : m' ≠ 0 := by
    rintro rfl
    rw [Nat.zero_mul] at hs
    rcases Nat.mul_eq_zero.1 hs with e | e
    · exact hm e
    · have := Nat.two_pow_pos (p - p').toNat; omega
  have hlog : p + (m.log2 : Int) = p' + m'.log2 := by
    have e1 := log2_shift m (p - p').toNat hm
    have e2 := log2_shift m' (p' - p).toNat hm'
    rw [hs] at e1
    omega
  have hlast : max (p + (m.log2 : Int) - f.fractionBits) f.leastPlace = p' := by
    rw [hlog]
    rcases hc with ⟨h1, h2⟩ | ⟨h1, h2, h3⟩
    · have : m'.log2 < f.fractionBits := (Nat.log2_lt hm').2 h1
      omega
    · have : m'.log2 = f.fractionBits := log2_eq h1 (by rw [Nat.pow_succ, Nat.mul_comm]; exact h2)
      omega
  have hkept : Toward.even.cut neg (m <<< (p - p').toNat) (p' - p).toNat = m' := by
    rw [Nat.shiftLeft_eq, hs, cut_exact]
  unfold Format.nearest
  rw [if_neg hm]
  dsimp only
  rw [hlast, hkept]
  rfl
theorem read_word (f : Format) (neg : Bool) (m : Nat) (p : Int) (hc : Canon f m p) (hr : rungOf f m p < f.infRung) (hi : f.infRung < f.signWeight) : f.read (f.word neg (rungOf f m p)) = .number neg m p := by
  have hsw : 0 < f.signWeight := Nat.two_pow_pos _
  have hb : 0 < f.binade := Nat.two_pow_pos _
  have hlt : rungOf f m p < f.signWeight := by omega
  have e1 : (f.word neg (rungOf f m p)) / f.signWeight % 2 = neg.toNat := by
    unfold Format.word
    cases neg
    · simp [Nat.div_eq_of_lt hlt]
    · simp [Nat.add_div_left _ hsw, Nat.div_eq_of_lt hlt]
  have e2 : (f.word neg (rungOf f m p)) % f.signWeight = rungOf f m p := by
    unfold Format.word
    cases neg
    · simp [Nat.mod_eq_of_lt hlt]
    · simp [Nat.mod_eq_of_lt hlt]
  unfold Format.read
  simp only [e1, e2]
  have e3 : (neg.toNat == 1) = neg := by cases neg <;> rfl
  rw [e3]
  rcases hc with ⟨h1, h2⟩ | ⟨h1, h2, h3⟩
  · have : rungOf f m p = m := by unfold rungOf; rw [h2]; simp
    rw [this, if_pos h1, h2]
  · have hk : rungOf f m p = (m - f.binade) + ((p - f.leastPlace).toNat + 1) * f.binade := by
      unfold rungOf
      rw [Nat.add_mul]; omega
    have hlt2 : m - f.binade < f.binade := by omega
    have d1 : rungOf f m p / f.binade = (p - f.leastPlace).toNat + 1 := by
      rw [hk, Nat.add_mul_div_right _ _ hb, Nat.div_eq_of_lt hlt2]; omega
    have d2 : rungOf f m p % f.binade = m - f.binade := by
      rw [hk, Nat.add_mul_mod_self_right, Nat.mod_eq_of_lt hlt2]
    rw [if_neg (by rw [hk, Nat.add_mul]; omega), if_pos hr, d1, d2]
    congr 1
    · omega
    · omega
theorem read_canon (f : Format) (w : Nat) (neg : Bool) (m : Nat) (p : Int) (h : f.read w = .number neg m p) (hw : w < 2 * f.signWeight) (hi : f.binade ≤ f.infRung) : Canon f m p ∧ rungOf f m p < f.infRung ∧ f.word neg (rungOf f m p) = w := by
  have hsw : 0 < f.signWeight := Nat.two_pow_pos _
  have hb : 0 < f.binade := Nat.two_pow_pos _
  have hbi : f.infRung % f.binade = 0 := by unfold Format.infRung; simp
  unfold Format.read at h
  dsimp only at h
  have key : ∀ r, r = w % f.signWeight → f.word (w / f.signWeight % 2 == 1) r = w := by
    rintro r rfl
    have hd := Nat.div_add_mod w f.signWeight
    have hq : w / f.signWeight < 2 := Nat.div_lt_of_lt_mul (by omega)
    unfold Format.word
    generalize w / f.signWeight = q at *
    have : q = 0 ∨ q = 1 := by omega
    rcases this with rfl | rfl
    · simp at hd ⊢; exact hd
    · simp at hd ⊢; exact hd
  generalize hr : w % f.signWeight = r at *
  generalize (w / f.signWeight % 2 == 1) = ng at *
  split at h
  · rename_i h1
    cases h
    have : rungOf f m f.leastPlace = m := by simp [rungOf]
    refine ⟨.inl ⟨h1, rfl⟩, ?_, ?_⟩
    · rw [this]; omega
    · rw [this]; exact key _ rfl
  · split at h
    · rename_i h1 h2
      cases h
      have hd := Nat.div_add_mod r f.binade
      have hml := Nat.mod_lt r hb
      have hq : 1 ≤ r / f.binade := by
        have := Nat.div_le_div_right (c := f.binade) (Nat.le_of_not_lt h1)
        rwa [Nat.div_self hb] at this
      have e : rungOf f (f.binade + r % f.binade) (f.leastPlace + (r / f.binade - 1 : Nat)) = r := by
        unfold rungOf
        have : (f.leastPlace + ((r / f.binade - 1 : Nat) : Int) - f.leastPlace).toNat = r / f.binade - 1 := by omega
        rw [this, Nat.sub_mul, Nat.one_mul]
        have h3 : f.binade ≤ r / f.binade * f.binade := Nat.le_mul_of_pos_left _ hq
        rw [Nat.mul_comm] at hd
        omega
      refine ⟨.inr ⟨by omega, by omega, by omega⟩, ?_, ?_⟩
      · rw [e]; exact h2
      · rw [e]; exact key _ rfl
    · split at h <;> cases h
/-- m * 2 ^ p over the unit 2 ^ B. -/
def val (m : Nat) (p B : Int) : Nat := m * 2 ^ (p - B).toNat
theorem pow_cancel {a b k : Nat} (h : a * 2 ^ k = b * 2 ^ k) : a = b := Nat.eq_of_mul_eq_mul_right (Nat.two_pow_pos k) h
theorem same_val {m m' : Nat} {p p' : Int} (h : SameNum m p m' p') (B : Int) (h1 : B ≤ p) (h2 : B ≤ p') : val m p B = val m' p' B := by
  unfold SameNum at h
  by_cases hp : p ≤ p'
  · have e : (p - p').toNat = 0 := by omega
    rw [e, Nat.pow_zero, Nat.mul_one] at h
    rw [h]
    unfold val
    rw [Nat.mul_assoc, ← Nat.pow_add]
    congr 2
    omega
  · have e : (p' - p).toNat = 0 := by omega
    rw [e, Nat.pow_zero, Nat.mul_one] at h
    rw [← h]
    unfold val
    rw [Nat.mul_assoc, ← Nat.pow_add]
    congr 2
    omega
theorem val_same {m m' : Nat} {p p' : Int} (B : Int) (h1 : B ≤ p) (h2 : B ≤ p') (h : val m p B = val m' p' B) : SameNum m p m' p' := by
  unfold SameNum
  by_cases hp : p ≤ p'
  · have e : (p - p').toNat = 0 := by omega
    rw [e, Nat.pow_zero, Nat.mul_one]
    unfold val at h
    have : (p' - B).toNat = (p' - p).toNat + (p - B).toNat := by omega
    rw [this, Nat.pow_add, ← Nat.mul_assoc] at h
    exact pow_cancel h
  · have e : (p' - p).toNat = 0 := by omega
    rw [e, Nat.pow_zero, Nat.mul_one]
    unfold val at h
    have : (p - B).toNat = (p - p').toNat + (p' - B).toNat := by omega
    rw [this, Nat.pow_add, ← Nat.mul_assoc] at h
    exact pow_cancel h
theorem same_trans {a b c : Nat} {p q r : Int} (h : SameNum a p b q) (k : SameNum b q c r) : SameNum a p c r :=
  val_same (min p (min q r)) (by omega) (by omega) ((same_val h _ (by omega) (by omega)).trans (same_val k _ (by omega) (by omega)))
theorem same_symm {a b : Nat} {p q : Int} (h : SameNum a p b q) : SameNum b q a p := Eq.symm h
theorem canon_exists (f : Format) (m : Nat) (p : Int) (hm : m < 2 * f.binade) (hp : f.leastPlace ≤ p) : ∃ m' p', Canon f m' p' ∧ SameNum m p m' p' ∧ p' ≤ p := by
  by_cases h0 : m = 0
  · subst h0
    exact ⟨0, f.leastPlace, .inl ⟨Nat.two_pow_pos _, rfl⟩, by simp [SameNum], hp⟩
  · have hl : m.log2 ≤ f.fractionBits := by
      have : m.log2 < f.fractionBits + 1 := (Nat.log2_lt h0).2 (by rw [Nat.pow_succ, Nat.mul_comm]; exact hm)
      omega
    obtain ⟨k, hk⟩ : ∃ k, k = min (f.fractionBits - m.log2) (p - f.leastPlace).toNat := ⟨_, rfl⟩
    have hlk := log2_shift m k h0
    have hne : m * 2 ^ k ≠ 0 := by
      have := Nat.two_pow_pos k
      intro e; rcases Nat.mul_eq_zero.1 e with e | e <;> omega
    refine ⟨m * 2 ^ k, p - k, ?_, ?_, by omega⟩
    · by_cases hc : k = f.fractionBits - m.log2
      · have e : (m * 2 ^ k).log2 = f.fractionBits := by omega
        obtain ⟨h1, h2⟩ := (Nat.log2_eq_iff hne).1 e
        refine .inr ⟨h1, ?_, by omega⟩
        rw [Nat.pow_succ, Nat.mul_comm _ 2] at h2
        exact h2
      · have e : (m * 2 ^ k).log2 < f.fractionBits := by omega
        exact .inl ⟨(Nat.log2_lt hne).1 e, by omega⟩
    · unfold SameNum
      have e1 : (p - (p - k)).toNat = k := by omega
      have e2 : (p - k - p).toNat = 0 := by omega
      rw [e1, e2]; simp
theorem nearest_of (f : Format) (neg : Bool) (m m' : Nat) (p p' : Int) (hc : Canon f m' p') (hs : SameNum m p m' p') (hr : rungOf f m' p' < f.infRung) (hcz : m' = 0 → p' = f.leastPlace) : f.nearest neg m p = f.word neg (rungOf f m' p') := by
  rcases nearest_exact f neg m m' p p' hc hs with h | h
  · rw [h]; congr 1; omega
  · subst h
    have : m' = 0 := by
      unfold SameNum at hs
      rw [Nat.zero_mul] at hs
      rcases Nat.mul_eq_zero.1 hs.symm with e | e
      · exact e
      · have := Nat.two_pow_pos (p' - p).toNat; omega
    subst this
    unfold Format.nearest rungOf
    rw [hcz rfl]; simp
theorem canon_zero {f : Format} {m : Nat} {p : Int} (h : Canon f m p) : m = 0 → p = f.leastPlace := by
  rintro rfl
  rcases h with h | h
  · exact h.2
  · have : 0 < f.binade := Nat.two_pow_pos _
    omega
def mul8 (f : Nat) : Nat := double.write (match (double.read f).product (double.read 4620693217682128896) with | some d => d | none => .nan false 0)
def toI (f : Nat) : Int := match (double.read f).toInt .zero with | some n => n | none => 0
def ofI (n : Int) : Nat := double.write (.number (n < 0) n.natAbs 0)
def toS (f : Nat) : Nat := single.write (double.read f)
def ofS (f : Nat) : Nat := double.write (single.read f)
/-- A multiple of an eighth, below a million. -/
structure Nice (f : Nat) : Prop where
  lo : double.order f 13920209183539462144 = some .gt
  hi : double.order f 4696837146684686336 = some .lt
  whole : double.order (mul8 f) (ofI (toI (mul8 f))) = some .eq
theorem signed_abs (neg : Bool) (m u : Nat) : (signed neg m u).natAbs = m * 2 ^ u := by
  unfold signed
  rw [Nat.shiftLeft_eq]
  cases neg <;> simp [-Int.natCast_mul, -Int.natCast_pow]
  all_goals exact Int.natAbs_natCast (m * 2 ^ u)
theorem signed_lt_abs {neg : Bool} {m u B : Nat} (h1 : signed neg m u < (B : Int)) (h2 : -(B : Int) < signed neg m u) : m * 2 ^ u < B := by
  have := signed_abs neg m u
  omega
theorem cmp_lt {a b : Int} (h : some (compare a b) = some Ordering.lt) : a < b := by
  simpa [compare, compareOfLessAndEq_eq_lt] using h
theorem cmp_gt {a b : Int} (h : some (compare a b) = some Ordering.gt) : b < a := by
  have h : compare a b = .gt := by simpa using h
  exact Int.compare_eq_gt.1 h
theorem cmp_eq {a b : Int} (h : some (compare a b) = some Ordering.eq) : a = b := by
  have h : compare a b = .eq := by simpa using h
  exact Int.compare_eq_eq.1 h
theorem read_hi : double.read 4696837146684686336 = .number false 8589934592000000 (-33) := by decide +kernel
theorem read_lo : double.read 13920209183539462144 = .number true 8589934592000000 (-33) := by decide +kernel
theorem read_8 : double.read 4620693217682128896 = .number false 4503599627370496 (-49) := by decide +kernel
theorem dbl_least : double.leastPlace = -1074 := by decide +kernel
theorem sgl_least : single.leastPlace = -149 := by decide +kernel
theorem dbl_binade : double.binade = 4503599627370496 := by decide +kernel
theorem sgl_binade : single.binade = 8388608 := by decide +kernel
theorem dbl_inf : double.infRung = 9218868437227405312 := by decide +kernel
theorem sgl_inf : single.infRung = 2139095040 := by decide +kernel
theorem dbl_sw : double.signWeight = 9223372036854775808 := by decide +kernel
theorem sgl_sw : single.signWeight = 2147483648 := by decide +kernel
theorem Nice.number {f : Nat} (h : Nice f) : ∃ neg m p, double.read f = .number neg m p ∧ val m p (min p (-33)) < val 8589934592000000 (-33) (min p (-33)) := by
  have h1 := h.lo
  have h2 := h.hi
  unfold Format.order at h1 h2
  rw [read_lo] at h1
  rw [read_hi] at h2
  cases hr : double.read f with
  | nan s t => rw [hr] at h1; simp [Datum.order] at h1
  | infinity s => rw [hr] at h1 h2; cases s <;> simp [Datum.order] at h1 h2
  | number neg m p =>
    rw [hr] at h1 h2
    simp only [Datum.order] at h1 h2
    refine ⟨neg, m, p, rfl, ?_⟩
    have g1 := cmp_gt h1
    have g2 := cmp_lt h2
    have e1 : signed false 8589934592000000 (-33 - min p (-33)).toNat = (val 8589934592000000 (-33) (min p (-33)) : Nat) := by simp [signed, Nat.shiftLeft_eq, val]
    have e2 : signed true 8589934592000000 (-33 - min p (-33)).toNat = -(val 8589934592000000 (-33) (min p (-33)) : Nat) := by simp [signed, Nat.shiftLeft_eq, val]
    rw [e1] at g2
    rw [e2] at g1
    exact signed_lt_abs g2 g1
theorem rung_lt_dbl {m : Nat} {p : Int} (hc : Canon double m p) (hp : p ≤ 900) : rungOf double m p < double.infRung := by
  unfold rungOf
  rw [dbl_least, dbl_inf, dbl_binade]
  rcases hc with h | h <;> rw [dbl_binade] at h
  · rw [dbl_least] at h; omega
  · omega
theorem rung_lt_sgl {m : Nat} {p : Int} (hc : Canon single m p) (hp : p ≤ 90) : rungOf single m p < single.infRung := by
  unfold rungOf
  rw [sgl_least, sgl_inf, sgl_binade]
  rcases hc with h | h <;> rw [sgl_binade] at h
  · rw [sgl_least] at h; omega
  · omega
theorem lim_number {f : Nat} (h1 : double.order f 13920209183539462144 = some .gt) (h2 : double.order f 4696837146684686336 = some .lt) : ∃ neg m p, double.read f = .number neg m p ∧ val m p (min p (-33)) < val 8589934592000000 (-33) (min p (-33)) := by
  unfold Format.order at h1 h2
  rw [read_lo] at h1
  rw [read_hi] at h2
  cases hr : double.read f with
  | nan s t => rw [hr] at h1; simp [Datum.order] at h1
  | infinity s => rw [hr] at h1 h2; cases s <;> simp [Datum.order] at h1 h2
  | number neg m p =>
    rw [hr] at h1 h2
    simp only [Datum.order] at h1 h2
    refine ⟨neg, m, p, rfl, ?_⟩
    have g1 := cmp_gt h1
    have g2 := cmp_lt h2
    have e1 : signed false 8589934592000000 (-33 - min p (-33)).toNat = (val 8589934592000000 (-33) (min p (-33)) : Nat) := by simp [signed, Nat.shiftLeft_eq, val]
    have e2 : signed true 8589934592000000 (-33 - min p (-33)).toNat = -(val 8589934592000000 (-33) (min p (-33)) : Nat) := by simp [signed, Nat.shiftLeft_eq, val]
    rw [e1] at g2
    rw [e2] at g1
    exact signed_lt_abs g2 g1
/-- Eight times a number below a million: what it is, and its whole part. -/
theorem lim_mul {f : Nat} (h1 : double.order f 13920209183539462144 = some .gt) (h2 : double.order f 4696837146684686336 = some .lt) (hf : f < 18446744073709551616) :
    double.mul f 4620693217682128896 = some (mul8 f) ∧ ∃ neg m1 p1 T, double.read (mul8 f) = .number neg m1 p1 ∧ (double.read (mul8 f)).toInt .zero = some (signed neg T 0) ∧ T < 9007199254740992 := by
  obtain ⟨neg, m, p, hr, hlt⟩ := lim_number h1 h2
  obtain ⟨hc, hrl, hw⟩ := read_canon double f neg m p hr (by rw [dbl_sw]; omega) (by rw [dbl_inf, dbl_binade]; omega)
  have hb : m < 2 * double.binade := by rcases hc with h | h <;> omega
  have hpl : double.leastPlace ≤ p := by rcases hc with h | h <;> omega
  rw [dbl_least] at hpl
  have hp0 : p ≤ -33 := by
    rcases hc with h | h
    · rw [dbl_least] at h; omega
    · rw [dbl_binade] at h
      unfold val at hlt
      by_cases hp : p ≤ -33
      · exact hp
      · have e : min p (-33) = -33 := by omega
        rw [e] at hlt
        simp only [Int.sub_self, Int.toNat_zero, Nat.pow_zero, Nat.mul_one] at hlt
        obtain ⟨k, hk⟩ : ∃ k, (p - -33).toNat = k + 1 := ⟨(p - -33).toNat - 1, by omega⟩
        rw [hk, Nat.pow_succ] at hlt
        have := Nat.two_pow_pos k
        have : m * 1 ≤ m * 2 ^ k := Nat.mul_le_mul_left _ this
        rw [← Nat.mul_assoc] at hlt
        omega
  obtain ⟨m1, p1, hc1, hs1, hp1⟩ := canon_exists double m (p + 3) hb (by rw [dbl_least]; omega)
  have hr1 : double.read (mul8 f) = .number neg m1 p1 := by
    unfold mul8
    rw [hr, read_8]
    simp only [Datum.product, Bool.xor_false, Format.write]
    have hs : SameNum (m * 4503599627370496) (p + -49) m1 p1 := by
      refine same_trans ?_ hs1
      unfold SameNum
      have e1 : (p + -49 - (p + 3)).toNat = 0 := by omega
      have e2 : (p + 3 - (p + -49)).toNat = 52 := by omega
      rw [e1, e2]
      rw [Nat.pow_zero, Nat.mul_one, show (2 : Nat) ^ 52 = 4503599627370496 from by decide]
    rw [nearest_of double neg _ m1 _ p1 hc1 hs (rung_lt_dbl hc1 (by omega)) (canon_zero hc1)]
    exact read_word double neg m1 p1 hc1 (rung_lt_dbl hc1 (by omega)) (by rw [dbl_inf, dbl_sw]; omega)
  refine ⟨?_, neg, m1, p1, ?_⟩
  · unfold Format.mul mul8
    rw [hr, read_8]
    rfl
  · rw [hr1]
    unfold Datum.toInt Datum.integral
    simp only [Toward.cut]
    refine ⟨_, trivial, rfl, ?_⟩
    have e : p1.toNat = 0 := by omega
    rw [e]
    simp only [Nat.shiftLeft_zero, Bool.toNat_false, Nat.add_zero]
    refine Nat.lt_of_le_of_lt (Nat.div_le_self _ _) ?_
    rcases hc1 with h | h <;> rw [dbl_binade] at h <;> omega
/-- What is equal to nought. -/
theorem eq_zero {f : Nat} (h : double.order f 0 = some .eq) (hf : f < 18446744073709551616) : f = 0 ∨ f = 9223372036854775808 := by
  have r0 : double.read 0 = .number false 0 (-1074) := by decide +kernel
  unfold Format.order at h
  rw [r0] at h
  cases hr : double.read f with
  | nan s t => rw [hr] at h; simp [Datum.order] at h
  | infinity s => rw [hr] at h; cases s <;> simp [Datum.order] at h
  | number neg m p =>
    obtain ⟨hc, hrl, hw⟩ := read_canon double f neg m p hr (by rw [dbl_sw]; omega) (by rw [dbl_inf, dbl_binade]; omega)
    rw [hr] at h
    simp only [Datum.order] at h
    have g := congrArg Int.natAbs (cmp_eq h)
    rw [signed_abs, signed_abs, Nat.zero_mul] at g
    have hm : m = 0 := by
      rcases Nat.mul_eq_zero.1 g with e | e
      · exact e
      · have := Nat.two_pow_pos (p - min p (-1074)).toNat; omega
    have hp := canon_zero hc hm
    have hz : rungOf double m p = 0 := by unfold rungOf; rw [hp, hm]; simp
    rw [hz] at hw
    unfold Format.word at hw
    rw [dbl_sw] at hw
    cases neg
    · left; simpa using hw.symm
    · right; simpa using hw.symm
/-- what a nice number is: some eighths. -/
theorem Nice.eighths {f : Nat} (h : Nice f) (hf : f < 18446744073709551616) : ∃ neg m p T, double.read f = .number neg m p ∧ Canon double m p ∧ rungOf double m p < double.infRung ∧ double.word neg (rungOf double m p) = f ∧ SameNum m p T (-3) ∧ T < 8388608 := by
  obtain ⟨neg, m, p, hr, hlt⟩ := h.number
  obtain ⟨hc, hrl, hw⟩ := read_canon double f neg m p hr (by rw [dbl_sw]; omega) (by rw [dbl_inf, dbl_binade]; omega)
  have hb : m < 2 * double.binade := by rcases hc with h | h <;> omega
  have hpl : double.leastPlace ≤ p := by rcases hc with h | h <;> omega
  rw [dbl_least] at hpl
  -- p is small
  have hp33 : p ≤ -33 ∨ m = 0 := by
    rcases hc with h | h
    · rw [dbl_least] at h; omega
    · refine .inl ?_
      rw [dbl_binade] at h
      have hlt := hlt
      unfold val at hlt
      by_cases hp : p ≤ -33
      · exact hp
      · have e : min p (-33) = -33 := by omega
        rw [e] at hlt
        simp only [Int.sub_self, Int.toNat_zero, Nat.pow_zero, Nat.mul_one] at hlt
        obtain ⟨k, hk⟩ : ∃ k, (p - -33).toNat = k + 1 := ⟨(p - -33).toNat - 1, by omega⟩
        rw [hk, Nat.pow_succ] at hlt
        have := Nat.two_pow_pos k
        have : m * 1 ≤ m * 2 ^ k := Nat.mul_le_mul_left _ this
        rw [← Nat.mul_assoc] at hlt
        omega
  have hp0 : p ≤ -33 := by
    rcases hp33 with h | h
    · exact h
    · have := canon_zero hc h
      rw [dbl_least] at this; omega
  have hlt' : m < 1000000 * 2 ^ (-p).toNat := by
    have e : min p (-33) = p := by omega
    rw [e] at hlt
    unfold val at hlt
    simp only [Int.sub_self, Int.toNat_zero, Nat.pow_zero, Nat.mul_one] at hlt
    have e2 : (-p).toNat = 33 + (-33 - p).toNat := by omega
    rw [e2, Nat.pow_add]
    omega
  -- the product
  obtain ⟨m1, p1, hc1, hs1, hp1⟩ := canon_exists double m (p + 3) hb (by rw [dbl_least]; omega)
  have hr1 : double.read (mul8 f) = .number neg m1 p1 := by
    unfold mul8
    rw [hr, read_8]
    simp only [Datum.product, Bool.xor_false, Format.write]
    have hs : SameNum (m * 4503599627370496) (p + -49) m1 p1 := by
      refine same_trans ?_ hs1
      unfold SameNum
      have e1 : (p + -49 - (p + 3)).toNat = 0 := by omega
      have e2 : (p + 3 - (p + -49)).toNat = 52 := by omega
      rw [e1, e2]
      rw [Nat.pow_zero, Nat.mul_one, show (2 : Nat) ^ 52 = 4503599627370496 from by decide]
    rw [nearest_of double neg _ m1 _ p1 hc1 hs (rung_lt_dbl hc1 (by omega)) (canon_zero hc1)]
    exact read_word double neg m1 p1 hc1 (rung_lt_dbl hc1 (by omega)) (by rw [dbl_inf, dbl_sw]; omega)
  -- the whole part
  have hT : ∃ T, toI (mul8 f) = signed neg T 0 ∧ T < 9007199254740992 := by
    unfold toI Datum.toInt Datum.integral
    rw [hr1]
    simp only [Toward.cut]
    refine ⟨_, rfl, ?_⟩
    have e : p1.toNat = 0 := by omega
    rw [e]
    simp only [Nat.shiftLeft_zero, Bool.toNat_false, Nat.add_zero]
    refine Nat.lt_of_le_of_lt (Nat.div_le_self _ _) ?_
    rcases hc1 with h | h <;> rw [dbl_binade] at h <;> omega
  obtain ⟨T, hT1, hT2⟩ := hT
  have hTn : (toI (mul8 f)).natAbs = T := by rw [hT1, signed_abs]; simp
  obtain ⟨m2, p2, hc2, hs2, hp2⟩ := canon_exists double T 0 (by rw [dbl_binade]; omega) (by rw [dbl_least]; omega)
  have hr2 : double.read (ofI (toI (mul8 f))) = .number (decide (toI (mul8 f) < 0)) m2 p2 := by
    unfold ofI
    simp only [Format.write]
    rw [hTn]
    rw [nearest_of double _ _ m2 _ p2 hc2 hs2 (rung_lt_dbl hc2 (by omega)) (canon_zero hc2)]
    exact read_word double _ m2 p2 hc2 (rung_lt_dbl hc2 (by omega)) (by rw [dbl_inf, dbl_sw]; omega)
  have hw3 := h.whole
  unfold Format.order at hw3
  rw [hr1, hr2] at hw3
  simp only [Datum.order] at hw3
  have heq := congrArg Int.natAbs (cmp_eq hw3)
  rw [signed_abs, signed_abs] at heq
  have hsT : SameNum m1 p1 m2 p2 := val_same (min p1 p2) (by omega) (by omega) heq
  have hsm : SameNum m (p + 3) T 0 := same_trans hs1 (same_trans hsT (same_symm hs2))
  refine ⟨neg, m, p, T, hr, hc, hrl, hw, ?_, ?_⟩
  · unfold SameNum at hsm ⊢
    have e1 : (p + 3 - 0).toNat = (p - -3).toNat := by omega
    have e2 : (0 - (p + 3)).toNat = (-3 - p).toNat := by omega
    rw [e1, e2] at hsm
    exact hsm
  · unfold SameNum at hsm
    have e1 : (p + 3 - 0).toNat = 0 := by omega
    rw [e1, Nat.pow_zero, Nat.mul_one] at hsm
    rw [hsm] at hlt'
    have e2 : (-p).toNat = 3 + (0 - (p + 3)).toNat := by omega
    rw [e2, Nat.pow_add, ← Nat.mul_assoc] at hlt'
    have := Nat.lt_of_mul_lt_mul_right hlt'
    omega
theorem Nice.toSingle {f : Nat} (h : Nice f) (hf : f < 18446744073709551616) : ofS (toS f) = f ∧ (∃ neg m p, double.read f = .number neg m p) ∧ (∃ neg m p, single.read (toS f) = .number neg m p) ∧ toS f < 4294967296 := by
  obtain ⟨neg, m, p, T, hr, hc, hrl, hw, hs, hT⟩ := h.eighths hf
  obtain ⟨m1, p1, hc1, hs1, hp1⟩ := canon_exists single T (-3) (by rw [sgl_binade]; omega) (by rw [sgl_least]; omega)
  have hrl1 := rung_lt_sgl hc1 (by omega)
  have e1 : toS f = single.word neg (rungOf single m1 p1) := by
    unfold toS
    rw [hr]
    simp only [Format.write]
    exact nearest_of single neg m m1 p p1 hc1 (same_trans hs hs1) hrl1 (canon_zero hc1)
  have e2 : single.read (toS f) = .number neg m1 p1 := by
    rw [e1]; exact read_word single neg m1 p1 hc1 hrl1 (by rw [sgl_inf, sgl_sw]; omega)
  refine ⟨?_, ⟨_, _, _, hr⟩, ⟨_, _, _, e2⟩, ?_⟩
  · unfold ofS
    rw [e2]
    simp only [Format.write]
    rw [nearest_of double neg m1 m p1 p hc (same_symm (same_trans hs hs1)) hrl (canon_zero hc)]
    exact hw
  · rw [e1]
    unfold Format.word
    rw [sgl_sw]
    rw [sgl_inf] at hrl1
    split <;> omega
end Go.Proofs.YtkcdakohmfodjaaGreat.Flt
