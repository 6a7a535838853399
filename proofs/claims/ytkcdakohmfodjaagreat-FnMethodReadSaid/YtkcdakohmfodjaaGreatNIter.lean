/-
  Lemmas on the way to the statement of YtkcdakohmfodjaaGreatMethodRead, joined out of these texts: Iter, Wfn, Fb, Rf, LMeth, Write, BadLaw. No condition.
-/
import Derived.Deep.RegionWith
import Derived.Laws.BitsAllLaws
import Derived.Lib.EndianMore
import Derived.Lib.Hide
import Derived.Maps.RangeRun
import Derived.Maps.RangeWalk
import Derived.Test.YtkcdakohmfodjaaGreatMAA
import Derived.Test.YtkcdakohmfodjaaGreatMAB
import Derived.Test.YtkcdakohmfodjaaGreatMAE
import Derived.Test.YtkcdakohmfodjaaGreatMAH
import Derived.Test.YtkcdakohmfodjaaGreatMAL
namespace Go.Proofs.YtkcdakohmfodjaaGreat
open Go.RowKit
open Go.ChangeMaps (setBlock)
set_option linter.unusedVariables false
set_option linter.unusedSimpArgs false
/-- Block r ranges over the map in block b, which had n entries; those at the places 'is' have come. -/
def ItAt (w : World) (r b n : Nat) (is : List Nat) : Prop := w.heap[r]? = some (.mapIter (some b) n is.toArray n)
theorem ItAt.lt {w : World} {r b n : Nat} {is : List Nat} (h : ItAt w r b n is) : r < w.heap.size := (Array.getElem?_eq_some_iff.1 h).1
theorem ItAt.kept {S : List Nat} {w w' : World} {r b n : Nat} {is : List Nat} (h : ItAt w r b n is) (hk : Kept S w w') (hn : r ∉ S) : ItAt w' r b n is := hk.heap h hn
theorem mapEnts_born (es : List (Value × Value)) (i : Nat) : (mapEnts es i).map (·.born) = List.range' i es.length := by
  induction es generalizing i with
  | nil => rfl
  | cons e es ih => obtain ⟨k, v⟩ := e; simp [mapEnts, ih, List.range'_succ]
theorem mapEnts_mem {es : List (Value × Value)} {x : MapEntry} (h : x ∈ mapEnts es 0) : ∃ k v, x = ⟨k, v, x.born⟩ ∧ es[x.born]? = some (k, v) := by
  obtain ⟨j, hj⟩ := List.mem_iff_getElem?.1 h
  rw [mapEnts_get] at hj
  cases he : es[j]? with
  | none => rw [he] at hj; simp at hj
  | some e =>
    rw [he] at hj
    simp only [Option.map_some, Option.some.injEq, Nat.zero_add] at hj
    subst hj
    exact ⟨e.1, e.2, rfl, he⟩
theorem setBlock_iter_kept {w : World} {r : Nat} {o o' : Obj} (hb : w.heap[r]? = some o) : Kept [r] w (setBlock w r o') :=
  ⟨rfl, rfl, rfl, by simp [setBlock], fun k _ hn => by
    have hn' : r ≠ k := fun e => hn (by simp [e])
    simp [setBlock, Array.getElem?_setIfInBounds, hn']⟩
theorem setBlock_iter_same {w : World} {r : Nat} {o o' : Obj} (hb : w.heap[r]? = some o) : (setBlock w r o').heap[r]? = some o' := by
  have hlt : r < w.heap.size := (Array.getElem?_eq_some_iff.1 hb).1
  simp [setBlock, Array.getElem?_setIfInBounds, hlt]
section
variable {P : Program} {ops : Array Oper} {rest : List Oper} {o : Oper} {a : Act} {w : World} {Q : Exit → Act → World → Prop}
/-- 'range m'. -/
theorem wpList_range_map (hg : o.guard = none) (m : Operand) (t : TypeId) (hop : o.op = Op.range t m) (k e : TypeId) (ht : P.underlying t = some (.map k e)) (b : Nat) (es : List (Value × Value)) (hm : a.eval m = .map (some b)) (h : MapAt w b es)
    (hK : ∀ w', w' = w.alloc (.mapIter (some b) es.length #[] es.length) → wpList P ops Q rest (a.put o.dst (.pointer (some ⟨w.heap.size, 0, none⟩))) w') : wpList P ops Q (o :: rest) a w := by
  refine wpList_plain hg fun K' hK' => ?_
  unfold Oper.wp
  simp [execOp, hop, hm, run_range_map w t k e b _ _ ht h, Result.andThen]
  exact hK' _ _ (hK _ rfl)
theorem wpList_range_nil (hg : o.guard = none) (m : Operand) (t : TypeId) (hop : o.op = Op.range t m) (k e : TypeId) (ht : P.underlying t = some (.map k e)) (hm : a.eval m = .map none)
    (hK : ∀ w', w' = w.alloc (.mapIter none 0 #[] 0) → wpList P ops Q rest (a.put o.dst (.pointer (some ⟨w.heap.size, 0, none⟩))) w') : wpList P ops Q (o :: rest) a w := by
  refine wpList_plain hg fun K' hK' => ?_
  unfold Oper.wp
  simp [execOp, hop, hm, run_range_nilMap w t k e ht, Result.andThen]
  exact hK' _ _ (hK _ rfl)
/-- THE STEP. -/
theorem wpList_next_map (hg : o.guard = none) (it : Operand) (hop : o.op = Op.next it false) (r b : Nat) (es : List (Value × Value)) (is : List Nat) (hit : a.eval it = .pointer (some ⟨r, 0, none⟩)) (hi : ItAt w r b es.length is) (hm : MapAt w b es)
    (hDone : (∀ i, i < es.length → i ∈ is) → wpList P ops Q rest (a.put o.dst (.tuple #[.bool false])) w)
    (hMore : ∀ (i : Nat) (k v : Value) (w' : World), i ∉ is → es[i]? = some (k, v) → ItAt w' r b es.length (is ++ [i]) → Kept [r] w w' → w'.heap.size = w.heap.size →
      (Instr.entry (.pointer (some ⟨r, 0, none⟩))).run P w' = .ok (.tuple #[k, v]) w' → wpList P ops Q rest (a.put o.dst (.tuple #[.bool true, k, v])) w') :
    wpList P ops Q (o :: rest) a w := by
  refine wpList_plain hg fun K' hK' => ?_
  unfold Oper.wp
  have hborn : ∀ x ∈ (mapEnts es 0).toArray.toList, x.born < es.length := fun x hx => by
    obtain ⟨k, v, _, h2⟩ := mapEnts_mem (by simpa using hx)
    exact (List.getElem?_eq_some_iff.1 h2).1
  have hnd : (((mapEnts es 0).toArray.toList).map (·.born)).Nodup := by
    rw [show (mapEnts es 0).toArray.toList = mapEnts es 0 from rfl, mapEnts_born]
    exact List.nodup_range'
  rcases run_next_at (P := P) w o.type r b es.length es.length is.toArray _ _ hi hm hborn (Nat.le_refl _) with ⟨h0, hrun⟩ | ⟨e, he, w1, hw1, hrun⟩
  · simp [execOp, hop, hit, hrun, Result.andThen]
    refine hK' _ _ (hDone fun i hlt => ?_)
    apply Classical.byContradiction
    intro hn
    have hmem : (⟨es[i].1, es[i].2, i⟩ : MapEntry) ∈ leftOf (mapEnts es 0).toArray is.toArray := by
      unfold leftOf
      rw [Array.mem_filter]
      refine ⟨?_, by simpa using hn⟩
      have : (mapEnts es 0)[i]? = some ⟨es[i].1, es[i].2, i⟩ := by rw [mapEnts_get]; simp [hlt]
      simpa using List.mem_of_getElem? this
    have := Array.size_pos_of_mem hmem
    omega
  · have he2 := mem_left he
    obtain ⟨k, v, e1, e2⟩ := mapEnts_mem (by simpa using he2.1)
    have hi1 : ItAt w1 r b es.length is := by rcases hw1 with rfl | rfl <;> exact hi
    have hm1 : MapAt w1 b es := by rcases hw1 with rfl | rfl <;> exact hm
    have hk1 : Kept [r] w w1 := by rcases hw1 with rfl | rfl; exact Kept.refl _ _; exact (Kept.refl _ _).drew
    have hs1 : w1.heap.size = w.heap.size := by rcases hw1 with rfl | rfl <;> rfl
    have hrb : b ≠ r := fun e => by
      subst e
      have a1 : w.heap[b]? = _ := hi
      have a2 : w.heap[b]? = _ := hm
      rw [a1] at a2; cases a2
    have hpush : is.toArray.push e.born = (is ++ [e.born]).toArray := by simp
    have hit' : ItAt (setBlock w1 r (.mapIter (some b) es.length (is.toArray.push e.born) es.length)) r b es.length (is ++ [e.born]) := by
      unfold ItAt
      rw [setBlock_iter_same hi1, hpush]
    have hm' : MapAt (setBlock w1 r (.mapIter (some b) es.length (is.toArray.push e.born) es.length)) b es := hm1.kept (setBlock_iter_kept hi1) (by simpa using hrb)
    simp [execOp, hop, hit, hrun, Result.andThen]
    have hent := run_entry_at (P := P) _ r b es.length is.toArray _ es.length e (by rw [setBlock_iter_same hi1]) hm' he2.1 hnd
    have ek : e.key = k := by rw [e1]
    have ev : e.val = v := by rw [e1]
    rw [ek, ev] at hent ⊢
    rw [hpush] at hent hit'
    exact hK' _ _ (hMore e.born k v _ (by simpa using he2.2) e2 hit' (hk1.trans (setBlock_iter_kept hi1) (fun x hx => .inl hx)) (by simpa [setBlock] using hs1) hent)
end
end Go.Proofs.YtkcdakohmfodjaaGreat
namespace Go.Proofs.YtkcdakohmfodjaaGreat
set_option linter.unusedVariables false
set_option linter.unusedSimpArgs false
theorem normL_len (l : List Val) : (normL l).length = l.length := by
  induction l with
  | nil => rfl
  | cons x l ih => simp [normL, ih]
theorem normFs_len (l : List Fld) : (normFs l).length = l.length := by
  induction l with
  | nil => rfl
  | cons x l ih => cases x with | mk name v => simp [normFs, ih]
mutual
theorem wf_normV (v : Val) (h : WfV v) : WfV (normV v) := by
  cases v with
  | mk k n f sc text kids flds =>
    unfold WfV at h
    obtain ⟨h1, h2, h3, h4, h5, h6, h7, h8⟩ := h
    have i1 := wf_normL kids h4
    have i2 := wf_normFs flds h5
    have e1 := normL_len kids
    have e2 := normFs_len flds
    unfold normV
    split
    · unfold WfV; exact ⟨by simp, by omega, by simp, i1, by unfold WfFs; trivial, by omega, by omega, by omega⟩
    split
    · unfold WfV; exact ⟨by simp, by simp, by omega, by unfold WfL; trivial, i2, by omega, by omega, by omega⟩
    split
    · unfold WfV; exact ⟨h1, by simp, by simp, by unfold WfL; trivial, by unfold WfFs; trivial, by omega, by omega, by omega⟩
    split
    · unfold WfV; exact ⟨by simp, by simp, by simp, by unfold WfL; trivial, by unfold WfFs; trivial, by omega, by omega, h8⟩
    split
    · unfold WfV; exact ⟨by simp, by simp, by simp, by unfold WfL; trivial, by unfold WfFs; trivial, h6, h7, by omega⟩
    split
    · unfold WfV; exact ⟨by simp, by simp, by simp, by unfold WfL; trivial, by unfold WfFs; trivial, by omega, by omega, by omega⟩
    · unfold WfV; exact ⟨by simp, by simp, by simp, by unfold WfL; trivial, by unfold WfFs; trivial, h6, h7, by omega⟩
theorem wf_normL (l : List Val) (h : WfL l) : WfL (normL l) := by
  cases l with
  | nil => unfold normL WfL; trivial
  | cons v l => unfold WfL at h; unfold normL WfL; exact ⟨wf_normV v h.1, wf_normL l h.2⟩
theorem wf_normFs (l : List Fld) (h : WfFs l) : WfFs (normFs l) := by
  cases l with
  | nil => unfold normFs WfFs; trivial
  | cons x l => cases x with | mk name v => unfold WfFs at h; unfold normFs WfFs; exact ⟨h.1, wf_normV v h.2.1, wf_normFs l h.2.2⟩
end
theorem wf_zero : WfV Val.zero := by unfold Val.zero WfV WfL WfFs; simp
theorem wf_zeroF : WfFs [Fld.zero] := by unfold Fld.zero WfFs WfFs; exact ⟨by simp, wf_zero, trivial⟩
mutual
theorem wf_convV (v : Val) (h : WfV v) (d : Nat) (r : Int) : WfV (convV v d r).1 := by
  cases v with
  | mk k n f sc text kids flds =>
    unfold WfV at h
    obtain ⟨h1, h2, h3, h4, h5, h6, h7, h8⟩ := h
    have i2 := wf_convFs flds h5 (d - 1) (r - (1 + text.length))
    have i1 := wf_convL kids h4 (d - 1) (convFs flds (d - 1) (r - (1 + text.length))).2
    unfold convV
    split
    · exact wf_zero
    · split
      · exact wf_zero
      · rename_i ks r' hk
        rw [hk] at i1
        obtain ⟨j1, j2⟩ := i1 ks rfl
        have j3 : WfFs ((convFs flds (d - 1) (r - (1 + text.length))).1.getD [Fld.zero]) ∧ ((convFs flds (d - 1) (r - (1 + text.length))).1.getD [Fld.zero]).length ≤ 140737488355328 := by
          cases hf : (convFs flds (d - 1) (r - (1 + text.length))).1 with
          | none => exact ⟨wf_zeroF, by simp⟩
          | some l' => have := i2 l' hf; exact ⟨this.1, by simp only [Option.getD_some]; omega⟩
        unfold WfV
        exact ⟨h1, by omega, j3.2, j1, j3.1, h6, h7, h8⟩
theorem wf_convL (l : List Val) (h : WfL l) (d : Nat) (r : Int) : ∀ l', (convL l d r).1 = some l' → WfL l' ∧ l'.length = l.length := by
  cases l with
  | nil => intro l' e; unfold convL at e; simp only [Option.some.injEq] at e; subst e; exact ⟨by unfold WfL; trivial, rfl⟩
  | cons v l =>
    intro l' e
    unfold WfL at h
    have i1 := wf_convV v h.1 d r
    have i2 := wf_convL l h.2 d (convV v d r).2
    unfold convL at e
    split at e
    · cases e
    · split at e
      · cases e
      · rename_i xs r' hx
        rw [hx] at i2
        obtain ⟨j1, j2⟩ := i2 xs rfl
        simp only [Option.some.injEq] at e
        subst e
        exact ⟨by unfold WfL; exact ⟨i1, j1⟩, by simp [j2]⟩
theorem wf_convFs (l : List Fld) (h : WfFs l) (d : Nat) (r : Int) : ∀ l', (convFs l d r).1 = some l' → WfFs l' ∧ l'.length = l.length := by
  cases l with
  | nil => intro l' e; unfold convFs at e; simp only [Option.some.injEq] at e; subst e; exact ⟨by unfold WfFs; trivial, rfl⟩
  | cons x l =>
    cases x with
    | mk name v =>
      intro l' e
      unfold WfFs at h
      have i1 := wf_convV v h.2.1 d (r - name.length)
      have i2 := wf_convFs l h.2.2 d (convV v d (r - name.length)).2
      unfold convFs at e
      split at e
      · cases e
      · split at e
        · cases e
        · rename_i xs r' hx
          rw [hx] at i2
          obtain ⟨j1, j2⟩ := i2 xs rfl
          simp only [Option.some.injEq] at e
          subst e
          exact ⟨by unfold WfFs; exact ⟨h.1, i1, j1⟩, by simp [j2]⟩
end
theorem wf_convT (l : List Fld) (h : WfFs l) (hl : l.length ≤ 140737488355328) : WfFs (convT l) ∧ (convT l).length ≤ 140737488355328 := by
  have i := wf_convFs l h 10 4000
  unfold convT
  cases hf : (convFs l 10 4000).1 with
  | none => exact ⟨wf_zeroF, by simp⟩
  | some l' => have := i l' hf; exact ⟨this.1, by simp only [Option.getD_some]; omega⟩
theorem wf_convA {a : MArg} (h : WfA a) : WfA (convA a) := by
  obtain ⟨h1, h2, h3, h4⟩ := h
  have := wf_convT a.tab h2 h3
  exact ⟨h1, this.1, this.2, h4⟩
theorem wf_normA {a : MArg} (h : WfA a) : WfA (normA a) := by
  obtain ⟨h1, h2, h3, h4⟩ := h
  exact ⟨h1, wf_normFs _ h2, by show (normFs a.tab).length ≤ _; rw [normFs_len]; exact h3, h4⟩
/-- What is read back: the same arguments as before, but for what a table's letters drop. -/
theorem args_back (l : List UInt8) (args : List MArg) (h : properGo l args = true) : (args.map normA).map convA = args.map normA := by
  rw [List.map_map]
  refine List.map_congr_left fun a ha => ?_
  have := proper_conv l args h a ha
  simp only [Function.comp_apply, convA, normA, this]
end Go.Proofs.YtkcdakohmfodjaaGreat
namespace Go.Proofs.YtkcdakohmfodjaaGreat
open Go.RowKit
set_option linter.unusedVariables false
set_option linter.unusedSimpArgs false
def frameB (kind channel : Nat) (l : List UInt8) : List UInt8 := Lib.beBytes 1 kind ++ Lib.beBytes 2 channel ++ Lib.beBytes 4 l.length ++ l ++ [206]
theorem frameB_length (kind channel : Nat) (l : List UInt8) : (frameB kind channel l).length = l.length + 8 := by
  simp [frameB, Lib.beBytes_length]; omega
/-- s is a slice with the bytes l in block d; or it is empty, wherever it lies. -/
def Src (w : World) (s : Value) (d : Nat) (l : List UInt8) : Prop :=
  (l = [] ∧ ∃ (ao : Option Addr) (c : Nat), s = .slice ao 0 c) ∨ ∃ ad c, ad.block = d ∧ s = .slice (some ad) l.length c ∧ ∀ j v, (u8s l)[j]? = some v → w.cell? (ad.add j) = some v
/-- The bytes l in a row of their own, as a slice. -/
def Row (w : World) (s : Value) (g : Nat) (l : List UInt8) : Prop :=
  ∃ c, s = .slice (some ⟨g, 0, none⟩) l.length c ∧ w.ownsRow 0 5 1 s l.length (u8s l)
theorem Row.kept {S : List Nat} {w w' : World} {s : Value} {g : Nat} {l : List UInt8} (h : Row w s g l) (hk : Kept S w w') (hg : g ∉ S) : Row w' s g l := by
  obtain ⟨c, rfl, h2⟩ := h
  exact ⟨c, rfl, ownsRow_kept h2 hk (fun b hb => by simp [Value.ownBlock] at hb; subst hb; exact hg)⟩
theorem addr_block (a : Addr) (j : Nat) : (a.add j).block = a.block := by unfold Addr.add; split <;> rfl
theorem Src.kept {S : List Nat} {w w' : World} {s : Value} {d : Nat} {l : List UInt8} (h : Src w s d l) (hk : Kept S w w') (hd : d ∉ S) : Src w' s d l := by
  rcases h with h | ⟨ad, c, rfl, rfl, h2⟩
  · exact .inl h
  · exact .inr ⟨ad, c, rfl, rfl, fun j v hj => hk.cell (h2 j v hj) (by rw [addr_block]; exact hd)⟩
/-- An append of bytes that may be none, onto a row of the program's own. -/
theorem wpList_append_src {w : World} {ops : Array Oper} {rest : List Oper} {o : Oper} {a : Act} {Q : Exit → Act → World → Prop} (hgd : o.guard = none) (s x : Operand) (t t' : TypeId)
    (ho : o.op = .call { callee := .builtin .append, args := #[s, x], argTypes := #[t, t'] }) (ht : Tryz.prog.underlying t = some (.slice 5)) (ht' : Tryz.prog.underlying t' = some (.slice 5))
    (v sv : Value) (l m : List UInt8) (n k : Nat) (hln : l.length = n) (hmk : m.length = k) (g0 c0 : Nat) (hv : v = .slice (some ⟨g0, 0, none⟩) n c0) (hs : a.eval s = v) (hx : a.eval x = sv) (hown : w.ownsRow 0 5 1 v n (u8s l)) (d : Nat) (hsrc : Src w sv d m) (hlen : n + k ≤ 140737488355328)
    (h : ∀ g c w', w'.ownsRow 0 5 1 (.slice (some ⟨g, 0, none⟩) (n + k) c) (n + k) (u8s (l ++ m)) → n + k ≤ c → Kept [g0] w w' → (g = g0 ∨ g = w.heap.size) →
      wpList Tryz.prog ops Q rest (a.put o.dst (.slice (some ⟨g, 0, none⟩) (n + k) c)) w') : wpList Tryz.prog ops Q (o :: rest) a w := by
  obtain ⟨i, hi, hz0, hz1, hz2⟩ := info_parts infoPut
  subst hln hmk hv
  have hcap : l.length ≤ c0 := by
    rcases hown.2 with ⟨h, _⟩ | ⟨g, cap, cur, h, _, _, hc, _⟩
    · cases h
    · cases h; exact hc
  rcases hsrc with ⟨rfl, ao, c, rfl⟩ | ⟨ad, c, _, rfl, hcell⟩
  · refine wpList_append_zero w hgd s x t t' ho 5 5 ht' i ht hi (some ⟨g0, 0, none⟩) l.length c0 hs hcap ao c hx ?_
    have := h g0 c0 w (by simpa using hown) (by simpa using hcap) (Kept.refl _ w) (.inl rfl)
    simpa using this
  · refine wpList_append2 w hgd s x t t' ho 5 5 ht' i (.int .u8 0) 1 1 ht hi hz0 hz1 hz2 rfl (by decide) _ _ _ hs hown ad m.length c (u8s m) hx (by simp) hcell (u8s_one m) (by omega) hlen ?_
    intro v' w' h1 h2 h3
    have hown' := h1
    rcases h1.2 with ⟨hv, hn⟩ | ⟨g, cap, cur, hv, _, _, hc, _⟩
    · have hm : m = [] := List.eq_nil_of_length_eq_zero (by omega)
      have hl : l = [] := List.eq_nil_of_length_eq_zero (by omega)
      subst hm hl
      subst hv
      rcases h3 with h3 | h3 <;> simp [Value.ownBlock] at h3
    · subst hv
      rw [u8s_append] at h
      refine h g cap w' hown' hc ((Kept.refl _ w).grown h2 (fun k hk => .inl (by simp [Value.ownBlock] at hk; simp [hk]))) ?_
      rcases h3 with h3 | h3
      · exact .inl (by simpa [Value.ownBlock] using h3)
      · exact .inr (by simpa [Value.ownBlock] using h3)
/-- An append of bytes onto a row of the program's own, which may be none yet. -/
theorem wpList_append_bytes {w : World} {ops : Array Oper} {rest : List Oper} {o : Oper} {a : Act} {Q : Exit → Act → World → Prop} (hgd : o.guard = none) (s x : Operand) (t t' : TypeId)
    (ho : o.op = .call { callee := .builtin .append, args := #[s, x], argTypes := #[t, t'] }) (ht : Tryz.prog.underlying t = some (.slice 5)) (ht' : Tryz.prog.underlying t' = some (.slice 5))
    (v sv : Value) (l m : List UInt8) (n k : Nat) (hln : l.length = n) (hmk : m.length = k) (hs : a.eval s = v) (hx : a.eval x = sv) (hown : w.ownsRow 0 5 1 v n (u8s l)) (d : Nat) (hsrc : Src w sv d m) (hlen : n + k ≤ 140737488355328)
    (h : ∀ ao c w', w'.ownsRow 0 5 1 (.slice ao (n + k) c) (n + k) (u8s (l ++ m)) → Kept v.ownBlock.toList w w' → ((Value.slice ao (n + k) c).ownBlock = v.ownBlock ∨ (Value.slice ao (n + k) c).ownBlock = some w.heap.size) →
      wpList Tryz.prog ops Q rest (a.put o.dst (.slice ao (n + k) c)) w') : wpList Tryz.prog ops Q (o :: rest) a w := by
  obtain ⟨i, hi, hz0, hz1, hz2⟩ := info_parts infoPut
  rcases hown.2 with ⟨hv, hn0⟩ | ⟨g, cap, cur, hv, _, _, hc, _⟩
  · subst hv
    have hl0 : l = [] := List.eq_nil_of_length_eq_zero (by omega)
    subst hl0
    subst hln hmk
    rcases hsrc with ⟨rfl, ao, c, rfl⟩ | ⟨ad, c, _, rfl, hcell⟩
    · refine wpList_append_zero w hgd s x t t' ho 5 5 ht' i ht hi none 0 0 hs (Nat.le_refl _) ao c hx ?_
      exact h none 0 w (World.ownsRow_nil _ _ _ _) (Kept.refl _ w) (.inl rfl)
    · refine wpList_append2 w hgd s x t t' ho 5 5 ht' i (.int .u8 0) 1 1 ht hi hz0 hz1 hz2 rfl (by decide) _ _ _ hs hown ad m.length c (u8s m) hx (by simp) hcell (u8s_one m) (by simpa using hlen) (by simpa using hlen) ?_
      intro v' w' h1 h2 h3
      have hform : ∃ ao c, v' = .slice ao (0 + m.length) c := by
        rcases h1.2 with ⟨hv, hn⟩ | ⟨g, cap, cur, hv, _⟩
        · simp only [List.length_nil] at hn; rw [hn]; exact ⟨none, 0, hv⟩
        · exact ⟨_, _, hv⟩
      obtain ⟨ao, c', rfl⟩ := hform
      exact h ao c' w' h1 ((Kept.refl _ w).grown h2 (by simp [Value.ownBlock])) h3
  · subst hv
    refine wpList_append_src hgd s x t t' ho ht ht' _ sv l m n k hln hmk g cap rfl hs hx hown d hsrc hlen ?_
    intro g' c w' h1 _ h3 h4
    refine h (some ⟨g', 0, none⟩) c w' h1 (by simpa [Value.ownBlock] using h3) ?_
    rcases h4 with h4 | h4
    · exact .inl (by simp [Value.ownBlock, h4])
    · exact .inr (by simp [Value.ownBlock, h4])
theorem wrap_u64 (n : Nat) (h : n < 18446744073709551616) : IntKind.u64.wrap (n : Int) = n := by rw [IntKind.wrap_u64]; omega
set_option maxHeartbeats 1000000 in
set_option maxRecDepth 100000 in
theorem frameBytes_any (kind channel : Nat) (s : Value) (l : List UInt8) (w : World) (hk : kind ≤ 255) (hch : channel ≤ 65535) (d : Nat) (hs : Src w s d l) (hl : l.length ≤ 1000000) (hsl : ∃ ao c, s = .slice ao l.length c) :
    Calls Tryz.prog 8 #[.int .i64 (kind : Int), .int .i64 (channel : Int), s] w fun e w' => ∃ v g, e = .returned v ∧ Row w' v g (frameB kind channel l) ∧ w.heap.size ≤ g ∧ Kept [] w w' := by
  have e1 := wrap_u64 kind (by omega)
  have e2 := wrap_u64 channel (by omega)
  have e3 := wrap_u64 l.length (by omega)
  obtain ⟨ao, c, rfl⟩ := hsl
  have HS := Lib.hid hs; have HL := Lib.hid (And.intro hk (And.intro hch hl))
  clear hs hk hch hl
  obtain ⟨wa, hwa⟩ : ∃ wa, wa = (w.alloc (.cells #[] 5)).alloc (.cells #[.slice (some ⟨w.heap.size, 0, none⟩) 0 0] 61) := ⟨_, rfl⟩
  have hka : Kept [] w wa := by subst hwa; exact ((Kept.refl [] w).alloc _).alloc _
  have hwr : Wr 61 wa (w.heap.size + 1) [w.heap.size] [] := by
    subst hwa
    refine ⟨.slice (some ⟨w.heap.size, 0, none⟩) 0 0, Blk.new_at (by simp), ⟨rfl, .inr ⟨w.heap.size, 0, #[], rfl, Nat.zero_le _, ?_, Nat.le_refl _, by unfold maxLen; omega, rfl, rfl⟩⟩, rfl, by simp⟩
    exact (Blk.new w #[] 5).alloc _
  have HA := Lib.hid (And.intro hka (And.intro hwr hwa)); clear hka hwr hwa
  go_enter Tryz.func8, Tryz.ntmps8
  go_wp2_with fail
  rw [← HA.out.2.2]
  refine (put_any (w.heap.size + 1) kind 1 _ _ wa HA.out.2.1 (by have := HL.out.1; omega) (by omega) (by simp)).mono ?_
  rintro e w1 ⟨rfl, bs1, hw1, ha1⟩
  have H1 := Lib.hid (And.intro hw1 ha1); clear hw1 ha1
  go_wp2_with fail
  refine (put_any (w.heap.size + 1) channel 2 _ _ w1 H1.out.1 (by have := HL.out.2.1; omega) (by omega) (by simp [Lib.beBytes_length])).mono ?_
  rintro e w2 ⟨rfl, bs2, hw2, ha2⟩
  have H2 := Lib.hid (And.intro hw2 (H1.out.2.trans ha2)); clear hw2 ha2
  go_wp2_with fail
  refine (put_any (w.heap.size + 1) l.length 4 _ _ w2 H2.out.1 (by have := HL.out.2.2; omega) (by omega) (by simp [Lib.beBytes_length])).mono ?_
  rintro e w3 ⟨rfl, bs3, hw3, ha3⟩
  have ha := H2.out.2.trans ha3
  have hk3 : Kept [] w w3 := HA.out.1.trans ha.kept (by simp)
  have hs3 := HS.out.kept hk3 (by simp)
  obtain ⟨v3, p1, p2, p3, p4⟩ := hw3
  obtain ⟨g3, c3, rfl, hc3, ho3⟩ := own_form p2 (by simp [Lib.beBytes_length])
  have c0 := p1.cell0
  have hn3 : w.heap.size ≤ g3 := by
    rcases ha.own g3 (by rw [p3, ho3]; simp) with h | h
    · simp at h; omega
    · exact Nat.le_trans HA.out.1.size h
  have hg3 : g3 ≠ w.heap.size + 1 := fun e => p4 (by rw [p3, ho3, e]; simp)
  obtain ⟨h7, hh, hl7⟩ : ∃ h7 : List UInt8, h7 = [] ++ Lib.beBytes 1 kind ++ Lib.beBytes 2 channel ++ Lib.beBytes 4 l.length ∧ h7.length = 7 := ⟨_, rfl, by simp [Lib.beBytes_length]⟩
  rw [← hh] at c0 p2
  rw [hl7] at c0 p2
  have H3 := Lib.hid (And.intro p2 (And.intro hk3 (And.intro hs3 (And.intro hn3 hg3)))); clear p1 p2 p3 p4 hs3 hk3 ha ha3 hn3 ho3 hg3
  have HH := Lib.hid hh; have HL7 := Lib.hid hl7; clear hh hl7
  have hb7 : 7 + l.length ≤ 140737488355328 := by have := HL.out.2.2; omega
  have hb8 : 7 + l.length + 1 ≤ 140737488355328 := by have := HL.out.2.2; omega
  go_wp2_with (refine wpList_append_src rfl (.tmp 25) (.tmp 26) 61 22 rfl Tryz.underlying61 Tryz.underlying22 _ _ h7 l 7 l.length HL7.out rfl g3 c3 rfl rfl rfl H3.out.1 d H3.out.2.2.1 hb7 ?_)
  intro g4 c4 w4 k1 k2 k3 k4
  have hk4 : Kept [] w w4 := H3.out.2.1.trans k3 (by simp; exact H3.out.2.2.2.1)
  have hn4 : w.heap.size ≤ g4 := by
    rcases k4 with h | h
    · rw [h]; exact H3.out.2.2.2.1
    · rw [h]; exact H3.out.2.1.size
  have hka : Kept [] w4 (w4.alloc (.cells #[.int .u8 206] 5)) := (Kept.refl [] w4).alloc _
  have k5 := ownsRow_kept k1 hka (by simp)
  have hsrc : Src (w4.alloc (.cells #[.int .u8 206] 5)) (.slice (some ⟨w4.heap.size, 0, none⟩) 1 1) w4.heap.size [206] := .inr ⟨⟨w4.heap.size, 0, none⟩, 1, rfl, rfl, cell_one_new _ _ _⟩
  have H4 := Lib.hid (And.intro k5 (And.intro (hk4.trans hka (by simp)) (And.intro hn4 (And.intro hsrc hk4.size)))); clear k1 k2 k3 k4 k5 hk4 hn4 hka hsrc
  go_wp2_with (refine wpList_append_src rfl (.tmp 27) (.tmp 28) 61 61 rfl Tryz.underlying61 Tryz.underlying61 _ _ (h7 ++ l) [206] (7 + l.length) 1 (by rw [List.length_append, HL7.out]) rfl g4 c4 rfl rfl rfl H4.out.1 w4.heap.size H4.out.2.2.2.1 hb8 ?_)
  intro g5 c5 w5 k1 k2 k3 k4
  have hk5 : Kept [] w w5 := H4.out.2.1.trans k3 (by simp; exact H4.out.2.2.1)
  have hn5 : w.heap.size ≤ g5 := by
    rcases k4 with h | h
    · rw [h]; exact H4.out.2.2.1
    · rw [h]; have := H4.out.2.2.2.2; omega
  have H5 := Lib.hid (And.intro k1 (And.intro hk5 hn5)); clear k1 k2 k3 k4 hk5 hn5
  go_wp2
  go_ret
  have hfin : h7 ++ (l ++ [206]) = frameB kind channel l := by rw [HH.out]; simp [frameB]
  have hle : 7 + l.length + 1 = (frameB kind channel l).length := by rw [frameB_length]; omega
  have hown := H5.out.1
  rw [hfin, hle] at hown
  have hrow : Row w5 (.slice (some ⟨g5, 0, none⟩) (7 + l.length + 1) c5) g5 (frameB kind channel l) := ⟨c5, congrArg (fun n => Value.slice (some ⟨g5, 0, none⟩) n c5) hle, by rw [hle]; exact hown⟩
  exact ⟨_, g5, rfl, hrow, H5.out.2.2, H5.out.2.1⟩
set_option maxHeartbeats 1000000 in
set_option maxRecDepth 100000 in
theorem be64_any (g o n c : Nat) (b0 b1 b2 b3 b4 b5 b6 b7 : UInt8) (w : World) (hn : 8 ≤ n) (hnc : n ≤ c)
    (c0 : w.cell? ⟨g, o, none⟩ = some (.int .u8 b0.toNat)) (c1 : w.cell? ⟨g, o + 1, none⟩ = some (.int .u8 b1.toNat)) (c2 : w.cell? ⟨g, o + 2, none⟩ = some (.int .u8 b2.toNat)) (c3 : w.cell? ⟨g, o + 3, none⟩ = some (.int .u8 b3.toNat))
    (c4 : w.cell? ⟨g, o + 4, none⟩ = some (.int .u8 b4.toNat)) (c5 : w.cell? ⟨g, o + 5, none⟩ = some (.int .u8 b5.toNat)) (c6 : w.cell? ⟨g, o + 6, none⟩ = some (.int .u8 b6.toNat)) (c7 : w.cell? ⟨g, o + 7, none⟩ = some (.int .u8 b7.toNat)) :
    Calls Tryz.prog 155 #[.slice (some ⟨g, o, none⟩) n c] w fun e w' => e = .returned (.int .u64 (Lib.beNat [b0, b1, b2, b3, b4, b5, b6, b7] : Nat)) ∧ ∃ k, w' = w.drewN k := by
  have h0 := b0.toNat_lt
  have h1 := b1.toNat_lt
  have h2 := b2.toNat_lt
  have h3 := b3.toNat_lt
  have h4 := b4.toNat_lt
  have h5 := b5.toNat_lt
  have h6 := b6.toNat_lt
  have h7 := b7.toNat_lt
  have n7 : (7 : Int) < n := by omega
  have n4 : (4 : Int) ≤ n := by omega
  have nc : (n : Int) ≤ c := by omega
  have c4n : ¬ c = 4 := by omega
  have hA : ∀ w' : World, (∃ k, w' = w.drewN k) → Calls Tryz.prog 58 #[.slice (some ⟨g, o, none⟩) n c] w' fun e w'' => e = .returned (.int .u32 (Lib.beNat [b0, b1, b2, b3] : Nat)) ∧ ∃ k, w'' = w'.drewN k := fun w' ⟨k, hk⟩ => by
    subst hk
    exact be32_any g o n c b0 b1 b2 b3 _ (by omega) (by simpa using c0) (by simpa using c1) (by simpa using c2) (by simpa using c3)
  have hB : ∀ w' : World, (∃ k, w' = w.drewN k) → Calls Tryz.prog 58 #[.slice (some ⟨g, o + 4, none⟩) (n - 4) (c - 4)] w' fun e w'' => e = .returned (.int .u32 (Lib.beNat [b4, b5, b6, b7] : Nat)) ∧ ∃ k, w'' = w'.drewN k := fun w' ⟨k, hk⟩ => by
    subst hk
    exact be32_any g (o + 4) (n - 4) (c - 4) b4 b5 b6 b7 _ (by omega) (by simpa using c4) (by simpa [Nat.add_assoc] using c5) (by simpa [Nat.add_assoc] using c6) (by simpa [Nat.add_assoc] using c7)
  have ha : Lib.beNat [b0, b1, b2, b3] < 4294967296 := by simp only [Lib.beNat, Lib.beFrom]; omega
  have hb : Lib.beNat [b4, b5, b6, b7] < 4294967296 := by simp only [Lib.beNat, Lib.beFrom]; omega
  have hv : (Lib.beNat [b0, b1, b2, b3, b4, b5, b6, b7] : Nat) = Lib.beNat [b4, b5, b6, b7] + Lib.beNat [b0, b1, b2, b3] * 4294967296 := by
    simp only [Lib.beNat, Lib.beFrom]
    omega
  generalize Lib.beNat [b0, b1, b2, b3] = A at *
  generalize Lib.beNat [b4, b5, b6, b7] = Bn at *
  have HV := Lib.hid hv
  have HA := Lib.hid hA; have HB := Lib.hid hB
  clear hv hA hB c0 c1 c2 c3 c4 c5 c6 h0 h1 h2 h3 h4 h5 h6 h7
  have hA' : (A : Int) < 4294967296 := by omega
  have hB' : (Bn : Int) < 4294967296 := by omega
  go_enter Tryz.func155, Tryz.ntmps155
  go_wp2
  go_quiet ((go_at_call 58; first | (with_reducible exact Calls.quiet_of (HA.out _ ⟨_, rfl⟩)) | (with_reducible exact Calls.quiet_of (HB.out _ ⟨_, rfl⟩))))
  go_wp2
  go_ret
  refine ⟨?_, _, rfl⟩
  have hj := bits_join .u64 64 (by decide) wraps_u64 32 ((A : Int) * 4294967296) Bn (by omega) (by omega) (by omega) (by omega) (by omega) (by omega)
  have hj : bits .or .u64 ((A : Int) * 4294967296) Bn = ((Lib.beNat [b0, b1, b2, b3, b4, b5, b6, b7] : Nat) : Int) := by rw [hj, HV.out]; omega
  exact congrArg (fun x => Ending.returned (Value.int .u64 x)) hj
set_option maxHeartbeats 1000000 in
set_option maxRecDepth 100000 in
theorem writeString_new (nb : Nat) (l : List UInt8) (w : World) (hb : Blk w nb #[.slice none 0 0] 113) (hl : l.length ≤ 1000000000) :
    Calls Tryz.prog 164 #[.pointer (some ⟨nb, 0, none⟩), .string ⟨l.toArray⟩] w fun e w' => e = .returned (.tuple #[.int .i64 (l.length : Int), .nilIface]) ∧
      ∃ d, w.heap.size ≤ d ∧ (l ≠ [] → d < w'.heap.size) ∧ Buf w' nb d l ∧ Kept [nb] w w' := by
  obtain ⟨i, i1, i2, i3, i4⟩ := u8Info
  have HI := Lib.hid (And.intro i1 (And.intro i2 (And.intro i3 i4))); clear i1 i2 i3 i4
  have c0 := hb.cell0
  have HB := Lib.hid hb; clear hb
  go_enter Tryz.func164, Tryz.ntmps164
  go_wp2_with (refine wpList_append2_string _ rfl (.tmp 10) (.tmp 11) 22 9 rfl 5 i Tryz.underlying22 Tryz.underlying9 HI.out.1 HI.out.2.1 HI.out.2.2.1 HI.out.2.2.2 (.slice none 0 0) 0 [] rfl (World.ownsRow_nil _ _ _ _) ⟨l.toArray⟩ rfl (by simp [ByteArray.size]; omega) ?_; intro v' w2 g1 g2 g3; rw [strCells_bstr] at g1; have g1 : w2.ownsRow 0 5 1 v' (0 + l.length) ([] ++ u8s l) := g1; rw [Nat.zero_add, List.nil_append] at g1; obtain ⟨ao, cc, rfl, hcc, hca⟩ := own_slice g1; have hk2 : Kept [] w w2 := (Kept.refl [] w).grown g2 (by simp [Value.ownBlock]); have hb2 := HB.out.kept hk2 (by simp); have c2 := hb2.cell0; have f2 := hb2.free 0; have H2 := Lib.hid (And.intro g1 (And.intro hk2 (And.intro hb2 (And.intro hcc (And.intro hca g3))))); clear g1 g2 g3 hk2 hb2 hcc hca)
  go_ret2
  have hks : Kept [nb] w2 (w2.setCell ⟨nb, 0, none⟩ (.slice ao l.length cc)) := (Kept.refl _ w2).setCell (by simp) _
  have hkw : Kept [nb] w (w2.setCell ⟨nb, 0, none⟩ (.slice ao l.length cc)) := (H2.out.2.1.mono (by simp)).trans hks (fun x hx => .inl hx)
  have hbf : Blk (w2.setCell ⟨nb, 0, none⟩ (.slice ao l.length cc)) nb #[.slice ao l.length cc] 113 := H2.out.2.2.1.setCell 0 _
  rcases H2.out.2.2.2.2.1 with ⟨h0, rfl, rfl, _⟩ | ⟨g, rfl, hg, hcell⟩
  · have h0 : l = [] := List.eq_nil_of_length_eq_zero h0
    subst h0
    exact ⟨rfl, w.heap.size, Nat.le_refl _, fun h => absurd rfl h, ⟨none, 0, hbf, Nat.le_refl _, fun h => absurd rfl h⟩, hkw⟩
  · have hgd : g = w.heap.size := by
      rcases H2.out.2.2.2.2.2 with h | h
      · rw [hg] at h; simp [Value.ownBlock] at h
      · rw [hg] at h; simpa using h
    have hgn : g ≠ nb := by have := HB.out.lt; omega
    have hgl : g < w2.heap.size := own_lt H2.out.1 hg
    refine ⟨rfl, g, by omega, fun _ => Nat.lt_of_lt_of_le hgl hks.size, ⟨some ⟨g, 0, none⟩, cc, hbf, H2.out.2.2.2.1, fun _ => ⟨0, rfl, fun j v hj => ?_⟩⟩, hkw⟩
    exact hks.cell (hcell j v hj) (by simpa using hgn)
theorem size_iArg : (Tryz.prog.info? 74).map (·.size) = some 4 := by kernel_rfl
theorem size_sMeth : (Tryz.prog.info? 42).map (·.size) = some 3 := by kernel_rfl
theorem ownSArg : (Tryz.prog.info? 77).map (fun i => (i.zero.map (·.cells.size), i.size, i.bytes)) = some (some 4, 4, 56) := by kernel_rfl
set_option maxHeartbeats 400000 in
theorem zzFits1_any (c m : Int) (aa : Option Addr) (n ac : Nat) (w : World) : Calls Tryz.prog 10 #[.agg #[.int .i64 c, .int .i64 m, .slice aa n ac]] w fun e w' => e = .returned (.bool (decide (n ≤ 2147483647))) ∧ Kept [] w w' := by
  by_cases h : n ≤ 2147483647
  · have h1 : ¬ (2147483647 : Int) < (n : Int) := by omega
    rw [decide_eq_true h]
    clear h
    go_enter Tryz.func10, Tryz.ntmps10
    go_wp2
    go_ret
    exact ⟨rfl, (Kept.refl [] w).alloc _⟩
  · have h1 : (2147483647 : Int) < (n : Int) := by omega
    rw [decide_eq_false h]
    clear h
    go_enter Tryz.func10, Tryz.ntmps10
    go_wp2
    go_ret
    exact ⟨rfl, (Kept.refl [] w).alloc _⟩
theorem results_lmeth {tmps : Array Value} {g : Nat} {cs : Array Value} {w : World} (h : tmps.getD 2 undef = .pointer (some ⟨g, 0, none⟩)) (hg : Blk w g cs 42) (hs : cs.size = 3) :
    (results Tryz.f11 tmps).run Tryz.prog w = .ok (.agg cs) w := by
  have hl := run_loadVar_row (P := Tryz.prog) w g 42 42 cs (0, 0) _ hg Tryz.underlying42 rfl (by rw [hs]; exact size_sMeth)
  simp only [Array.getD_eq_getD_getElem?] at h
  simp [results, Tryz.results11, h, asAddr, hl]
set_option maxHeartbeats 1000000 in
set_option maxRecDepth 100000 in
theorem lmethod_any (B : Nat → Prop) (w : World) (c m : Int) (av : Value) (args : List MArg) (h : ASl B w av args) (hwf : ∀ a ∈ args, WfA a) (hl : args.length ≤ 2147483647) :
    Calls Tryz.prog 11 #[.agg #[.int .i64 c, .int .i64 m, av]] w fun e w' => ∃ out, e = .returned (.agg #[.int .i64 c, .int .i64 m, out]) ∧ ASl (fun b => w.heap.size ≤ b) w' out (args.map convA) ∧ Kept [] w w' := by
  obtain ⟨aa, ac, rfl, hac, hget⟩ := h.mono (B' := fun b => B b ∧ b < w.heap.size) (fun b hb hl => ⟨hb, hl⟩)
  obtain ⟨i, z, i1, i2, i3, i4, i5⟩ := info_own ownSArg
  have HI := Lib.hid (And.intro i1 (And.intro i2 (And.intro i3 (And.intro i4 i5)))); clear i1 i2 i3 i4 i5
  have H := Lib.hid (And.intro hget (And.intro hwf hl))
  have hln : (args.length : Int) ≤ 2147483647 := by omega
  clear h hac hget hwf hl
  go_enter Tryz.func11, Tryz.ntmps11
  go_wp2_with (refine wpList_store_row (P := Tryz.prog) rfl rfl 42 (.tmp 3) (.tmp 10) rfl (w.heap.size + 1 + 1) rfl 42 _ [.int .i64 c, .int .i64 m, .slice none 0 0] (Blk.new_at (by simp)) rfl rfl (by simp [Value.oneCell']) size_sMeth ?_; intro w2 hb2 hk2; have hi2 : Blk w2 w.heap.size #[.int .i64 c, .int .i64 m, .slice aa args.length ac] 27 := (((Blk.new w _ _).alloc _).alloc _).kept hk2 (by simp; omega); have hr2 : Blk w2 (w.heap.size + 1) #[.int .i64 0, .int .i64 0, .slice none 0 0] 42 := ((Blk.new_at (by simp)).alloc _).kept hk2 (by simp); have hkw : Kept [] w w2 := ((((Kept.refl [] w).alloc _).alloc _).alloc _).trans hk2 (fun x hx => .inr (by simp at hx; omega)); have v2 : w2.cell? ⟨w.heap.size, 2, none⟩ = some (.slice aa args.length ac) := hi2.cell 2; have H2 := Lib.hid (And.intro hb2 (And.intro hi2 (And.intro hr2 hkw))); clear hb2 hk2 hi2 hr2 hkw)
  obtain ⟨ob, hob⟩ : ∃ ob, ob = w.heap.size + 1 + 1 := ⟨_, rfl⟩
  rw [← hob] at H2 ⊢
  have HOB := Lib.hid hob; clear hob
  go_loopw [14] (fun i W => ∃ (k : Nat) (ov : Value), i = .int .i64 (k : Int) ∧ k ≤ args.length ∧ Hid (Blk W ob #[.int .i64 c, .int .i64 m, ov] 42 ∧ OwnE 77 4 AHeld w2.heap.size W ov ((args.take k).map convA) ∧ Kept [ob] w2 W)) (fun i _ => args.length - (intOf i).toNat)
  case atStart => exact ⟨0, _, rfl, Nat.zero_le _, Lib.hid ⟨H2.out.1, by rw [List.take_zero]; exact OwnE.nil _ _ _ _ _, Kept.refl _ _⟩⟩
  case round =>
    obtain ⟨k, ov, rfl, hkl, HR⟩ := hrel
    have hobl : ob < w2.heap.size := H2.out.1.lt
    have hkwr : Kept [ob] w wr := (H2.out.2.2.2.mono (by simp)).trans HR.out.2.2 (fun x hx => .inl hx)
    have HW := Lib.hid (And.intro hobl hkwr); clear hobl hkwr
    by_cases hlt : k < args.length
    · obtain ⟨a, hx⟩ : ∃ a, args[k]? = some a := ⟨_, List.getElem?_eq_getElem hlt⟩
      obtain ⟨ad, cs, rfl, hca, tv, rfl, hft⟩ := H.out.1 k a hx
      have hBo : ∀ b, B b ∧ b < w.heap.size → b ∉ [ob] := fun b hb => by have := HOB.out; simp; omega
      have hca' := (hca.kept HW.out.2 hBo).2
      have hft' := hft.kept HW.out.2 hBo
      obtain ⟨cells, o1, o2, o3⟩ := HR.out.2.1
      have hmm : ((args.take k).map convA).length = k := by rw [List.length_map, List.length_take]; omega
      obtain ⟨kao, koc, rfl, hkoc, hoo⟩ := own_slice o1
      have hol : ∀ g, Value.ownBlock (.slice kao ((args.take k).map convA).length koc) = some g → g < wr.heap.size := fun g hg => own_lt o1 hg
      have hlt' : (k : Int) < args.length := by omega
      have hb1 := HR.out.1
      have o3r := o3
      rw [hmm] at hb1 hol o3
      have hwa := H.out.2.1 a (List.mem_of_getElem? hx)
      have HX := Lib.hid (And.intro hx (And.intro o1 (And.intro o2 (And.intro o3 (And.intro hol (And.intro o3r hwa))))))
      have HB1 := Lib.hid hb1
      have HC := Lib.hid (And.intro hca' hft')
      have hone : ∀ u ∈ [.int .i64 a.kind, .int .u64 (a.n : Int), .string (bstr a.text), tv], u.oneCell' = true := bears_arg.one (B := fun _ => True) (x := a) ⟨tv, rfl, hft.mono (fun _ _ _ => trivial)⟩
      have HONE := Lib.hid hone
      clear hx o1 o2 o3 o3r hol hkoc hoo hb1 hca hca' hft hft' hBo hwa hone
      go_upto_region 5 with (first
        | (refine wpList_load_cells rfl 74 (.tmp 16) rfl _ rfl [.int .i64 a.kind, .int .u64 (a.n : Int), .string (bstr a.text), tv] HC.out.1 _ Tryz.underlying74 rfl size_iArg ?_)
        | (refine wpList_store_row (P := Tryz.prog) rfl rfl 74 (.tmp 5) (.tmp 17) rfl wr.heap.size rfl 74 _ [.int .i64 a.kind, .int .u64 (a.n : Int), .string (bstr a.text), tv] (Blk.new wr _ _) rfl rfl HONE.out size_iArg ?_; intro w6 hb6 hk6; have hk6' := (((Kept.refl [] wr).alloc _).trans hk6 (S' := [wr.heap.size]) (fun x hx => .inr (by simp at hx; omega))); have HB6 := Lib.hid (And.intro hb6 hk6'); clear hb6 hk6 hk6'))
      have hkD : Kept [] wr w6.drew := HB6.out.2.drew
      have s0 : w6.cell? ⟨wr.heap.size, 0, none⟩ = some (.int .i64 a.kind) := HB6.out.1.cell 0
      have s1 : w6.cell? ⟨wr.heap.size, 1, none⟩ = some (.int .u64 (a.n : Int)) := HB6.out.1.cell 1
      have s2 : w6.cell? ⟨wr.heap.size, 2, none⟩ = some (.string (bstr a.text)) := HB6.out.1.cell 2
      have s3 : w6.cell? ⟨wr.heap.size, 3, none⟩ = some tv := HB6.out.1.cell 3
      have o2' : w6.cell? ⟨ob, 2, none⟩ = some (.slice kao k koc) := (HB1.out.kept HB6.out.2 (by simp)).cell 2
      have htb := table_any _ tv a.tab w6.drew (HC.out.2.kept hkD (by simp)) HX.out.2.2.2.2.2.2.2.1 HX.out.2.2.2.2.2.2.2.2.1
      have HT := Lib.hid htb; have HKD := Lib.hid hkD; clear htb hkD
      have d0 : w6.drew.cell? ⟨wr.heap.size, 0, none⟩ = some (.int .i64 a.kind) := s0
      have d1 : w6.drew.cell? ⟨wr.heap.size, 1, none⟩ = some (.int .u64 (a.n : Int)) := s1
      have d2 : w6.drew.cell? ⟨wr.heap.size, 2, none⟩ = some (.string (bstr a.text)) := s2
      have d3 : w6.drew.cell? ⟨wr.heap.size, 3, none⟩ = some tv := s3
      refine wp_region_noPanic ?_
      refine wp_region_held_drew (S := (fun w' : World => w'.cell? ⟨wr.heap.size, 0, none⟩ = some (.int .i64 a.kind) ∧ w'.cell? ⟨wr.heap.size, 1, none⟩ = some (.int .u64 (a.n : Int)) ∧ w'.cell? ⟨wr.heap.size, 2, none⟩ = some (.string (bstr a.text)) ∧ w'.cell? ⟨wr.heap.size, 3, none⟩ = some (tv))) (by kernel_rfl) (by (try dsimp only); exact ⟨d0, d1, d2, d3⟩) (fun hHeld => ?_)
      refine wpAnyH_take (i := 0) (oi := { dst := some 18, op := Op.fieldAddr 42 (Operand.tmp 3) 2, type := 0, pos := "laws.go:51", after := #[], guard := none }) (v := ?_) rfl (by kernel_rfl) (by kernel_rfl) (by kernel_rfl) (fun _ _ _ h => h) (Or.inl ⟨by rfl, ?_⟩) (by assumption) ?_
      rotate_left
      · intro w hSw; (try dsimp only at hSw); go_simp; try with_reducible rfl
      try simp only [Act.put, List.setIfInBounds_toArray, List.set_cons_zero, List.set_cons_succ]
      refine wpAnyH_take (i := 2) (oi := { dst := some 20, op := Op.fieldAddr 74 (Operand.tmp 5) 0, type := 0, pos := "laws.go:51", after := #[], guard := none }) (v := ?_) rfl (by kernel_rfl) (by kernel_rfl) (by kernel_rfl) (fun _ _ _ h => h) (Or.inl ⟨by rfl, ?_⟩) (by assumption) ?_
      rotate_left
      · intro w hSw; (try dsimp only at hSw); go_simp; try with_reducible rfl
      try simp only [Act.put, List.setIfInBounds_toArray, List.set_cons_zero, List.set_cons_succ]
      refine wpAnyH_take (i := 3) (oi := { dst := some 21, op := Op.load 3 (Operand.tmp 20), type := 3, pos := "laws.go:51", after := #[{ on := 2, ground := Ground.data }], guard := none }) (v := ?_) rfl (by kernel_rfl) (by kernel_rfl) (by kernel_rfl) (fun _ _ _ h => h) (Or.inl ⟨by rfl, ?_⟩) (by assumption) ?_
      rotate_left
      · intro w hSw; (try dsimp only at hSw); go_simp; try with_reducible rfl
      try simp only [Act.put, List.setIfInBounds_toArray, List.set_cons_zero, List.set_cons_succ]
      refine wpAnyH_take (i := 4) (oi := { dst := some 22, op := Op.fieldAddr 74 (Operand.tmp 5) 1, type := 0, pos := "laws.go:51", after := #[], guard := none }) (v := ?_) rfl (by kernel_rfl) (by kernel_rfl) (by kernel_rfl) (fun _ _ _ h => h) (Or.inl ⟨by rfl, ?_⟩) (by assumption) ?_
      rotate_left
      · intro w hSw; (try dsimp only at hSw); go_simp; try with_reducible rfl
      try simp only [Act.put, List.setIfInBounds_toArray, List.set_cons_zero, List.set_cons_succ]
      refine wpAnyH_take (i := 5) (oi := { dst := some 23, op := Op.load 28 (Operand.tmp 22), type := 28, pos := "laws.go:51", after := #[{ on := 4, ground := Ground.data }], guard := none }) (v := ?_) rfl (by kernel_rfl) (by kernel_rfl) (by kernel_rfl) (fun _ _ _ h => h) (Or.inl ⟨by rfl, ?_⟩) (by assumption) ?_
      rotate_left
      · intro w hSw; (try dsimp only at hSw); go_simp; try with_reducible rfl
      try simp only [Act.put, List.setIfInBounds_toArray, List.set_cons_zero, List.set_cons_succ]
      refine wpAnyH_take (i := 6) (oi := { dst := some 24, op := Op.fieldAddr 74 (Operand.tmp 5) 2, type := 0, pos := "laws.go:51", after := #[], guard := none }) (v := ?_) rfl (by kernel_rfl) (by kernel_rfl) (by kernel_rfl) (fun _ _ _ h => h) (Or.inl ⟨by rfl, ?_⟩) (by assumption) ?_
      rotate_left
      · intro w hSw; (try dsimp only at hSw); go_simp; try with_reducible rfl
      try simp only [Act.put, List.setIfInBounds_toArray, List.set_cons_zero, List.set_cons_succ]
      refine wpAnyH_take (i := 7) (oi := { dst := some 25, op := Op.load 9 (Operand.tmp 24), type := 9, pos := "laws.go:51", after := #[{ on := 6, ground := Ground.data }], guard := none }) (v := ?_) rfl (by kernel_rfl) (by kernel_rfl) (by kernel_rfl) (fun _ _ _ h => h) (Or.inl ⟨by rfl, ?_⟩) (by assumption) ?_
      rotate_left
      · intro w hSw; (try dsimp only at hSw); go_simp; try with_reducible rfl
      try simp only [Act.put, List.setIfInBounds_toArray, List.set_cons_zero, List.set_cons_succ]
      refine wpAnyH_take (i := 8) (oi := { dst := some 26, op := Op.fieldAddr 74 (Operand.tmp 5) 3, type := 0, pos := "laws.go:51", after := #[], guard := none }) (v := ?_) rfl (by kernel_rfl) (by kernel_rfl) (by kernel_rfl) (fun _ _ _ h => h) (Or.inl ⟨by rfl, ?_⟩) (by assumption) ?_
      rotate_left
      · intro w hSw; (try dsimp only at hSw); go_simp; try with_reducible rfl
      try simp only [Act.put, List.setIfInBounds_toArray, List.set_cons_zero, List.set_cons_succ]
      refine wpAnyH_take (i := 9) (oi := { dst := some 27, op := Op.load 31 (Operand.tmp 26), type := 31, pos := "laws.go:51", after := #[{ on := 8, ground := Ground.data }], guard := none }) (v := ?_) rfl (by kernel_rfl) (by kernel_rfl) (by kernel_rfl) (fun _ _ _ h => h) (Or.inl ⟨by rfl, ?_⟩) (by assumption) ?_
      rotate_left
      · intro w hSw; (try dsimp only at hSw); go_simp; try with_reducible rfl
      try simp only [Act.put, List.setIfInBounds_toArray, List.set_cons_zero, List.set_cons_succ]
      refine wpAnyH_ready (rs := [1, 10]) (by kernel_rfl) (by simp) ?_
      refine AllReadyH.cons (o := { dst := some 19, op := Op.load 40 (Operand.tmp 18), type := 40, pos := "laws.go:51", after := #[{ on := 0, ground := Ground.data }], guard := none }) rfl (fun K hK => ?_) (AllReadyH.cons (o := { dst := some 28, op := Op.call { callee := Callee.value (Operand.func 26), args := #[Operand.tmp 27], argTypes := #[31] }, type := 52, pos := "laws.go:51", after := #[{ on := 9, ground := Ground.data }], guard := none }) rfl (fun K hK => ?_) AllReadyH.nil)
      ·
        go_simp
        refine hK.out _ _ (by (try dsimp only); (first | with_reducible exact ⟨e0, e1, e2, e3⟩ | with_reducible exact ⟨y0, y1, y2, y3⟩ | with_reducible exact ⟨d0, d1, d2, d3⟩)) (fun hHeld => ?_)
        clear hK K
        try simp only [Act.put, List.setIfInBounds_toArray, List.set_cons_zero, List.set_cons_succ]
        refine wpAnyH_ready (rs := [10]) (by kernel_rfl) (by simp) ?_
        refine AllReadyH.cons (o := { dst := some 28, op := Op.call { callee := Callee.value (Operand.func 26), args := #[Operand.tmp 27], argTypes := #[31] }, type := 52, pos := "laws.go:51", after := #[{ on := 9, ground := Ground.data }], guard := none }) rfl (fun K hK => ?_) AllReadyH.nil
        go_simp
        go_at_call 26; refine HT.out.mono ?_; rintro e w7 ⟨tv2, rfl, v1, v2⟩; obtain ⟨fa, fc, rfl, _⟩ := id v1; have hk7 : Kept [] wr w7 := HKD.out.trans v2 (by simp); have hob7 := HB1.out.kept hk7 (by simp); have o7 : w7.cell? ⟨ob, 2, none⟩ = some (.slice kao k koc) := hob7.cell 2; have hb7 := HB6.out.1.drew.kept v2 (by simp); have l7 : ob < w7.heap.size := hob7.lt; have y0 : w7.cell? ⟨wr.heap.size, 0, none⟩ = some (.int .i64 a.kind) := hb7.cell 0; have y1 : w7.cell? ⟨wr.heap.size, 1, none⟩ = some (.int .u64 (a.n : Int)) := hb7.cell 1; have y2 : w7.cell? ⟨wr.heap.size, 2, none⟩ = some (.string (bstr a.text)) := hb7.cell 2; have y3 : w7.cell? ⟨wr.heap.size, 3, none⟩ = some (tv) := hb7.cell 3; have hb7a := hb7.alloc (.cells #[.int .i64 a.kind, .int .u64 (a.n : Int), .string (bstr a.text), .slice fa (convT a.tab).length fc] 77); have e0 : (w7.alloc (.cells #[.int .i64 a.kind, .int .u64 (a.n : Int), .string (bstr a.text), .slice fa (convT a.tab).length fc] 77)).cell? ⟨wr.heap.size, 0, none⟩ = some (.int .i64 a.kind) := hb7a.cell 0; have e1 : (w7.alloc (.cells #[.int .i64 a.kind, .int .u64 (a.n : Int), .string (bstr a.text), .slice fa (convT a.tab).length fc] 77)).cell? ⟨wr.heap.size, 1, none⟩ = some (.int .u64 (a.n : Int)) := hb7a.cell 1; have e2 : (w7.alloc (.cells #[.int .i64 a.kind, .int .u64 (a.n : Int), .string (bstr a.text), .slice fa (convT a.tab).length fc] 77)).cell? ⟨wr.heap.size, 2, none⟩ = some (.string (bstr a.text)) := hb7a.cell 2; have e3 : (w7.alloc (.cells #[.int .i64 a.kind, .int .u64 (a.n : Int), .string (bstr a.text), .slice fa (convT a.tab).length fc] 77)).cell? ⟨wr.heap.size, 3, none⟩ = some (tv) := hb7a.cell 3; have hka : Kept [] wr (w7.alloc (.cells #[.int .i64 a.kind, .int .u64 (a.n : Int), .string (bstr a.text), .slice fa (convT a.tab).length fc] 77)) := hk7.alloc _; have hmv := own_move bears_arg HX.out.2.1 HX.out.2.2.1 HX.out.2.2.2.2.2.1 (S := []) (fun b hb => by simp) hka; rw [hmm] at hmv; have H7 := Lib.hid (And.intro v1 (And.intro hka (And.intro hmv (And.intro hob7 hb7a)))); clear v1 v2 hk7 hob7 hb7 hb7a hka hmv
        go_wp2_with fail
        refine hK.out _ _ (by (try dsimp only); (first | with_reducible exact ⟨y0, y1, y2, y3⟩)) (fun hHeld => ?_)
        clear hK K
        try simp only [Act.put, List.setIfInBounds_toArray, List.set_cons_zero, List.set_cons_succ]
        refine wpAnyH_take (i := 11) (oi := { dst := some 29, op := Op.build 77 #[(0, Operand.tmp 21), (1, Operand.tmp 23), (2, Operand.tmp 25), (3, Operand.tmp 28)], type := 77, pos := "laws.go:51", after := #[{ on := 3, ground := Ground.data }, { on := 5, ground := Ground.data }, { on := 7, ground := Ground.data }, { on := 10, ground := Ground.data }], guard := none }) (v := ?_) rfl (by kernel_rfl) (by kernel_rfl) (by kernel_rfl) (fun _ _ _ h => h) (Or.inl ⟨by rfl, ?_⟩) (by assumption) ?_
        rotate_left
        · intro w hSw; (try dsimp only at hSw); go_simp; try with_reducible rfl
        try simp only [Act.put, List.setIfInBounds_toArray, List.set_cons_zero, List.set_cons_succ]
        refine wpAnyH_ready (rs := [12]) (by kernel_rfl) (by simp) ?_
        refine AllReadyH.cons (o := { dst := some 30, op := Op.buildSlice 40 1 #[(0, Operand.tmp 29)], type := 40, pos := "laws.go:51", after := #[{ on := 11, ground := Ground.data }], guard := none }) rfl (fun K hK => ?_) AllReadyH.nil
        go_simp
        refine hK.out _ _ (by (try dsimp only); (first | with_reducible exact ⟨e0, e1, e2, e3⟩)) (fun hHeld => ?_)
        clear hK K
        try simp only [Act.put, List.setIfInBounds_toArray, List.set_cons_zero, List.set_cons_succ]
        refine wpAnyH_ready (rs := [13]) (by kernel_rfl) (by simp) ?_
        refine AllReadyH.cons (o := { dst := some 31, op := Op.call { callee := Callee.builtin Builtin.append, args := #[Operand.tmp 19, Operand.tmp 30], argTypes := #[40, 40] }, type := 40, pos := "laws.go:51", after := #[{ on := 1, ground := Ground.data }, { on := 12, ground := Ground.data }, { on := 10, ground := Ground.chain }], guard := none }) rfl (fun K hK => ?_) AllReadyH.nil
        refine step_append2 _ rfl (.tmp 19) (.tmp 30) 40 rfl 77 i z 4 56 Tryz.underlying40 HI.out.1 HI.out.2.1 HI.out.2.2.1 HI.out.2.2.2.1 HI.out.2.2.2.2 (by decide) (.slice kao k koc) k cells rfl H7.out.2.2.1.1 ⟨w7.heap.size, 0, none⟩ 1 1 [.int .i64 a.kind, .int .u64 (a.n : Int), .string (bstr a.text), .slice fa (convT a.tab).length fc] rfl rfl (cells_new w7 _ _) (by intro u hu; simp only [List.mem_cons, List.mem_nil_iff, or_false] at hu; rcases hu with rfl | rfl | rfl | rfl <;> rfl) (by omega) (by omega) ?_; intro v' w8 g1 g2 g3; obtain ⟨ao8, c8, rfl, _, _⟩ := own_slice g1; have hkg := (Kept.refl (Value.ownBlock (.slice kao k koc)).toList _).grown g2 (fun k hk => .inl (by simp [hk])); have hob8 := (H7.out.2.2.2.1.alloc (.cells #[.int .i64 a.kind, .int .u64 (a.n : Int), .string (bstr a.text), .slice fa (convT a.tab).length fc] 77)).kept hkg (fun hm => by have := HX.out.2.2.2.1 ob (by simpa using hm); have := HW.out.1; omega); have hbz := H7.out.2.2.2.2.kept hkg (fun hm => by have := HX.out.2.2.2.2.1 wr.heap.size (by simpa using hm); omega); have hbx := hbz.setCell_other (p := ⟨ob, 2, none⟩) (by have := HW.out.1; have := HR.out.2.2.size; simp; omega) (.slice ao8 (k + 1) c8); have o8 : w8.cell? ⟨ob, 2, none⟩ = some (.slice kao k koc) := hob8.cell 2; have f8 := hob8.free 2; have z0 : w8.cell? ⟨wr.heap.size, 0, none⟩ = some (.int .i64 a.kind) := hbz.cell 0; have z1 : w8.cell? ⟨wr.heap.size, 1, none⟩ = some (.int .u64 (a.n : Int)) := hbz.cell 1; have z2 : w8.cell? ⟨wr.heap.size, 2, none⟩ = some (.string (bstr a.text)) := hbz.cell 2; have z3 : w8.cell? ⟨wr.heap.size, 3, none⟩ = some (tv) := hbz.cell 3; have x0 : (w8.setCell ⟨ob, 2, none⟩ (.slice ao8 (k + 1) c8)).cell? ⟨wr.heap.size, 0, none⟩ = some (.int .i64 a.kind) := hbx.cell 0; have x1 : (w8.setCell ⟨ob, 2, none⟩ (.slice ao8 (k + 1) c8)).cell? ⟨wr.heap.size, 1, none⟩ = some (.int .u64 (a.n : Int)) := hbx.cell 1; have x2 : (w8.setCell ⟨ob, 2, none⟩ (.slice ao8 (k + 1) c8)).cell? ⟨wr.heap.size, 2, none⟩ = some (.string (bstr a.text)) := hbx.cell 2; have x3 : (w8.setCell ⟨ob, 2, none⟩ (.slice ao8 (k + 1) c8)).cell? ⟨wr.heap.size, 3, none⟩ = some (tv) := hbx.cell 3; have H8 := Lib.hid (And.intro hob8 (And.intro g1 (And.intro g2 g3))); clear g1 g2 g3 hob8 hkg hbz hbx
        refine hK.out _ _ (by (try dsimp only); (first | with_reducible exact ⟨z0, z1, z2, z3⟩)) (fun hHeld => ?_)
        clear hK K
        try simp only [Act.put, List.setIfInBounds_toArray, List.set_cons_zero, List.set_cons_succ]
        refine wpAnyH_take (i := 14) (oi := { dst := some 32, op := Op.fieldAddr 42 (Operand.tmp 3) 2, type := 0, pos := "laws.go:51", after := #[{ on := 0, ground := Ground.phase }, { on := 1, ground := Ground.phase }, { on := 2, ground := Ground.phase }, { on := 3, ground := Ground.phase }, { on := 4, ground := Ground.phase }, { on := 5, ground := Ground.phase }, { on := 6, ground := Ground.phase }, { on := 7, ground := Ground.phase }, { on := 8, ground := Ground.phase }, { on := 9, ground := Ground.phase }, { on := 10, ground := Ground.phase }, { on := 11, ground := Ground.phase }, { on := 12, ground := Ground.phase }, { on := 13, ground := Ground.phase }], guard := none }) (v := ?_) rfl (by kernel_rfl) (by kernel_rfl) (by kernel_rfl) (fun _ _ _ h => h) (Or.inl ⟨by rfl, ?_⟩) (by assumption) ?_
        rotate_left
        · intro w hSw; (try dsimp only at hSw); go_simp; try with_reducible rfl
        try simp only [Act.put, List.setIfInBounds_toArray, List.set_cons_zero, List.set_cons_succ]
        refine wpAnyH_ready (rs := [15]) (by kernel_rfl) (by simp) ?_
        refine AllReadyH.cons (o := { dst := none, op := Op.store 40 (Operand.tmp 32) (Operand.tmp 31), type := 0, pos := "laws.go:51", after := #[{ on := 14, ground := Ground.data }, { on := 13, ground := Ground.data }, { on := 13, ground := Ground.chain }, { on := 0, ground := Ground.phase }, { on := 1, ground := Ground.phase }, { on := 2, ground := Ground.phase }, { on := 3, ground := Ground.phase }, { on := 4, ground := Ground.phase }, { on := 5, ground := Ground.phase }, { on := 6, ground := Ground.phase }, { on := 7, ground := Ground.phase }, { on := 8, ground := Ground.phase }, { on := 9, ground := Ground.phase }, { on := 10, ground := Ground.phase }, { on := 11, ground := Ground.phase }, { on := 12, ground := Ground.phase }, { on := 13, ground := Ground.phase }], guard := none }) rfl (fun K hK => ?_) AllReadyH.nil
        go_simp
        refine hK.out _ _ (by (try dsimp only); (first | with_reducible exact ⟨x0, x1, x2, x3⟩)) (fun hHeld => ?_)
        clear hK K
        try simp only [Act.put, List.setIfInBounds_toArray, List.set_cons_zero, List.set_cons_succ]
        refine wpAnyH_done (by kernel_rfl) ?_ _
        refine NoPanic.normal ?_
        go_wp2_with fail
        go_roundw
        case rel =>
          have hwr := HR.out.2.2.size
          have hw6 := HB6.out.2.size
          have hw7 := H7.out.2.1.size
          have hnx : AHeld (fun b => w2.heap.size ≤ b ∧ Value.ownBlock (.slice kao k koc) ≠ some b) (w7.alloc (.cells #[.int .i64 a.kind, .int .u64 (a.n : Int), .string (bstr a.text), .slice fa (convT a.tab).length fc] 77)) [.int .i64 a.kind, .int .u64 (a.n : Int), .string (bstr a.text), .slice fa (convT a.tab).length fc] (convA a) :=
            ⟨_, rfl, FSl.kept (S := []) (FSl.mono H7.out.1 (fun b hb _ => by have hb : w6.heap.size ≤ b := hb; exact ⟨by omega, fun e => by have := HX.out.2.2.2.2.1 b e; omega⟩)) ((Kept.refl [] w7).alloc _) (by simp)⟩
          obtain ⟨p1, p2⟩ := OwnE.push (xs := (args.take k).map convA) bears_arg H7.out.2.2.1.2 HX.out.2.2.2.1 (by omega) hnx (by rw [hmm]; exact H8.out.2.1) H8.out.2.2.1 H8.out.2.2.2
          have htk : (args.take (k + 1)).map convA = (args.take k).map convA ++ [convA a] := by rw [List.take_add_one, HX.out.1, List.map_append]; rfl
          rw [← htk] at p1
          have hks : Kept [ob] w8 (w8.setCell ⟨ob, 2, none⟩ (.slice ao8 (k + 1) c8)) := (Kept.refl _ w8).setCell (by simp) _
          refine ⟨k + 1, _, rfl, by omega, Lib.hid ⟨by simpa using H8.out.1.setCell 2 (.slice ao8 (k + 1) c8), p1.kept bears_arg hks (fun b hb => by have := HW.out.1; simp; omega), ?_⟩⟩
          exact ((HR.out.2.2.trans H7.out.2.1 (by simp)).trans p2 (fun x hx => .inr (HX.out.2.2.2.1 x (by simpa using hx)))).trans hks (fun x hx => .inl hx)
        case measure => simp [intOf]; omega
      ·
        go_simp
        go_at_call 26; refine HT.out.mono ?_; rintro e w7 ⟨tv2, rfl, v1, v2⟩; obtain ⟨fa, fc, rfl, _⟩ := id v1; have hk7 : Kept [] wr w7 := HKD.out.trans v2 (by simp); have hob7 := HB1.out.kept hk7 (by simp); have o7 : w7.cell? ⟨ob, 2, none⟩ = some (.slice kao k koc) := hob7.cell 2; have hb7 := HB6.out.1.drew.kept v2 (by simp); have l7 : ob < w7.heap.size := hob7.lt; have y0 : w7.cell? ⟨wr.heap.size, 0, none⟩ = some (.int .i64 a.kind) := hb7.cell 0; have y1 : w7.cell? ⟨wr.heap.size, 1, none⟩ = some (.int .u64 (a.n : Int)) := hb7.cell 1; have y2 : w7.cell? ⟨wr.heap.size, 2, none⟩ = some (.string (bstr a.text)) := hb7.cell 2; have y3 : w7.cell? ⟨wr.heap.size, 3, none⟩ = some (tv) := hb7.cell 3; have hb7a := hb7.alloc (.cells #[.int .i64 a.kind, .int .u64 (a.n : Int), .string (bstr a.text), .slice fa (convT a.tab).length fc] 77); have e0 : (w7.alloc (.cells #[.int .i64 a.kind, .int .u64 (a.n : Int), .string (bstr a.text), .slice fa (convT a.tab).length fc] 77)).cell? ⟨wr.heap.size, 0, none⟩ = some (.int .i64 a.kind) := hb7a.cell 0; have e1 : (w7.alloc (.cells #[.int .i64 a.kind, .int .u64 (a.n : Int), .string (bstr a.text), .slice fa (convT a.tab).length fc] 77)).cell? ⟨wr.heap.size, 1, none⟩ = some (.int .u64 (a.n : Int)) := hb7a.cell 1; have e2 : (w7.alloc (.cells #[.int .i64 a.kind, .int .u64 (a.n : Int), .string (bstr a.text), .slice fa (convT a.tab).length fc] 77)).cell? ⟨wr.heap.size, 2, none⟩ = some (.string (bstr a.text)) := hb7a.cell 2; have e3 : (w7.alloc (.cells #[.int .i64 a.kind, .int .u64 (a.n : Int), .string (bstr a.text), .slice fa (convT a.tab).length fc] 77)).cell? ⟨wr.heap.size, 3, none⟩ = some (tv) := hb7a.cell 3; have hka : Kept [] wr (w7.alloc (.cells #[.int .i64 a.kind, .int .u64 (a.n : Int), .string (bstr a.text), .slice fa (convT a.tab).length fc] 77)) := hk7.alloc _; have hmv := own_move bears_arg HX.out.2.1 HX.out.2.2.1 HX.out.2.2.2.2.2.1 (S := []) (fun b hb => by simp) hka; rw [hmm] at hmv; have H7 := Lib.hid (And.intro v1 (And.intro hka (And.intro hmv (And.intro hob7 hb7a)))); clear v1 v2 hk7 hob7 hb7 hb7a hka hmv
        go_wp2_with fail
        refine hK.out _ _ (by (try dsimp only); (first | with_reducible exact ⟨y0, y1, y2, y3⟩)) (fun hHeld => ?_)
        clear hK K
        try simp only [Act.put, List.setIfInBounds_toArray, List.set_cons_zero, List.set_cons_succ]
        refine wpAnyH_take (i := 11) (oi := { dst := some 29, op := Op.build 77 #[(0, Operand.tmp 21), (1, Operand.tmp 23), (2, Operand.tmp 25), (3, Operand.tmp 28)], type := 77, pos := "laws.go:51", after := #[{ on := 3, ground := Ground.data }, { on := 5, ground := Ground.data }, { on := 7, ground := Ground.data }, { on := 10, ground := Ground.data }], guard := none }) (v := ?_) rfl (by kernel_rfl) (by kernel_rfl) (by kernel_rfl) (fun _ _ _ h => h) (Or.inl ⟨by rfl, ?_⟩) (by assumption) ?_
        rotate_left
        · intro w hSw; (try dsimp only at hSw); go_simp; try with_reducible rfl
        try simp only [Act.put, List.setIfInBounds_toArray, List.set_cons_zero, List.set_cons_succ]
        refine wpAnyH_ready (rs := [1, 12]) (by kernel_rfl) (by simp) ?_
        refine AllReadyH.cons (o := { dst := some 19, op := Op.load 40 (Operand.tmp 18), type := 40, pos := "laws.go:51", after := #[{ on := 0, ground := Ground.data }], guard := none }) rfl (fun K hK => ?_) (AllReadyH.cons (o := { dst := some 30, op := Op.buildSlice 40 1 #[(0, Operand.tmp 29)], type := 40, pos := "laws.go:51", after := #[{ on := 11, ground := Ground.data }], guard := none }) rfl (fun K hK => ?_) AllReadyH.nil)
        ·
          go_simp
          refine hK.out _ _ (by (try dsimp only); (first | with_reducible exact ⟨e0, e1, e2, e3⟩ | with_reducible exact ⟨y0, y1, y2, y3⟩ | with_reducible exact ⟨d0, d1, d2, d3⟩)) (fun hHeld => ?_)
          clear hK K
          try simp only [Act.put, List.setIfInBounds_toArray, List.set_cons_zero, List.set_cons_succ]
          refine wpAnyH_ready (rs := [12]) (by kernel_rfl) (by simp) ?_
          refine AllReadyH.cons (o := { dst := some 30, op := Op.buildSlice 40 1 #[(0, Operand.tmp 29)], type := 40, pos := "laws.go:51", after := #[{ on := 11, ground := Ground.data }], guard := none }) rfl (fun K hK => ?_) AllReadyH.nil
          go_simp
          refine hK.out _ _ (by (try dsimp only); (first | with_reducible exact ⟨e0, e1, e2, e3⟩)) (fun hHeld => ?_)
          clear hK K
          try simp only [Act.put, List.setIfInBounds_toArray, List.set_cons_zero, List.set_cons_succ]
          refine wpAnyH_ready (rs := [13]) (by kernel_rfl) (by simp) ?_
          refine AllReadyH.cons (o := { dst := some 31, op := Op.call { callee := Callee.builtin Builtin.append, args := #[Operand.tmp 19, Operand.tmp 30], argTypes := #[40, 40] }, type := 40, pos := "laws.go:51", after := #[{ on := 1, ground := Ground.data }, { on := 12, ground := Ground.data }, { on := 10, ground := Ground.chain }], guard := none }) rfl (fun K hK => ?_) AllReadyH.nil
          refine step_append2 _ rfl (.tmp 19) (.tmp 30) 40 rfl 77 i z 4 56 Tryz.underlying40 HI.out.1 HI.out.2.1 HI.out.2.2.1 HI.out.2.2.2.1 HI.out.2.2.2.2 (by decide) (.slice kao k koc) k cells rfl H7.out.2.2.1.1 ⟨w7.heap.size, 0, none⟩ 1 1 [.int .i64 a.kind, .int .u64 (a.n : Int), .string (bstr a.text), .slice fa (convT a.tab).length fc] rfl rfl (cells_new w7 _ _) (by intro u hu; simp only [List.mem_cons, List.mem_nil_iff, or_false] at hu; rcases hu with rfl | rfl | rfl | rfl <;> rfl) (by omega) (by omega) ?_; intro v' w8 g1 g2 g3; obtain ⟨ao8, c8, rfl, _, _⟩ := own_slice g1; have hkg := (Kept.refl (Value.ownBlock (.slice kao k koc)).toList _).grown g2 (fun k hk => .inl (by simp [hk])); have hob8 := (H7.out.2.2.2.1.alloc (.cells #[.int .i64 a.kind, .int .u64 (a.n : Int), .string (bstr a.text), .slice fa (convT a.tab).length fc] 77)).kept hkg (fun hm => by have := HX.out.2.2.2.1 ob (by simpa using hm); have := HW.out.1; omega); have hbz := H7.out.2.2.2.2.kept hkg (fun hm => by have := HX.out.2.2.2.2.1 wr.heap.size (by simpa using hm); omega); have hbx := hbz.setCell_other (p := ⟨ob, 2, none⟩) (by have := HW.out.1; have := HR.out.2.2.size; simp; omega) (.slice ao8 (k + 1) c8); have o8 : w8.cell? ⟨ob, 2, none⟩ = some (.slice kao k koc) := hob8.cell 2; have f8 := hob8.free 2; have z0 : w8.cell? ⟨wr.heap.size, 0, none⟩ = some (.int .i64 a.kind) := hbz.cell 0; have z1 : w8.cell? ⟨wr.heap.size, 1, none⟩ = some (.int .u64 (a.n : Int)) := hbz.cell 1; have z2 : w8.cell? ⟨wr.heap.size, 2, none⟩ = some (.string (bstr a.text)) := hbz.cell 2; have z3 : w8.cell? ⟨wr.heap.size, 3, none⟩ = some (tv) := hbz.cell 3; have x0 : (w8.setCell ⟨ob, 2, none⟩ (.slice ao8 (k + 1) c8)).cell? ⟨wr.heap.size, 0, none⟩ = some (.int .i64 a.kind) := hbx.cell 0; have x1 : (w8.setCell ⟨ob, 2, none⟩ (.slice ao8 (k + 1) c8)).cell? ⟨wr.heap.size, 1, none⟩ = some (.int .u64 (a.n : Int)) := hbx.cell 1; have x2 : (w8.setCell ⟨ob, 2, none⟩ (.slice ao8 (k + 1) c8)).cell? ⟨wr.heap.size, 2, none⟩ = some (.string (bstr a.text)) := hbx.cell 2; have x3 : (w8.setCell ⟨ob, 2, none⟩ (.slice ao8 (k + 1) c8)).cell? ⟨wr.heap.size, 3, none⟩ = some (tv) := hbx.cell 3; have H8 := Lib.hid (And.intro hob8 (And.intro g1 (And.intro g2 g3))); clear g1 g2 g3 hob8 hkg hbz hbx
          refine hK.out _ _ (by (try dsimp only); (first | with_reducible exact ⟨z0, z1, z2, z3⟩)) (fun hHeld => ?_)
          clear hK K
          try simp only [Act.put, List.setIfInBounds_toArray, List.set_cons_zero, List.set_cons_succ]
          refine wpAnyH_take (i := 14) (oi := { dst := some 32, op := Op.fieldAddr 42 (Operand.tmp 3) 2, type := 0, pos := "laws.go:51", after := #[{ on := 0, ground := Ground.phase }, { on := 1, ground := Ground.phase }, { on := 2, ground := Ground.phase }, { on := 3, ground := Ground.phase }, { on := 4, ground := Ground.phase }, { on := 5, ground := Ground.phase }, { on := 6, ground := Ground.phase }, { on := 7, ground := Ground.phase }, { on := 8, ground := Ground.phase }, { on := 9, ground := Ground.phase }, { on := 10, ground := Ground.phase }, { on := 11, ground := Ground.phase }, { on := 12, ground := Ground.phase }, { on := 13, ground := Ground.phase }], guard := none }) (v := ?_) rfl (by kernel_rfl) (by kernel_rfl) (by kernel_rfl) (fun _ _ _ h => h) (Or.inl ⟨by rfl, ?_⟩) (by assumption) ?_
          rotate_left
          · intro w hSw; (try dsimp only at hSw); go_simp; try with_reducible rfl
          try simp only [Act.put, List.setIfInBounds_toArray, List.set_cons_zero, List.set_cons_succ]
          refine wpAnyH_ready (rs := [15]) (by kernel_rfl) (by simp) ?_
          refine AllReadyH.cons (o := { dst := none, op := Op.store 40 (Operand.tmp 32) (Operand.tmp 31), type := 0, pos := "laws.go:51", after := #[{ on := 14, ground := Ground.data }, { on := 13, ground := Ground.data }, { on := 13, ground := Ground.chain }, { on := 0, ground := Ground.phase }, { on := 1, ground := Ground.phase }, { on := 2, ground := Ground.phase }, { on := 3, ground := Ground.phase }, { on := 4, ground := Ground.phase }, { on := 5, ground := Ground.phase }, { on := 6, ground := Ground.phase }, { on := 7, ground := Ground.phase }, { on := 8, ground := Ground.phase }, { on := 9, ground := Ground.phase }, { on := 10, ground := Ground.phase }, { on := 11, ground := Ground.phase }, { on := 12, ground := Ground.phase }, { on := 13, ground := Ground.phase }], guard := none }) rfl (fun K hK => ?_) AllReadyH.nil
          go_simp
          refine hK.out _ _ (by (try dsimp only); (first | with_reducible exact ⟨x0, x1, x2, x3⟩)) (fun hHeld => ?_)
          clear hK K
          try simp only [Act.put, List.setIfInBounds_toArray, List.set_cons_zero, List.set_cons_succ]
          refine wpAnyH_done (by kernel_rfl) ?_ _
          refine NoPanic.normal ?_
          go_wp2_with fail
          go_roundw
          case rel =>
            have hwr := HR.out.2.2.size
            have hw6 := HB6.out.2.size
            have hw7 := H7.out.2.1.size
            have hnx : AHeld (fun b => w2.heap.size ≤ b ∧ Value.ownBlock (.slice kao k koc) ≠ some b) (w7.alloc (.cells #[.int .i64 a.kind, .int .u64 (a.n : Int), .string (bstr a.text), .slice fa (convT a.tab).length fc] 77)) [.int .i64 a.kind, .int .u64 (a.n : Int), .string (bstr a.text), .slice fa (convT a.tab).length fc] (convA a) :=
              ⟨_, rfl, FSl.kept (S := []) (FSl.mono H7.out.1 (fun b hb _ => by have hb : w6.heap.size ≤ b := hb; exact ⟨by omega, fun e => by have := HX.out.2.2.2.2.1 b e; omega⟩)) ((Kept.refl [] w7).alloc _) (by simp)⟩
            obtain ⟨p1, p2⟩ := OwnE.push (xs := (args.take k).map convA) bears_arg H7.out.2.2.1.2 HX.out.2.2.2.1 (by omega) hnx (by rw [hmm]; exact H8.out.2.1) H8.out.2.2.1 H8.out.2.2.2
            have htk : (args.take (k + 1)).map convA = (args.take k).map convA ++ [convA a] := by rw [List.take_add_one, HX.out.1, List.map_append]; rfl
            rw [← htk] at p1
            have hks : Kept [ob] w8 (w8.setCell ⟨ob, 2, none⟩ (.slice ao8 (k + 1) c8)) := (Kept.refl _ w8).setCell (by simp) _
            refine ⟨k + 1, _, rfl, by omega, Lib.hid ⟨by simpa using H8.out.1.setCell 2 (.slice ao8 (k + 1) c8), p1.kept bears_arg hks (fun b hb => by have := HW.out.1; simp; omega), ?_⟩⟩
            exact ((HR.out.2.2.trans H7.out.2.1 (by simp)).trans p2 (fun x hx => .inr (HX.out.2.2.2.1 x (by simpa using hx)))).trans hks (fun x hx => .inl hx)
          case measure => simp [intOf]; omega
        ·
          go_simp
          refine hK.out _ _ (by (try dsimp only); (first | with_reducible exact ⟨e0, e1, e2, e3⟩)) (fun hHeld => ?_)
          clear hK K
          try simp only [Act.put, List.setIfInBounds_toArray, List.set_cons_zero, List.set_cons_succ]
          refine wpAnyH_ready (rs := [1]) (by kernel_rfl) (by simp) ?_
          refine AllReadyH.cons (o := { dst := some 19, op := Op.load 40 (Operand.tmp 18), type := 40, pos := "laws.go:51", after := #[{ on := 0, ground := Ground.data }], guard := none }) rfl (fun K hK => ?_) AllReadyH.nil
          go_simp
          refine hK.out _ _ (by (try dsimp only); (first | with_reducible exact ⟨e0, e1, e2, e3⟩ | with_reducible exact ⟨y0, y1, y2, y3⟩ | with_reducible exact ⟨d0, d1, d2, d3⟩)) (fun hHeld => ?_)
          clear hK K
          try simp only [Act.put, List.setIfInBounds_toArray, List.set_cons_zero, List.set_cons_succ]
          refine wpAnyH_ready (rs := [13]) (by kernel_rfl) (by simp) ?_
          refine AllReadyH.cons (o := { dst := some 31, op := Op.call { callee := Callee.builtin Builtin.append, args := #[Operand.tmp 19, Operand.tmp 30], argTypes := #[40, 40] }, type := 40, pos := "laws.go:51", after := #[{ on := 1, ground := Ground.data }, { on := 12, ground := Ground.data }, { on := 10, ground := Ground.chain }], guard := none }) rfl (fun K hK => ?_) AllReadyH.nil
          refine step_append2 _ rfl (.tmp 19) (.tmp 30) 40 rfl 77 i z 4 56 Tryz.underlying40 HI.out.1 HI.out.2.1 HI.out.2.2.1 HI.out.2.2.2.1 HI.out.2.2.2.2 (by decide) (.slice kao k koc) k cells rfl H7.out.2.2.1.1 ⟨w7.heap.size, 0, none⟩ 1 1 [.int .i64 a.kind, .int .u64 (a.n : Int), .string (bstr a.text), .slice fa (convT a.tab).length fc] rfl rfl (cells_new w7 _ _) (by intro u hu; simp only [List.mem_cons, List.mem_nil_iff, or_false] at hu; rcases hu with rfl | rfl | rfl | rfl <;> rfl) (by omega) (by omega) ?_; intro v' w8 g1 g2 g3; obtain ⟨ao8, c8, rfl, _, _⟩ := own_slice g1; have hkg := (Kept.refl (Value.ownBlock (.slice kao k koc)).toList _).grown g2 (fun k hk => .inl (by simp [hk])); have hob8 := (H7.out.2.2.2.1.alloc (.cells #[.int .i64 a.kind, .int .u64 (a.n : Int), .string (bstr a.text), .slice fa (convT a.tab).length fc] 77)).kept hkg (fun hm => by have := HX.out.2.2.2.1 ob (by simpa using hm); have := HW.out.1; omega); have hbz := H7.out.2.2.2.2.kept hkg (fun hm => by have := HX.out.2.2.2.2.1 wr.heap.size (by simpa using hm); omega); have hbx := hbz.setCell_other (p := ⟨ob, 2, none⟩) (by have := HW.out.1; have := HR.out.2.2.size; simp; omega) (.slice ao8 (k + 1) c8); have o8 : w8.cell? ⟨ob, 2, none⟩ = some (.slice kao k koc) := hob8.cell 2; have f8 := hob8.free 2; have z0 : w8.cell? ⟨wr.heap.size, 0, none⟩ = some (.int .i64 a.kind) := hbz.cell 0; have z1 : w8.cell? ⟨wr.heap.size, 1, none⟩ = some (.int .u64 (a.n : Int)) := hbz.cell 1; have z2 : w8.cell? ⟨wr.heap.size, 2, none⟩ = some (.string (bstr a.text)) := hbz.cell 2; have z3 : w8.cell? ⟨wr.heap.size, 3, none⟩ = some (tv) := hbz.cell 3; have x0 : (w8.setCell ⟨ob, 2, none⟩ (.slice ao8 (k + 1) c8)).cell? ⟨wr.heap.size, 0, none⟩ = some (.int .i64 a.kind) := hbx.cell 0; have x1 : (w8.setCell ⟨ob, 2, none⟩ (.slice ao8 (k + 1) c8)).cell? ⟨wr.heap.size, 1, none⟩ = some (.int .u64 (a.n : Int)) := hbx.cell 1; have x2 : (w8.setCell ⟨ob, 2, none⟩ (.slice ao8 (k + 1) c8)).cell? ⟨wr.heap.size, 2, none⟩ = some (.string (bstr a.text)) := hbx.cell 2; have x3 : (w8.setCell ⟨ob, 2, none⟩ (.slice ao8 (k + 1) c8)).cell? ⟨wr.heap.size, 3, none⟩ = some (tv) := hbx.cell 3; have H8 := Lib.hid (And.intro hob8 (And.intro g1 (And.intro g2 g3))); clear g1 g2 g3 hob8 hkg hbz hbx
          refine hK.out _ _ (by (try dsimp only); (first | with_reducible exact ⟨z0, z1, z2, z3⟩)) (fun hHeld => ?_)
          clear hK K
          try simp only [Act.put, List.setIfInBounds_toArray, List.set_cons_zero, List.set_cons_succ]
          refine wpAnyH_take (i := 14) (oi := { dst := some 32, op := Op.fieldAddr 42 (Operand.tmp 3) 2, type := 0, pos := "laws.go:51", after := #[{ on := 0, ground := Ground.phase }, { on := 1, ground := Ground.phase }, { on := 2, ground := Ground.phase }, { on := 3, ground := Ground.phase }, { on := 4, ground := Ground.phase }, { on := 5, ground := Ground.phase }, { on := 6, ground := Ground.phase }, { on := 7, ground := Ground.phase }, { on := 8, ground := Ground.phase }, { on := 9, ground := Ground.phase }, { on := 10, ground := Ground.phase }, { on := 11, ground := Ground.phase }, { on := 12, ground := Ground.phase }, { on := 13, ground := Ground.phase }], guard := none }) (v := ?_) rfl (by kernel_rfl) (by kernel_rfl) (by kernel_rfl) (fun _ _ _ h => h) (Or.inl ⟨by rfl, ?_⟩) (by assumption) ?_
          rotate_left
          · intro w hSw; (try dsimp only at hSw); go_simp; try with_reducible rfl
          try simp only [Act.put, List.setIfInBounds_toArray, List.set_cons_zero, List.set_cons_succ]
          refine wpAnyH_ready (rs := [15]) (by kernel_rfl) (by simp) ?_
          refine AllReadyH.cons (o := { dst := none, op := Op.store 40 (Operand.tmp 32) (Operand.tmp 31), type := 0, pos := "laws.go:51", after := #[{ on := 14, ground := Ground.data }, { on := 13, ground := Ground.data }, { on := 13, ground := Ground.chain }, { on := 0, ground := Ground.phase }, { on := 1, ground := Ground.phase }, { on := 2, ground := Ground.phase }, { on := 3, ground := Ground.phase }, { on := 4, ground := Ground.phase }, { on := 5, ground := Ground.phase }, { on := 6, ground := Ground.phase }, { on := 7, ground := Ground.phase }, { on := 8, ground := Ground.phase }, { on := 9, ground := Ground.phase }, { on := 10, ground := Ground.phase }, { on := 11, ground := Ground.phase }, { on := 12, ground := Ground.phase }, { on := 13, ground := Ground.phase }], guard := none }) rfl (fun K hK => ?_) AllReadyH.nil
          go_simp
          refine hK.out _ _ (by (try dsimp only); (first | with_reducible exact ⟨x0, x1, x2, x3⟩)) (fun hHeld => ?_)
          clear hK K
          try simp only [Act.put, List.setIfInBounds_toArray, List.set_cons_zero, List.set_cons_succ]
          refine wpAnyH_done (by kernel_rfl) ?_ _
          refine NoPanic.normal ?_
          go_wp2_with fail
          go_roundw
          case rel =>
            have hwr := HR.out.2.2.size
            have hw6 := HB6.out.2.size
            have hw7 := H7.out.2.1.size
            have hnx : AHeld (fun b => w2.heap.size ≤ b ∧ Value.ownBlock (.slice kao k koc) ≠ some b) (w7.alloc (.cells #[.int .i64 a.kind, .int .u64 (a.n : Int), .string (bstr a.text), .slice fa (convT a.tab).length fc] 77)) [.int .i64 a.kind, .int .u64 (a.n : Int), .string (bstr a.text), .slice fa (convT a.tab).length fc] (convA a) :=
              ⟨_, rfl, FSl.kept (S := []) (FSl.mono H7.out.1 (fun b hb _ => by have hb : w6.heap.size ≤ b := hb; exact ⟨by omega, fun e => by have := HX.out.2.2.2.2.1 b e; omega⟩)) ((Kept.refl [] w7).alloc _) (by simp)⟩
            obtain ⟨p1, p2⟩ := OwnE.push (xs := (args.take k).map convA) bears_arg H7.out.2.2.1.2 HX.out.2.2.2.1 (by omega) hnx (by rw [hmm]; exact H8.out.2.1) H8.out.2.2.1 H8.out.2.2.2
            have htk : (args.take (k + 1)).map convA = (args.take k).map convA ++ [convA a] := by rw [List.take_add_one, HX.out.1, List.map_append]; rfl
            rw [← htk] at p1
            have hks : Kept [ob] w8 (w8.setCell ⟨ob, 2, none⟩ (.slice ao8 (k + 1) c8)) := (Kept.refl _ w8).setCell (by simp) _
            refine ⟨k + 1, _, rfl, by omega, Lib.hid ⟨by simpa using H8.out.1.setCell 2 (.slice ao8 (k + 1) c8), p1.kept bears_arg hks (fun b hb => by have := HW.out.1; simp; omega), ?_⟩⟩
            exact ((HR.out.2.2.trans H7.out.2.1 (by simp)).trans p2 (fun x hx => .inr (HX.out.2.2.2.1 x (by simpa using hx)))).trans hks (fun x hx => .inl hx)
          case measure => simp [intOf]; omega
    · have hkm : k = args.length := by omega
      subst hkm
      have hb1 := HR.out.1
      have hrb : Blk wr (w.heap.size + 1) #[.int .i64 0, .int .i64 0, .slice none 0 0] 42 := H2.out.2.2.1.kept HR.out.2.2 (by have := HOB.out; simp; omega)
      have hasl := HR.out.2.1.asl
      rw [List.take_length] at hasl
      have hone := hasl.one
      have HE := Lib.hid (And.intro hb1 (And.intro hrb (And.intro hasl hone))); clear hb1 hrb hasl hone
      go_wp2_with (first
        | (refine wpList_load_row (P := Tryz.prog) rfl 42 (.tmp 3) rfl ob rfl 42 #[.int .i64 c, .int .i64 m, ov] HE.out.1 _ Tryz.underlying42 rfl size_sMeth ?_)
        | (refine wpList_store_row (P := Tryz.prog) rfl rfl 42 (.tmp 2) (.tmp 34) rfl (w.heap.size + 1) rfl 42 _ [.int .i64 c, .int .i64 m, ov] HE.out.2.1 rfl rfl (by intro u hu; simp only [List.mem_cons, List.mem_nil_iff, or_false] at hu; rcases hu with rfl | rfl | rfl; rfl; rfl; exact HE.out.2.2.2) size_sMeth ?_; intro w9 hb9 hk9; have HB9 := Lib.hid (And.intro hb9 hk9); clear hb9 hk9))
      refine bodyPost_ret (v := .agg #[.int .i64 c, .int .i64 m, ov]) (results_lmeth rfl HB9.out.1 rfl) rfl ⟨_, rfl, ?_, ?_⟩
      · have := HW.out.2.size
        exact (HE.out.2.2.1.kept HB9.out.2 (fun b hb => by have hb : w2.heap.size ≤ b := hb; have := H2.out.2.2.1.lt; simp; omega)).mono (fun b hb _ => by have hb : w2.heap.size ≤ b := hb; have := H2.out.2.2.2.size; omega)
      · exact (H2.out.2.2.2.trans HR.out.2.2 (fun x hx => .inr (by have := HOB.out; simp at hx; omega))).trans HB9.out.2 (fun x hx => .inr (by simp at hx; omega))
abbrev TB : TypeId := 113
theorem Blk.src {w : World} {g : Nat} {l : List UInt8} {t : TypeId} (h : Blk w g (u8s l).toArray t) (c : Nat) : Src w (.slice (some ⟨g, 0, none⟩) l.length c) g l := by
  refine .inr ⟨_, c, rfl, rfl, fun j v hj => ?_⟩
  rw [addr_add, Nat.zero_add, h.cell j]
  simpa using hj
set_option maxHeartbeats 400000 in
theorem write_any (q : Nat) (bs : List Nat) (s : Value) (d : Nat) (l m : List UInt8) (w : World) (hw : Wr TB w q bs l) (hs : Src w s d m) (hsl : ∃ ao c, s = .slice ao m.length c) (hlen : l.length + m.length ≤ 140737488355328) :
    Calls Tryz.prog 238 #[.pointer (some ⟨q, 0, none⟩), s] w fun e w' => e = .returned (.tuple #[.int .i64 (m.length : Int), .nilIface]) ∧
      ∃ bs', Wr TB w' q bs' (l ++ m) ∧ Adv q bs bs' w w' := by
  obtain ⟨ao, c, rfl⟩ := hsl
  obtain ⟨v, q1, q2, q3, q4⟩ := hw
  have c0 := q1.cell0
  have hne : ∀ b, v.ownBlock = some b → b ≠ q := fun b hb e => q4 (by rw [q3, hb, e]; simp)
  have HQ := Lib.hid (And.intro q1 (And.intro q2 (And.intro q3 hne))); have HS := Lib.hid hs
  clear q1 q2 q3 q4 hs hne
  go_enter Tryz.func238, Tryz.ntmps238
  go_wp2_with (refine wpList_append_bytes rfl (.tmp 10) (.tmp 11) 22 22 rfl Tryz.underlying22 Tryz.underlying22 v _ l m l.length m.length rfl rfl rfl rfl HQ.out.2.1 d HS.out hlen ?_; intro ao2 c2 w1 g1 g2 g3; have k1 := HQ.out.1.kept g2 (fun hm => HQ.out.2.2.2 q (by simpa using hm) rfl); have c1 := k1.cell0; have f1 := k1.free 0; have HG := Lib.hid (And.intro g1 (And.intro g2 (And.intro g3 k1))); clear g1 g2 g3 k1)
  go_ret2
  refine ⟨rfl, _, ⟨_, HG.out.2.2.2.setCell 0 _, ?_, rfl, ?_⟩, ⟨?_, ?_⟩⟩
  · have h := ownsRow_kept (S := [q]) HG.out.1 ((Kept.refl [q] w1).setCell (p := ⟨q, 0, none⟩) (by simp) (.slice ao2 (l.length + m.length) c2)) (fun b hb => nin1 (by
      rcases HG.out.2.2.1 with h | h
      · exact HQ.out.2.2.2 b (by rw [← h]; exact hb)
      · rw [h] at hb; cases hb; have := HQ.out.1.lt; omega))
    rw [List.length_append]; exact h
  · intro hm
    simp only [Option.mem_toList, Option.mem_def] at hm
    rcases HG.out.2.2.1 with h | h
    · exact HQ.out.2.2.2 q (by rw [← h]; exact hm) rfl
    · rw [h] at hm; cases hm; have := HQ.out.1.lt; omega
  · exact (HG.out.2.1.mono (by rw [HQ.out.2.2.1]; intro x hx; exact .inl (List.mem_cons_of_mem _ hx))).setCell (by simp) _
  · intro b hb
    simp only [Option.mem_toList, Option.mem_def] at hb
    rcases HG.out.2.2.1 with h | h
    · exact .inl (by rw [HQ.out.2.2.1, ← h]; simpa using hb)
    · rw [h] at hb; cases hb; exact .inr (Nat.le_refl _)
theorem mask_byte (a s : Nat) : (a &&& (255 * 2 ^ s)) / 2 ^ s % 256 = a / 2 ^ s % 256 := by
  rw [← Nat.shiftRight_eq_div_pow, ← Nat.shiftRight_eq_div_pow, Nat.shiftRight_and_distrib, Nat.shiftRight_eq_div_pow (255 * 2 ^ s), Nat.mul_div_cancel _ (Nat.two_pow_pos s)]
  have : (a >>> s) &&& 255 = (a >>> s) % 256 := Nat.and_two_pow_sub_one_eq_mod _ 8
  rw [this, Nat.mod_mod]
theorem mask16 (a s b d : Nat) (hb : b = 255 * 2 ^ s) (hd : d = 2 ^ s) (ha : a < 65536) (hbl : b < 65536) : bits .and .u16 (a : Int) (b : Int) / (d : Int) % 256 = ((UInt8.ofNat (a / d)).toNat : Int) := by
  rw [u16_and_nat a b ha hbl, ← Int.natCast_ediv, show (256 : Int) = ((256 : Nat) : Int) from rfl, ← Int.natCast_emod]
  subst hb hd
  rw [mask_byte]
  simp
theorem mask64 (a s b d : Nat) (hb : b = 255 * 2 ^ s) (hd : d = 2 ^ s) (ha : a < 18446744073709551616) (hbl : b < 18446744073709551616) : bits .and .u64 (a : Int) (b : Int) / (d : Int) % 256 = ((UInt8.ofNat (a / d)).toNat : Int) := by
  rw [u64_and_nat a b ha hbl, ← Int.natCast_ediv, show (256 : Int) = ((256 : Nat) : Int) from rfl, ← Int.natCast_emod]
  subst hb hd
  rw [mask_byte]
  simp
theorem be1 (n : Nat) : Lib.beBytes 1 n = [UInt8.ofNat n] := by
  apply List.ext_getElem?
  intro i
  by_cases h : i < 1
  · rw [beBytes_get 1 n i h]; have : i = 0 := by omega
    subst this; simp
  · rw [List.getElem?_eq_none (by simp [Lib.beBytes_length]; omega), List.getElem?_eq_none (by simp; omega)]
theorem be2 (n : Nat) : Lib.beBytes 2 n = [UInt8.ofNat (n / 256), UInt8.ofNat n] := by
  apply List.ext_getElem?
  intro i
  by_cases h : i < 2
  · rw [beBytes_get 2 n i h]
    match i, h with
    | 0, _ => simp
    | 1, _ => simp
  · rw [List.getElem?_eq_none (by simp [Lib.beBytes_length]; omega), List.getElem?_eq_none (by simp; omega)]
theorem be4 (n : Nat) : Lib.beBytes 4 n = [UInt8.ofNat (n / 16777216), UInt8.ofNat (n / 65536), UInt8.ofNat (n / 256), UInt8.ofNat n] := by
  apply List.ext_getElem?
  intro i
  by_cases h : i < 4
  · rw [beBytes_get 4 n i h]
    match i, h with
    | 0, _ => simp
    | 1, _ => simp
    | 2, _ => simp
    | 3, _ => simp
  · rw [List.getElem?_eq_none (by simp [Lib.beBytes_length]; omega), List.getElem?_eq_none (by simp; omega)]
theorem frameB_head (ty ch : Nat) (m : List UInt8) : frameB ty ch m = [UInt8.ofNat ty, UInt8.ofNat (ch / 256), UInt8.ofNat ch, UInt8.ofNat (m.length / 16777216), UInt8.ofNat (m.length / 65536), UInt8.ofNat (m.length / 256), UInt8.ofNat m.length] ++ m ++ [206] := by
  simp [frameB, be1, be2, be4]
theorem method_wbuf (k : Nat) (a : Addr) (w : World) : (method (k + 1) 111 (.pointer (some a)) "Write").run Tryz.prog w = .ok (238, .pointer (some a)) w := by kernel_rfl
theorem nilAhead_wbuf (k : Nat) (a : Addr) (w : World) : (nilAhead (k + 1) 111 (.pointer (some a)) "Write").run Tryz.prog w = .ok (some false) w := by kernel_rfl
set_option maxHeartbeats 1000000 in
set_option maxRecDepth 100000 in
theorem writeFrame_any (q ty ch : Nat) (s : Value) (m : List UInt8) (w : World) (bs : List Nat) (hw : Wr TB w q bs []) (d : Nat) (hs : Src w s d m) (hdq : d ≠ q) (hdb : d ∉ bs) (hdw : d < w.heap.size) (hsl : ∃ ao c, s = .slice ao m.length c) (hty : ty ≤ 255) (hch : ch ≤ 65535) (hlen : m.length ≤ 1000000) :
    Calls Tryz.prog 201 #[.iface 111 (.pointer (some ⟨q, 0, none⟩)), .int .u8 (ty : Int), .int .u16 (ch : Int), s] w fun e w' => e = .returned .nilIface ∧
      ∃ bs', Wr TB w' q bs' (frameB ty ch m) ∧ Adv q bs bs' w w' := by
  obtain ⟨ao, c, rfl⟩ := hsl
  have hm1 := method_wbuf
  have hm2 := nilAhead_wbuf
  have hlz : (m.length : Int) ≤ 1000000 := by omega
  have hcz : (ch : Int) ≤ 65535 := by omega
  obtain ⟨x0, e0, y0⟩ : ∃ x : UInt8, (ty : Int) = (x.toNat : Int) ∧ x = UInt8.ofNat ty := ⟨_, by simp; omega, rfl⟩
  obtain ⟨x1, e1, y1⟩ : ∃ x : UInt8, bits BinOp.and IntKind.u16 (ch : Int) 65280 / 256 % 256 = (x.toNat : Int) ∧ x = UInt8.ofNat (ch / 256) := ⟨_, mask16 ch 8 65280 256 rfl rfl (by omega) (by omega), rfl⟩
  obtain ⟨x2, e2, y2⟩ : ∃ x : UInt8, bits BinOp.and IntKind.u16 (ch : Int) 255 % 256 = (x.toNat : Int) ∧ x = UInt8.ofNat ch := ⟨_, by have := mask16 ch 0 255 1 rfl rfl (by omega) (by omega); simpa using this, rfl⟩
  obtain ⟨x3, e3, y3⟩ : ∃ x : UInt8, bits BinOp.and IntKind.u64 (m.length : Int) 4278190080 / 16777216 % 256 = (x.toNat : Int) ∧ x = UInt8.ofNat (m.length / 16777216) := ⟨_, mask64 m.length 24 4278190080 16777216 rfl rfl (by omega) (by omega), rfl⟩
  obtain ⟨x4, e4, y4⟩ : ∃ x : UInt8, bits BinOp.and IntKind.u64 (m.length : Int) 16711680 / 65536 % 256 = (x.toNat : Int) ∧ x = UInt8.ofNat (m.length / 65536) := ⟨_, mask64 m.length 16 16711680 65536 rfl rfl (by omega) (by omega), rfl⟩
  obtain ⟨x5, e5, y5⟩ : ∃ x : UInt8, bits BinOp.and IntKind.u64 (m.length : Int) 65280 / 256 % 256 = (x.toNat : Int) ∧ x = UInt8.ofNat (m.length / 256) := ⟨_, mask64 m.length 8 65280 256 rfl rfl (by omega) (by omega), rfl⟩
  obtain ⟨x6, e6, y6⟩ : ∃ x : UInt8, bits BinOp.and IntKind.u64 (m.length : Int) 255 % 256 = (x.toNat : Int) ∧ x = UInt8.ofNat m.length := ⟨_, by have := mask64 m.length 0 255 1 rfl rfl (by omega) (by omega); simpa using this, rfl⟩
  have hfb : frameB ty ch m = [x0, x1, x2, x3, x4, x5, x6] ++ m ++ [206] := by rw [frameB_head, y0, y1, y2, y3, y4, y5, y6]
  have HF := Lib.hid hfb
  have HE := Lib.hid e0
  clear hfb y0 y1 y2 y3 y4 y5 y6 e0
  rw [HE.out]
  have HW := Lib.hid (And.intro hw hs)
  clear hw hs
  go_enter Tryz.func201, Tryz.ntmps201
  go_wp2_with fail
  have hk0 : Kept [] w ((w.alloc (.cells #[.int .u8 206] 5)).alloc (.cells (u8s [x0, x1, x2, x3, x4, x5, x6]).toArray 5)) := ((Kept.refl [] w).alloc _).alloc _
  have hb0 : Blk ((w.alloc (.cells #[.int .u8 206] 5)).alloc (.cells (u8s [x0, x1, x2, x3, x4, x5, x6]).toArray 5)) (w.heap.size + 1) (u8s [x0, x1, x2, x3, x4, x5, x6]).toArray 5 := Blk.new_at (by simp)
  have hend : Blk ((w.alloc (.cells #[.int .u8 206] 5)).alloc (.cells (u8s [x0, x1, x2, x3, x4, x5, x6]).toArray 5)) w.heap.size (u8s [206]).toArray 5 := (Blk.new w _ _).alloc _
  have hqw := HW.out.1.lt
  have hbw := HW.out.1.blt
  have hw0 := HW.out.1.kept hk0 (by simp) (by simp)
  have hs0 := HW.out.2.kept hk0 (by simp)
  have HD := Lib.hid (And.intro hdq (And.intro hdb (And.intro hdw (And.intro hqw (And.intro hbw hk0))))); clear hdq hdb hdw hqw hbw
  generalize hwa : (w.alloc (.cells #[.int .u8 206] 5)).alloc (.cells (u8s [x0, x1, x2, x3, x4, x5, x6]).toArray 5) = wa at *
  have hwa' : (w.alloc (.cells #[.int .u8 206] 5)).alloc (.cells #[.int .u8 (x0.toNat : Int), .int .u8 (x1.toNat : Int), .int .u8 (x2.toNat : Int), .int .u8 (x3.toNat : Int), .int .u8 (x4.toNat : Int), .int .u8 (x5.toNat : Int), .int .u8 (x6.toNat : Int)] 5) = wa := hwa
  rw [hwa']
  have hsz : wa.heap.size = w.heap.size + 2 := by rw [← hwa]; simp
  have HZ := Lib.hid hsz; clear hwa hwa' hsz
  refine (write_any q bs _ (w.heap.size + 1) [] [x0, x1, x2, x3, x4, x5, x6] wa hw0 (hb0.src 7) ⟨_, 7, rfl⟩ (by simp)).mono ?_
  rintro e w1 ⟨rfl, bs1, hw1, ha1⟩
  have hs1 : Src w1 (.slice ao m.length c) d m := hs0.kept ha1.kept (by
    simp only [List.mem_cons, not_or]
    exact ⟨HD.out.1, HD.out.2.1⟩)
  have hend1 := hend.kept ha1.kept (by
    simp only [List.mem_cons, not_or]
    exact ⟨by have := HD.out.2.2.2.1; omega, fun hm => by have := HD.out.2.2.2.2.1 _ hm; omega⟩)
  have H1 := Lib.hid (And.intro hw1 (And.intro ha1 (And.intro hs1 hend1)))
  clear hw1 ha1 hs1 hend1 hs0 hend hw0 hb0 hk0
  go_wp2_with fail
  refine (write_any q bs1 _ d _ m w1 H1.out.1 H1.out.2.2.1 ⟨_, _, rfl⟩ (by simp; omega)).mono ?_
  rintro e w2 ⟨rfl, bs2, hw2, ha2⟩
  have ha12 := H1.out.2.1.trans ha2
  have hend2 := H1.out.2.2.2.kept ha2.kept (by
    simp only [List.mem_cons, not_or]
    refine ⟨by have := HD.out.2.2.2.1; omega, fun hm => ?_⟩
    rcases H1.out.2.1.own _ hm with h | h
    · have := HD.out.2.2.2.2.1 _ h; omega
    · have := HZ.out; omega)
  have H2 := Lib.hid (And.intro hw2 (And.intro ha12 hend2))
  clear hw2 ha12 hend2 ha2
  go_wp2_with fail
  refine (write_any q bs2 _ w.heap.size _ [206] w2 H2.out.1 (H2.out.2.2.src 1) ⟨_, 1, rfl⟩ (by simp; omega)).mono ?_
  rintro e w3 ⟨rfl, bs3, hw3, ha3⟩
  have ha13 := H2.out.2.1.trans ha3
  have H3 := Lib.hid (And.intro hw3 ha13)
  clear hw3 ha13 ha3
  go_wp2
  go_ret
  refine ⟨rfl, bs3, ?_, ?_⟩
  · rw [HF.out]; exact H3.out.1
  · refine ⟨(HD.out.2.2.2.2.2.mono (by simp)).trans H3.out.2.kept (fun x hx => .inl hx), fun b hb => ?_⟩
    rcases H3.out.2.own b hb with h | h
    · exact .inl h
    · have := HZ.out; exact .inr (by omega)
theorem be2_num (n : Nat) (h : n < 65536) : Lib.beNat [UInt8.ofNat (n / 256), UInt8.ofNat n] = n := by
  rw [← be2]; exact Lib.beNat_beBytes 2 n (by omega)
end Go.Proofs.YtkcdakohmfodjaaGreat
