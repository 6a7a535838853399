/-
  Lemmas on the way to the statement of YtkcdakohmfodjaaGreatMethodRead, joined out of these texts: Base, App, Put. No condition.
-/
import Derived.Deep.LoopGhost
import Derived.Deep.RegionLaw
import Derived.Laws.CopyOwn
import Derived.Lib.Endian
import Derived.Lib.EndianBits
import Derived.Lib.Hide
import Derived.RegionTactic
import Derived.Test.YtkcdakohmfodjaaGreatProg
import Derived.WalkKit
import Derived.WalkLawsBesides
import Derived.WalkSpells
namespace Go.Proofs.YtkcdakohmfodjaaGreat
open Go.RowKit
set_option linter.unusedVariables false
set_option linter.unusedSimpArgs false
/-- Of the blocks that are there, w' has all but those of S as w has them. -/
structure Kept (S : List Nat) (w w' : World) : Prop where
  os : w'.os = w.os
  tape : w'.tape = w.tape
  output : w'.output = w.output
  size : w.heap.size ≤ w'.heap.size
  block : ∀ k, k < w.heap.size → k ∉ S → w'.heap[k]? = w.heap[k]?
theorem Kept.refl (S : List Nat) (w : World) : Kept S w w := ⟨rfl, rfl, rfl, Nat.le_refl _, fun _ _ _ => rfl⟩
theorem Kept.trans {S S' : List Nat} {a b c : World} (h : Kept S a b) (k : Kept S' b c) (hs : ∀ x, x ∈ S' → x ∈ S ∨ a.heap.size ≤ x) : Kept S a c :=
  ⟨k.os.trans h.os, k.tape.trans h.tape, k.output.trans h.output, Nat.le_trans h.size k.size, fun i hi hn => by
    rw [k.block i (Nat.lt_of_lt_of_le hi h.size) (fun hm => by rcases hs i hm with h1 | h1; exact hn h1; omega)]
    exact h.block i hi hn⟩
theorem Kept.mono {S S' : List Nat} {a b : World} (h : Kept S a b) (hs : ∀ x, x ∈ S → x ∈ S' ∨ a.heap.size ≤ x) : Kept S' a b :=
  ⟨h.os, h.tape, h.output, h.size, fun i hi hn => h.block i hi (fun hm => by rcases hs i hm with h1 | h1; exact hn h1; omega)⟩
theorem Kept.below {a b : World} (h : Kept [] a b) : Below a.heap.size a b :=
  ⟨h.os, h.tape, h.output, h.size, fun k hk => h.block k hk (by simp)⟩
theorem Below.kept {a b : World} (h : Below a.heap.size a b) (S : List Nat) : Kept S a b :=
  ⟨h.os, h.tape, h.output, h.size, fun k hk _ => h.block k hk⟩
theorem Kept.drew {S : List Nat} {a w : World} (h : Kept S a w) : Kept S a w.drew := ⟨h.os, h.tape, h.output, h.size, h.block⟩
theorem Kept.alloc {S : List Nat} {a w : World} (h : Kept S a w) (o : Obj) : Kept S a (w.alloc o) :=
  h.trans (S' := []) ⟨rfl, rfl, rfl, by simp, fun k hk _ => Below.heap_alloc _ _ _ hk⟩ (by simp)
theorem Kept.setCell {S : List Nat} {a w : World} (h : Kept S a w) {p : Addr} (hp : p.block ∈ S ∨ a.heap.size ≤ p.block) (u : Value) : Kept S a (w.setCell p u) :=
  h.trans (S' := [p.block]) ⟨rfl, rfl, rfl, by simp [World.setCell], fun k _ hn => Below.heap_setCell _ _ _ _ (by simpa using hn)⟩ (by simpa using hp)
theorem Kept.setRow {S : List Nat} {a w : World} (h : Kept S a w) {g : Nat} (hp : g ∈ S ∨ a.heap.size ≤ g) (cs : Array Value) : Kept S a (w.setRow g cs) :=
  h.trans (S' := [g]) ⟨rfl, rfl, rfl, by simp [World.setRow], fun k _ hn => setRow_other w g k cs (by simpa using hn)⟩ (by simpa using hp)
theorem Kept.grown {S : List Nat} {a w w' : World} {row : Option Nat} (h : Kept S a w) (hg : w.grownBy w' row) (hr : ∀ k, row = some k → k ∈ S ∨ a.heap.size ≤ k) : Kept S a w' :=
  h.trans (S' := row.toList) ⟨hg.os, hg.tape, hg.output, hg.size, fun k hk hn => hg.block k hk (fun e => hn (by simp [← e]))⟩ (fun x hx => hr x (by cases row <;> simp_all))
theorem Kept.heap {S : List Nat} {a b : World} (h : Kept S a b) {k : Nat} {o : Obj} (hk : a.heap[k]? = some o) (hn : k ∉ S) : b.heap[k]? = some o := by
  rw [h.block k (lt_of_block hk) hn]; exact hk
theorem Kept.cell {S : List Nat} {a b : World} (h : Kept S a b) {p : Addr} {v : Value} (hp : a.cell? p = some v) (hn : p.block ∉ S) : b.cell? p = some v := by
  rw [World.cell?_of_block (h.block _ (World.block_lt_of_cell? a p hp) hn)]; exact hp
theorem Kept.frozen {S : List Nat} {a b : World} (h : Kept S a b) {p : Addr} (hp : p.block < a.heap.size) (hn : p.block ∉ S) : b.frozen? p = a.frozen? p :=
  World.frozen?_of_block (h.block _ hp hn)
/-- A block that is a row of cells, none of them frozen. -/
def Blk (w : World) (b : Nat) (cs : Array Value) (t : TypeId) : Prop := w.heap[b]? = some (.cells cs t (0, 0))
section
variable {w : World} {b : Nat} {cs : Array Value} {t : TypeId}
theorem Blk.lt (h : Blk w b cs t) : b < w.heap.size := lt_of_block h
theorem Blk.cell (h : Blk w b cs t) (i : Nat) : w.cell? ⟨b, i, none⟩ = cs[i]? := by unfold Blk at h; simp [World.cell?, h]
theorem Blk.cell0 {v : Value} (h : Blk w b #[v] t) : w.cell? ⟨b, 0, none⟩ = some v := h.cell 0
theorem Blk.free (h : Blk w b cs t) (i : Nat) : w.frozen? ⟨b, i, none⟩ = false := by unfold Blk at h; simp [World.frozen?, h]
theorem Blk.alloc (h : Blk w b cs t) (o : Obj) : Blk (w.alloc o) b cs t := by
  have hl := h.lt
  unfold Blk at *; rw [Below.heap_alloc _ _ _ hl]; exact h
theorem Blk.new (w : World) (cs : Array Value) (t : TypeId) : Blk (w.alloc (.cells cs t)) w.heap.size cs t := heap_alloc_new w _
theorem Blk.new_at {n : Nat} (hn : n = w.heap.size) : Blk (w.alloc (.cells cs t)) n cs t := by subst hn; exact heap_alloc_new w _
theorem Blk.drew (h : Blk w b cs t) : Blk w.drew b cs t := h
theorem Blk.setCell_other (h : Blk w b cs t) {p : Addr} (hp : b ≠ p.block) (u : Value) : Blk (w.setCell p u) b cs t := by
  unfold Blk at *; rw [Below.heap_setCell _ _ _ _ hp]; exact h
theorem Blk.setCell (h : Blk w b cs t) (i : Nat) (u : Value) : Blk (w.setCell ⟨b, i, none⟩ u) b (cs.setIfInBounds i u) t := by
  have hlt := h.lt
  have h' : w.heap[b] = .cells cs t (0, 0) := by unfold Blk at h; simpa [Array.getElem?_eq_getElem hlt] using h
  show (w.heap.modify b _)[b]? = _
  rw [Array.getElem?_eq_getElem (by simpa using hlt), Array.getElem_modify_self, h']
  rfl
theorem Blk.kept {S : List Nat} {w' : World} (h : Blk w b cs t) (hk : Kept S w w') (hn : b ∉ S) : Blk w' b cs t := hk.heap h hn
theorem Blk.setRow_other (h : Blk w b cs t) {g : Nat} (hg : b ≠ g) (c : Array Value) : Blk (w.setRow g c) b cs t := by
  unfold Blk at *; rw [Go.setRow_other w g b c hg]; exact h
end
theorem nin1 {a b : Nat} (h : a ≠ b) : a ∉ [b] := by simpa using h
theorem nin2 {a b c : Nat} (h : a ≠ b) (h' : a ≠ c) : a ∉ [b, c] := by simp [h, h']
theorem addr_add (d off j : Nat) : (⟨d, off, none⟩ : Addr).add j = ⟨d, off + j, none⟩ := by
  unfold Addr.add; split <;> simp_all
/-- Bytes as the cells of a row. -/
def u8s (l : List UInt8) : List Value := l.map fun b => .int .u8 (b.toNat : Int)
@[simp] theorem u8s_length (l : List UInt8) : (u8s l).length = l.length := by simp [u8s]
@[simp] theorem u8s_nil : u8s [] = [] := rfl
@[simp] theorem u8s_cons (x : UInt8) (l : List UInt8) : u8s (x :: l) = .int .u8 (x.toNat : Int) :: u8s l := rfl
theorem u8s_append (l m : List UInt8) : u8s (l ++ m) = u8s l ++ u8s m := by simp [u8s]
theorem u8s_get (l : List UInt8) (i : Nat) : (u8s l)[i]? = (l[i]?).map fun b => .int .u8 (b.toNat : Int) := by simp [u8s]
theorem u8s_one (l : List UInt8) : ∀ v ∈ u8s l, v.oneCell' = true := by
  intro v hv; simp only [u8s, List.mem_map] at hv; obtain ⟨x, _, rfl⟩ := hv; rfl
section
variable {P : Program} (w : World)
/-- An append looks at the type of its second argument only to see that it is a slice. -/
theorem run_append_types (t t' ty e e' : TypeId) (ht : P.underlying t = some (.slice e)) (ht' : P.underlying t' = some (.slice e')) (i : TypeInfo) (hi : P.info? e = some i) (args : Array Value) :
    (Builtin.append_ #[t, t'] ty args).run P w = (Builtin.append_ #[t, t] ty args).run P w := by
  cases hs : args[0]? with
  | none => simp [Builtin.append_, hs]
  | some s =>
    cases hx : args[1]? with
    | none => simp [Builtin.append_, hs, hx]
    | some x => cases s <;> simp [Builtin.append_, hs, hx, run_underlying ht, run_underlying ht', sizeOf, typeInfo, hi]
theorem run_append2 (t ty e : TypeId) (i : TypeInfo) (z : Value) (size bytes : Nat) (ht : P.underlying t = some (.slice e)) (hi : P.info? e = some i) (hz : i.zero = some z)
    (hsize : i.size = size) (hby : i.bytes = bytes) (hzs : z.cells.size = size) (hsz : 0 < size)
    (v : Value) (n : Nat) (xs : List Value) (hown : w.ownsRow 0 e size v n xs)
    (a : Addr) (m c : Nat) (news : List Value) (hl : news.length = m * size) (hnews : ∀ j u, news[j]? = some u → w.cell? (a.add j) = some u) (h1 : ∀ u ∈ news, u.oneCell' = true)
    (hb : (n + m) * bytes ≤ 140737488355328) (h63 : n + m ≤ 140737488355328) :
    ∃ v' w', (Builtin.append_ #[t, t] ty #[v, .slice (some a) m c]).run P w = .ok v' w' ∧ w'.ownsRow 0 e size v' (n + m) (xs ++ news) ∧ w.grownBy w' v.ownBlock ∧
      (v'.ownBlock = v.ownBlock ∨ v'.ownBlock = some w.heap.size) := by
  have hmax : n + m ≤ maxLen := by unfold maxLen; omega
  rcases hown.2 with ⟨hv, hn0⟩ | ⟨g, cap, cur, hv, hg0, hg, hnc, hcm, hcs, htake⟩
  · have hown' : w.ownsRow w.heap.size e size v n xs := ⟨hown.1, .inl ⟨hv, hn0⟩⟩
    obtain ⟨v', w', hr, h2, h3, h4⟩ := run_append_own (P := P) w w.heap.size t ty e i z size bytes ht hi hz hsize hby hzs hsz v n xs hown' a m c news hl hnews h1 hmax hb (Nat.le_refl _)
    refine ⟨v', w', hr, ⟨h2.1, ?_⟩, h3, ?_⟩
    · rcases h2.2 with h | ⟨g', cap', cur', h5, _, h7⟩
      · exact .inl h
      · exact .inr ⟨g', cap', cur', h5, Nat.zero_le _, h7⟩
    · by_cases hm : m = 0
      · have : v' = .slice none 0 0 := h4.2 ⟨hv, hm⟩
        exact .inl (by rw [this, hv])
      · subst hv hn0 hsize hby
        have hx : xs = [] := List.eq_nil_of_length_eq_zero (by simpa using hown.1)
        subst hx
        have hr' := run_append_nil (P := P) w t ty e i z ht hi hz a m c news hl hnews (by omega) (by omega) (by simp only [Nat.zero_add] at hb; omega)
        rw [hr'] at hr
        simp only [Result.ok.injEq] at hr
        rw [← hr.1]
        exact .inr rfl
  · by_cases hroom : n + m ≤ cap
    · obtain ⟨v', w', hr, h2, h3, h4⟩ := run_append_own (P := P) w 0 t ty e i z size bytes ht hi hz hsize hby hzs hsz v n xs hown a m c news hl hnews h1 hmax hb (Nat.zero_le _)
      refine ⟨v', w', hr, h2, h3, ?_⟩
      subst hv hsize
      have hfit : n * i.size + news.length ≤ cur.size := by rw [hl, hcs, ← Nat.add_mul]; exact Nat.mul_le_mul_right _ hroom
      have hr' := run_append_room (P := P) w t ty e i ht hi g n cap cur hg a m c news hl hnews h1 hroom hfit
      rw [hr'] at hr
      simp only [Result.ok.injEq] at hr
      rw [← hr.1]
      exact .inl rfl
    · obtain ⟨v', w', hr, h2, h3, h4⟩ := run_append_own (P := P) w 0 t ty e i z size bytes ht hi hz hsize hby hzs hsz v n xs hown a m c news hl hnews h1 hmax hb (Nat.zero_le _)
      refine ⟨v', w', hr, h2, h3, ?_⟩
      subst hv hsize hby
      have holds : ∀ j u, xs[j]? = some u → w.cell? ((⟨g, 0, none⟩ : Addr).add j) = some u := hown.cells (g := g) rfl
      have hr' := run_append_grow (P := P) w t ty e i z ht hi hz ⟨g, 0, none⟩ n cap xs hown.1 holds a m c news hl hnews (by omega) (by unfold maxLen at hmax; omega) (growslice_fits (by omega) hb)
      rw [hr'] at hr
      simp only [Result.ok.injEq] at hr
      rw [← hr.1]
      exact .inr rfl
/-- Nothing is appended: the slice stays, wherever what is appended lies. -/
theorem run_append_zero (t ty e : TypeId) (i : TypeInfo) (ht : P.underlying t = some (.slice e)) (hi : P.info? e = some i) (base : Option Addr) (n cap : Nat) (h : n ≤ cap) (ao : Option Addr) (c : Nat) :
    (Builtin.append_ #[t, t] ty #[.slice base n cap, .slice ao 0 c]).run P w = .ok (.slice base n cap) w := by
  cases base <;> cases ao <;> simp [Builtin.append_, run_underlying ht, sizeOf, typeInfo, hi, Builtin.lenOf, h, Builtin.firstCells, loadCells, loadCellsFrom, storeCells]
theorem step_append2 {ops : Array Oper} {o : Oper} {a : Act} {K : Act → World → Prop} {Q : Exit → Act → World → Prop} {E : Prop} (hgd : o.guard = none) (s x : Operand) (t : TypeId)
    (ho : o.op = .call { callee := .builtin .append, args := #[s, x], argTypes := #[t, t] })
    (e : TypeId) (i : TypeInfo) (z : Value) (size bytes : Nat) (ht : P.underlying t = some (.slice e)) (hi : P.info? e = some i) (hz : i.zero = some z)
    (hsize : i.size = size) (hby : i.bytes = bytes) (hzs : z.cells.size = size) (hsz : 0 < size)
    (v : Value) (n : Nat) (xs : List Value) (hs : a.eval s = v) (hown : w.ownsRow 0 e size v n xs)
    (ad : Addr) (m c : Nat) (news : List Value) (hx : a.eval x = .slice (some ad) m c) (hl : news.length = m * size) (hnews : ∀ j u, news[j]? = some u → w.cell? (ad.add j) = some u) (h1 : ∀ u ∈ news, u.oneCell' = true)
    (hb : (n + m) * bytes ≤ 140737488355328) (h63 : n + m ≤ 140737488355328)
    (h : ∀ v' w', w'.ownsRow 0 e size v' (n + m) (xs ++ news) → w.grownBy w' v.ownBlock → (v'.ownBlock = v.ownBlock ∨ v'.ownBlock = some w.heap.size) → K (a.put o.dst v') w') :
    if Region.wanted o (yielded ops a.tmps) = true then Oper.wp P o a w K Q else E := by
  have hw : Region.wanted o (yielded ops a.tmps) = true := by simp [Region.wanted, hgd]
  rw [if_pos hw]
  obtain ⟨v', w', hr, h2, h3, h4⟩ := run_append2 (P := P) w t o.type e i z size bytes ht hi hz hsize hby hzs hsz v n xs hown ad m c news hl hnews h1 hb h63
  unfold Oper.wp execOp
  simp only [ho, resolve, invoke, builtin, Sem.run_bind, Sem.run_pure, Result.andThen_ok, List.map_toArray, List.map_cons, List.map_nil, hs, hx, hr]
  exact h v' w' h2 h3 h4
theorem wpList_append2 {ops : Array Oper} {rest : List Oper} {o : Oper} {a : Act} {Q : Exit → Act → World → Prop} (hgd : o.guard = none) (s x : Operand) (t t' : TypeId)
    (ho : o.op = .call { callee := .builtin .append, args := #[s, x], argTypes := #[t, t'] })
    (e e' : TypeId) (ht' : P.underlying t' = some (.slice e')) (i : TypeInfo) (z : Value) (size bytes : Nat) (ht : P.underlying t = some (.slice e)) (hi : P.info? e = some i) (hz : i.zero = some z)
    (hsize : i.size = size) (hby : i.bytes = bytes) (hzs : z.cells.size = size) (hsz : 0 < size)
    (v : Value) (n : Nat) (xs : List Value) (hs : a.eval s = v) (hown : w.ownsRow 0 e size v n xs)
    (ad : Addr) (m c : Nat) (news : List Value) (hx : a.eval x = .slice (some ad) m c) (hl : news.length = m * size) (hnews : ∀ j u, news[j]? = some u → w.cell? (ad.add j) = some u) (h1 : ∀ u ∈ news, u.oneCell' = true)
    (hb : (n + m) * bytes ≤ 140737488355328) (h63 : n + m ≤ 140737488355328)
    (h : ∀ v' w', w'.ownsRow 0 e size v' (n + m) (xs ++ news) → w.grownBy w' v.ownBlock → (v'.ownBlock = v.ownBlock ∨ v'.ownBlock = some w.heap.size) → wpList P ops Q rest (a.put o.dst v') w') :
    wpList P ops Q (o :: rest) a w :=
  wpList_plain hgd fun _ hK => by
    obtain ⟨v', w', hr, h2, h3, h4⟩ := run_append2 (P := P) w t o.type e i z size bytes ht hi hz hsize hby hzs hsz v n xs hown ad m c news hl hnews h1 hb h63
    rw [← run_append_types (P := P) w t t' _ e e' ht ht' i hi] at hr
    unfold Oper.wp execOp
    simp only [ho, resolve, invoke, builtin, Sem.run_bind, Sem.run_pure, Result.andThen_ok, List.map_toArray, List.map_cons, List.map_nil, hs, hx, hr]
    exact hK _ _ (h v' w' h2 h3 h4)
theorem wpList_append_zero {ops : Array Oper} {rest : List Oper} {o : Oper} {a : Act} {Q : Exit → Act → World → Prop} (hgd : o.guard = none) (s x : Operand) (t t' : TypeId)
    (ho : o.op = .call { callee := .builtin .append, args := #[s, x], argTypes := #[t, t'] })
    (e e' : TypeId) (ht' : P.underlying t' = some (.slice e')) (i : TypeInfo) (ht : P.underlying t = some (.slice e)) (hi : P.info? e = some i)
    (base : Option Addr) (n cap : Nat) (hs : a.eval s = .slice base n cap) (hc : n ≤ cap) (ao : Option Addr) (c : Nat) (hx : a.eval x = .slice ao 0 c)
    (h : wpList P ops Q rest (a.put o.dst (.slice base n cap)) w) : wpList P ops Q (o :: rest) a w :=
  wpList_plain hgd fun _ hK => by
    have hr := run_append_zero (P := P) w t o.type e i ht hi base n cap hc ao c
    rw [← run_append_types (P := P) w t t' _ e e' ht ht' i hi] at hr
    unfold Oper.wp execOp
    simp only [ho, resolve, invoke, builtin, Sem.run_bind, Sem.run_pure, Result.andThen_ok, List.map_toArray, List.map_cons, List.map_nil, hs, hx, hr]
    exact hK _ _ h
end
/-- A copy into a row that is known whole: the world behind it is told by what it holds. -/
theorem wpList_copy2 {P : Program} {w : World} {ops : Array Oper} {rest : List Oper} {o : Oper} {a : Act} {Q : Exit → Act → World → Prop} (hgd : o.guard = none) (d s : Operand) (dT sT : TypeId)
    (ho : o.op = .call { callee := .builtin .copy, args := #[d, s], argTypes := #[dT, sT] }) (elem : TypeId) (hu : P.underlying dT = some (.slice elem)) (hsz : (P.info? elem).map (·.size) = some 1)
    (g off dLen dCap : Nat) (ad : Addr) (sLen sCap : Nat) (hd : a.eval d = .slice (some ⟨g, off, none⟩) dLen dCap) (hs : a.eval s = .slice (some ad) sLen sCap)
    (cur : List Value) (t : TypeId) (hg : Blk w g cur.toArray t) (cs : List Value) (k : Nat) (hk : cs.length = k) (hn : k = min sLen dLen)
    (hsrc : ∀ j v, cs[j]? = some v → w.cell? (ad.add j) = some v) (hfit : off + k ≤ cur.length) (h1 : ∀ v ∈ cs, v.oneCell' = true)
    (h : ∀ w', Blk w' g (splice cur off cs).toArray t → Kept [g] w w' → wpList P ops Q rest (a.put o.dst (goInt k)) w') : wpList P ops Q (o :: rest) a w := by
  subst hk
  refine wpList_copy_own hgd d s dT sT ho elem hu hsz g off dLen dCap ad sLen sCap hd hs cur.toArray t hg cs hn hsrc (by simpa using hfit) h1 ?_
  refine h _ ?_ ((Kept.refl [g] w).setRow (by simp) _)
  exact setRow_heap w g cur.toArray _ t _ hg
theorem infoPut : (Tryz.prog.info? 5).map (fun i => (i.zero, i.size, i.bytes)) = some (some (.int .u8 0), 1, 1) := by kernel_rfl
/-- The writer at block q holds the bytes l; its row is the block of bs, if it has one. -/
def Wr (T : TypeId) (w : World) (q : Nat) (bs : List Nat) (l : List UInt8) : Prop :=
  ∃ v, Blk w q #[v] T ∧ w.ownsRow 0 5 1 v l.length (u8s l) ∧ bs = v.ownBlock.toList ∧ q ∉ bs
theorem ownsRow_kept {S : List Nat} {w w' : World} {e : TypeId} {size : Nat} {v : Value} {n : Nat} {xs : List Value} (h : w.ownsRow 0 e size v n xs) (hk : Kept S w w') (hn : ∀ b, v.ownBlock = some b → b ∉ S) : w'.ownsRow 0 e size v n xs := by
  refine ⟨h.1, ?_⟩
  rcases h.2 with h2 | ⟨g, cap, cur, rfl, h3, h4, h5⟩
  · exact .inl h2
  · exact .inr ⟨g, cap, cur, rfl, h3, hk.heap h4 (hn g rfl), h5⟩
theorem Wr.kept {T : TypeId} {S : List Nat} {w w' : World} {q : Nat} {bs : List Nat} {l : List UInt8} (h : Wr T w q bs l) (hk : Kept S w w') (hq : q ∉ S) (hn : ∀ b ∈ bs, b ∉ S) : Wr T w' q bs l := by
  obtain ⟨v, h1, h2, rfl, h4⟩ := h
  exact ⟨v, h1.kept hk hq, ownsRow_kept h2 hk (fun b hb => hn b (by simp [hb])), rfl, h4⟩
theorem Wr.lt {T : TypeId} {w : World} {q : Nat} {bs : List Nat} {l : List UInt8} (h : Wr T w q bs l) : q < w.heap.size := by
  obtain ⟨v, h1, _⟩ := h; exact h1.lt
theorem Wr.blt {T : TypeId} {w : World} {q : Nat} {bs : List Nat} {l : List UInt8} (h : Wr T w q bs l) : ∀ b ∈ bs, b < w.heap.size := by
  obtain ⟨v, h1, h2, rfl, _⟩ := h
  intro b hb
  exact (World.ownsRow.lt h2 b (by simpa using hb)).2
/-- From w to w' the writer at q, whose row was bs, has written; its row is bs' now. -/
structure Adv (q : Nat) (bs bs' : List Nat) (w w' : World) : Prop where
  kept : Kept (q :: bs) w w'
  own : ∀ b ∈ bs', b ∈ bs ∨ w.heap.size ≤ b
theorem Adv.refl (q : Nat) (bs : List Nat) (w : World) : Adv q bs bs w w := ⟨Kept.refl _ _, fun _ h => .inl h⟩
theorem Adv.trans {q : Nat} {bs bs1 bs2 : List Nat} {w w1 w2 : World} (h : Adv q bs bs1 w w1) (k : Adv q bs1 bs2 w1 w2) : Adv q bs bs2 w w2 := by
  refine ⟨h.kept.trans k.kept (fun x hx => ?_), fun b hb => ?_⟩
  · simp only [List.mem_cons] at hx ⊢
    rcases hx with rfl | hx
    · exact .inl (.inl rfl)
    · rcases h.own x hx with h1 | h1
      · exact .inl (.inr h1)
      · exact .inr h1
  · rcases k.own b hb with h1 | h1
    · exact h.own b h1
    · exact .inr (Nat.le_trans h.kept.size h1)
theorem beBytes_get (bytes n k : Nat) (hk : k < bytes) : (Lib.beBytes bytes n)[k]? = some (UInt8.ofNat (n / 256 ^ (bytes - 1 - k))) := by
  have key : ∀ (m n j : Nat), j < m → (Lib.leBytes m n)[j]? = some (UInt8.ofNat (n / 256 ^ j)) := by
    intro m
    induction m with
    | zero => intro n j h; omega
    | succ m ih =>
      intro n j h
      cases j with
      | zero =>
        simp only [Lib.leBytes, List.getElem?_cons_zero, Nat.pow_zero, Nat.div_one, Nat.toUInt8]
        congr 1
        apply UInt8.toNat_inj.1
        simp
      | succ j =>
        simp only [Lib.leBytes, List.getElem?_cons_succ]
        rw [ih (n / 256) j (by omega), Nat.div_div_eq_div_mul, ← Nat.pow_succ']
  have hl : (Lib.leBytes bytes n).length = bytes := Lib.leBytes_length bytes n
  rw [Lib.beBytes, List.getElem?_reverse (by omega), hl, key bytes n (bytes - 1 - k) (by omega)]
theorem put_byte (n e : Nat) : (UInt8.ofNat (n / 256 ^ e)).toNat = n / 256 ^ e % 256 := by simp
theorem shift_byte (n e : Nat) : IntKind.u8.wrap ((n : Int) / 2 ^ (8 * (e : Int)).toNat) = ((UInt8.ofNat (n / 256 ^ e)).toNat : Int) := by
  have h : (2 : Int) ^ (8 * (e : Int)).toNat = ((256 ^ e : Nat) : Int) := by
    rw [show (8 * (e : Int)).toNat = 8 * e by omega, show (256 : Nat) = 2 ^ 8 from rfl, ← Nat.pow_mul]
    simp
  rw [h, put_byte]
  simp [IntKind.wrap, IntKind.bits, IntKind.signed]
theorem own_form {w : World} {e : TypeId} {v : Value} {n : Nat} {xs : List Value} (h : w.ownsRow 0 e 1 v n xs) (hn : 0 < n) : ∃ g c, v = .slice (some ⟨g, 0, none⟩) n c ∧ n ≤ c ∧ v.ownBlock = some g := by
  rcases h.2 with ⟨_, h0⟩ | ⟨g, cap, cur, rfl, _, _, hc, _⟩
  · omega
  · exact ⟨g, cap, rfl, hc, rfl⟩
/-- One byte more: what an append into the writer's row and the store of the row's new value leave. -/
theorem wr_push {T : TypeId} {wr wa w1 : World} {q gb gc : Nat} {bs : List Nat} {v : Value} {l : List UInt8} {x : UInt8} (hq : q < wr.heap.size) (hbs : bs = v.ownBlock.toList) (hne : ∀ b, v.ownBlock = some b → b ≠ q) (hka : Kept [] wr wa)
    (h1 : w1.ownsRow 0 5 1 (.slice (some ⟨gb, 0, none⟩) (l.length + 1) gc) (l.length + 1) (u8s l ++ [.int .u8 (x.toNat : Int)])) (h2 : wa.grownBy w1 v.ownBlock)
    (h3 : (Value.slice (some ⟨gb, 0, none⟩) (l.length + 1) gc).ownBlock = v.ownBlock ∨ (Value.slice (some ⟨gb, 0, none⟩) (l.length + 1) gc).ownBlock = some wa.heap.size)
    (hk : Blk w1 q #[v] T) :
    Wr T (w1.setCell ⟨q, 0, none⟩ (.slice (some ⟨gb, 0, none⟩) (l.length + 1) gc)) q [gb] (l ++ [x]) ∧ Adv q bs [gb] wr (w1.setCell ⟨q, 0, none⟩ (.slice (some ⟨gb, 0, none⟩) (l.length + 1) gc)) := by
  have hg : gb ≠ q := by
    rcases h3 with h | h
    · exact hne gb h.symm
    · have := hka.size; simp [Value.ownBlock] at h; omega
  refine ⟨⟨_, hk.setCell 0 _, ?_, rfl, by simpa using Ne.symm hg⟩, ⟨?_, ?_⟩⟩
  · have := ownsRow_kept (S := [q]) h1 ((Kept.refl [q] w1).setCell (p := ⟨q, 0, none⟩) (by simp) (.slice (some ⟨gb, 0, none⟩) (l.length + 1) gc)) (fun b hb => by simp [Value.ownBlock] at hb; subst hb; simpa using hg)
    simpa [u8s_append] using this
  · refine Kept.setCell (Kept.grown (hka.mono (by simp)) h2 (fun k hk => .inl (by simp [hbs, hk]))) (by simp) _
  · intro b hb
    simp at hb; subst hb
    rcases h3 with h | h
    · exact .inl (by rw [hbs, ← h]; simp [Value.ownBlock])
    · have := hka.size; simp [Value.ownBlock] at h; exact .inr (by omega)
theorem take_step (bytes n e : Nat) (h : e + 1 ≤ bytes) : (Lib.beBytes bytes n).take (bytes - e) = (Lib.beBytes bytes n).take (bytes - (e + 1)) ++ [UInt8.ofNat (n / 256 ^ e)] := by
  rw [show bytes - e = (bytes - (e + 1)) + 1 by omega]
  have hg := beBytes_get bytes n (bytes - (e + 1)) (by omega)
  rw [show bytes - 1 - (bytes - (e + 1)) = e by omega] at hg
  rw [List.take_add_one, hg]
  rfl
set_option maxHeartbeats 1000000 in
set_option maxRecDepth 100000 in
theorem put_any (q n bytes : Nat) (bs : List Nat) (l : List UInt8) (w : World) (hw : Wr 61 w q bs l) (hn : n < 18446744073709551616) (hb : bytes ≤ 8) (hl : l.length ≤ 70368744177664) :
    Calls Tryz.prog 21 #[.pointer (some ⟨q, 0, none⟩), .int .u64 (n : Int), .int .i64 (bytes : Int)] w fun e w' => e = .returned (.tuple #[]) ∧
      ∃ bs', Wr 61 w' q bs' (l ++ Lib.beBytes bytes n) ∧ Adv q bs bs' w w' := by
  have HW := Lib.hid hw; have HN := Lib.hid hn
  have hb' : (bytes : Int) ≤ 8 := by omega
  obtain ⟨i, hi, hz0, hz1, hz2⟩ := info_parts infoPut
  have HI := Lib.hid (And.intro hi (And.intro hz0 (And.intro hz1 hz2)))
  clear hw hn hi hz0 hz1 hz2
  go_enter Tryz.func21, Tryz.ntmps21
  go_wp2
  go_loopw [6] (fun iv wr => ∃ e bs1, e ≤ bytes ∧ iv = .int .i64 ((e : Int) - 1) ∧ Wr 61 wr q bs1 (l ++ (Lib.beBytes bytes n).take (bytes - e)) ∧ Adv q bs bs1 w wr)
    (fun iv _ => (intOf iv + 1).toNat)
  case atStart => exact ⟨bytes, bs, Nat.le_refl _, rfl, by simpa using HW.out, Adv.refl _ _ _⟩
  case round =>
    obtain ⟨e, bs1, he, rfl, hwr, hadv⟩ := hrel
    have HR := Lib.hid (And.intro hwr hadv); clear hwr hadv
    cases e with
    | zero =>
      go_wp2
      go_end0
      refine ⟨rfl, bs1, ?_, HR.out.2⟩
      have := HR.out.1
      rwa [Nat.sub_zero, List.take_of_length_le (by simp [Lib.beBytes_length])] at this
    | succ e =>
      have h0 : (0 : Int) ≤ (e : Int) := by omega
      have he8 : (e : Int) ≤ 7 := by omega
      rw [show (((e + 1 : Nat) : Int) - 1) = (e : Int) by omega]
      obtain ⟨v, q1, q2, q3, q4⟩ := HR.out.1
      have c0 := q1.cell0
      have hqs : q < wr.heap.size := q1.lt
      have hm : IntKind.i64.wrap (8 * (e : Int)) = 8 * (e : Int) := by rw [IntKind.wrap_i64]; omega
      obtain ⟨x, hx, hxe⟩ : ∃ x : UInt8, IntKind.u8.wrap ((n : Int) / 2 ^ (8 * (e : Int)).toNat) = (x.toNat : Int) ∧ x = UInt8.ofNat (n / 256 ^ e) := ⟨_, shift_byte n e, rfl⟩
      have hka : Kept [] wr (wr.alloc (.cells #[.int .u8 (x.toNat : Int)] 5)).drew := ((Kept.refl [] wr).alloc _).drew
      have hown : (wr.alloc (.cells #[.int .u8 (x.toNat : Int)] 5)).drew.ownsRow 0 5 1 v _ _ := ownsRow_kept q2 hka (by simp)
      have hnew : ∀ j u, [Value.int .u8 (x.toNat : Int)][j]? = some u → (wr.alloc (.cells #[.int .u8 (x.toNat : Int)] 5)).drew.cell? ((⟨wr.heap.size, 0, none⟩ : Addr).add j) = some u := cell_one_new _ _ _
      have hone : ∀ u ∈ [Value.int .u8 (x.toNat : Int)], u.oneCell' = true := by simp [Value.oneCell']
      have hlen : (l ++ (Lib.beBytes bytes n).take (bytes - (e + 1))).length + 1 ≤ 140737488355328 := by simp; omega
      have hlen' : ((l ++ (Lib.beBytes bytes n).take (bytes - (e + 1))).length + 1) * 1 ≤ 140737488355328 := by omega
      have hne : ∀ b, v.ownBlock = some b → b ≠ q := fun b hb e => q4 (by rw [q3, hb, e]; simp)
      have HQ := Lib.hid (And.intro q1 (And.intro hka (And.intro hown (And.intro hnew (And.intro hlen' (And.intro hlen hne))))))
      have HX := Lib.hid hxe; have HB := Lib.hid (And.intro q2 (And.intro q3 q4))
      clear q1 q2 q3 q4 hka hown hnew hlen hlen' hne hxe
      go_wp2
      go_region_law (refine step_append2 _ rfl (.tmp 16) (.tmp 22) 61 rfl 5 i (.int .u8 0) 1 1 Tryz.underlying61 HI.out.1 HI.out.2.1 HI.out.2.2.1 HI.out.2.2.2 rfl (by decide) v _ _ (by simp [Act.eval, Act.put]) HQ.out.2.2.1 ⟨wr.heap.size, 0, none⟩ 1 1 [.int .u8 (x.toNat : Int)] (by simp [Act.eval, Act.put]) rfl HQ.out.2.2.2.1 hone HQ.out.2.2.2.2.1 HQ.out.2.2.2.2.2.1 ?_; intro v' w1 g1 g2 g3; obtain ⟨gb, gc, rfl, g4, g5⟩ := own_form g1 (Nat.succ_pos _); have k1 : Blk w1 q #[v] 61 := (HQ.out.1.kept HQ.out.2.1 (by simp)).kept ((Kept.refl v.ownBlock.toList _).grown g2 (fun k hk => .inl (by simp [hk]))) (fun hm => HQ.out.2.2.2.2.2.2 q (by simpa using hm) rfl); have c1 := k1.cell0; have f1 := k1.free 0; have HG := Lib.hid (And.intro g1 (And.intro g2 (And.intro g3 (And.intro g4 (And.intro g5 k1))))); clear g1 g2 g3 g4 g5 k1)
      all_goals
        go_wp2
        go_roundw
        case rel =>
          obtain ⟨s1, s2⟩ := wr_push hqs HB.out.2.1 HQ.out.2.2.2.2.2.2 HQ.out.2.1 HG.out.1 HG.out.2.1 HG.out.2.2.1 HG.out.2.2.2.2.2
          simp only [List.length_append, List.length_take] at s1 s2
          refine ⟨e, [gb], by omega, rfl, ?_, HR.out.2.trans s2⟩
          rw [take_step bytes n e he, ← HX.out, ← List.append_assoc]
          exact s1
        case measure => simp [intOf]
end Go.Proofs.YtkcdakohmfodjaaGreat
