/-
  An append onto a slice that the program itself made, with word of where the new slice lies: where the old one lay, or in the next new block.
-/
import Derived.Test.YtkcdakohmfodjaaGreatBase
namespace Go.Proofs.YtkcdakohmfodjaaGreat
open Go.RowKit
set_option linter.unusedVariables false
set_option linter.unusedSimpArgs false

section
variable {P : Program} (w : World)

/-- An append looks at the type of its second argument only to see that it is a slice. -/
theorem run_append_types (t t' ty e e' : TypeId) (ht : P.underlying t = some (.slice e)) (ht' : P.underlying t' = some (.slice e')) (i : TypeInfo) (hi : P.info? e = some i) (args : Array Value) :
    (Builtin.append_ #[t, t'] ty args).run P w = (Builtin.append_ #[t, t] ty args).run P w := by
  cases hs : args[0]? with
  | none => simp [Builtin.append_, hs]
  | some s =>
    cases hx : args[1]? with
    | none => simp [Builtin.append_, hs, hx]
    | some x => cases s <;> simp [Builtin.append_, hs, hx, run_underlying ht, run_underlying ht', sizeOf, typeInfo, hi]

theorem run_append2 (t ty e : TypeId) (i : TypeInfo) (z : Value) (size bytes : Nat) (ht : P.underlying t = some (.slice e)) (hi : P.info? e = some i) (hz : i.zero = some z)
    (hsize : i.size = size) (hby : i.bytes = bytes) (hzs : z.cells.size = size) (hsz : 0 < size)
    (v : Value) (n : Nat) (xs : List Value) (hown : w.ownsRow 0 e size v n xs)
    (a : Addr) (m c : Nat) (news : List Value) (hl : news.length = m * size) (hnews : ∀ j u, news[j]? = some u → w.cell? (a.add j) = some u) (h1 : ∀ u ∈ news, u.oneCell' = true)
    (hb : (n + m) * bytes ≤ 140737488355328) (h63 : n + m ≤ 140737488355328) :
    ∃ v' w', (Builtin.append_ #[t, t] ty #[v, .slice (some a) m c]).run P w = .ok v' w' ∧ w'.ownsRow 0 e size v' (n + m) (xs ++ news) ∧ w.grownBy w' v.ownBlock ∧
      (v'.ownBlock = v.ownBlock ∨ v'.ownBlock = some w.heap.size) := by
  have hmax : n + m ≤ maxLen := by unfold maxLen; omega
  rcases hown.2 with ⟨hv, hn0⟩ | ⟨g, cap, cur, hv, hg0, hg, hnc, hcm, hcs, htake⟩
  · have hown' : w.ownsRow w.heap.size e size v n xs := ⟨hown.1, .inl ⟨hv, hn0⟩⟩
    obtain ⟨v', w', hr, h2, h3, h4⟩ := run_append_own (P := P) w w.heap.size t ty e i z size bytes ht hi hz hsize hby hzs hsz v n xs hown' a m c news hl hnews h1 hmax hb (Nat.le_refl _)
    refine ⟨v', w', hr, ⟨h2.1, ?_⟩, h3, ?_⟩
    · rcases h2.2 with h | ⟨g', cap', cur', h5, _, h7⟩
      · exact .inl h
      · exact .inr ⟨g', cap', cur', h5, Nat.zero_le _, h7⟩
    · by_cases hm : m = 0
      · have : v' = .slice none 0 0 := h4.2 ⟨hv, hm⟩
        exact .inl (by rw [this, hv])
      · subst hv hn0 hsize hby
        have hx : xs = [] := List.eq_nil_of_length_eq_zero (by simpa using hown.1)
        subst hx
        have hr' := run_append_nil (P := P) w t ty e i z ht hi hz a m c news hl hnews (by omega) (by omega) (by simp only [Nat.zero_add] at hb; omega)
        rw [hr'] at hr
        simp only [Result.ok.injEq] at hr
        rw [← hr.1]
        exact .inr rfl
  · by_cases hroom : n + m ≤ cap
    · obtain ⟨v', w', hr, h2, h3, h4⟩ := run_append_own (P := P) w 0 t ty e i z size bytes ht hi hz hsize hby hzs hsz v n xs hown a m c news hl hnews h1 hmax hb (Nat.zero_le _)
      refine ⟨v', w', hr, h2, h3, ?_⟩
      subst hv hsize
      have hfit : n * i.size + news.length ≤ cur.size := by rw [hl, hcs, ← Nat.add_mul]; exact Nat.mul_le_mul_right _ hroom
      have hr' := run_append_room (P := P) w t ty e i ht hi g n cap cur hg a m c news hl hnews h1 hroom hfit
      rw [hr'] at hr
      simp only [Result.ok.injEq] at hr
      rw [← hr.1]
      exact .inl rfl
    · obtain ⟨v', w', hr, h2, h3, h4⟩ := run_append_own (P := P) w 0 t ty e i z size bytes ht hi hz hsize hby hzs hsz v n xs hown a m c news hl hnews h1 hmax hb (Nat.zero_le _)
      refine ⟨v', w', hr, h2, h3, ?_⟩
      subst hv hsize hby
      have holds : ∀ j u, xs[j]? = some u → w.cell? ((⟨g, 0, none⟩ : Addr).add j) = some u := hown.cells (g := g) rfl
      have hr' := run_append_grow (P := P) w t ty e i z ht hi hz ⟨g, 0, none⟩ n cap xs hown.1 holds a m c news hl hnews (by omega) (by unfold maxLen at hmax; omega) (growslice_fits (by omega) hb)
      rw [hr'] at hr
      simp only [Result.ok.injEq] at hr
      rw [← hr.1]
      exact .inr rfl

/-- Nothing is appended: the slice stays, wherever what is appended lies. -/
theorem run_append_zero (t ty e : TypeId) (i : TypeInfo) (ht : P.underlying t = some (.slice e)) (hi : P.info? e = some i) (base : Option Addr) (n cap : Nat) (h : n ≤ cap) (ao : Option Addr) (c : Nat) :
    (Builtin.append_ #[t, t] ty #[.slice base n cap, .slice ao 0 c]).run P w = .ok (.slice base n cap) w := by
  cases base <;> cases ao <;> simp [Builtin.append_, run_underlying ht, sizeOf, typeInfo, hi, Builtin.lenOf, h, Builtin.firstCells, loadCells, loadCellsFrom, storeCells]

theorem step_append2 {ops : Array Oper} {o : Oper} {a : Act} {K : Act → World → Prop} {Q : Exit → Act → World → Prop} {E : Prop} (hgd : o.guard = none) (s x : Operand) (t : TypeId)
    (ho : o.op = .call { callee := .builtin .append, args := #[s, x], argTypes := #[t, t] })
    (e : TypeId) (i : TypeInfo) (z : Value) (size bytes : Nat) (ht : P.underlying t = some (.slice e)) (hi : P.info? e = some i) (hz : i.zero = some z)
    (hsize : i.size = size) (hby : i.bytes = bytes) (hzs : z.cells.size = size) (hsz : 0 < size)
    (v : Value) (n : Nat) (xs : List Value) (hs : a.eval s = v) (hown : w.ownsRow 0 e size v n xs)
    (ad : Addr) (m c : Nat) (news : List Value) (hx : a.eval x = .slice (some ad) m c) (hl : news.length = m * size) (hnews : ∀ j u, news[j]? = some u → w.cell? (ad.add j) = some u) (h1 : ∀ u ∈ news, u.oneCell' = true)
    (hb : (n + m) * bytes ≤ 140737488355328) (h63 : n + m ≤ 140737488355328)
    (h : ∀ v' w', w'.ownsRow 0 e size v' (n + m) (xs ++ news) → w.grownBy w' v.ownBlock → (v'.ownBlock = v.ownBlock ∨ v'.ownBlock = some w.heap.size) → K (a.put o.dst v') w') :
    if Region.wanted o (yielded ops a.tmps) = true then Oper.wp P o a w K Q else E := by
  have hw : Region.wanted o (yielded ops a.tmps) = true := by simp [Region.wanted, hgd]
  rw [if_pos hw]
  obtain ⟨v', w', hr, h2, h3, h4⟩ := run_append2 (P := P) w t o.type e i z size bytes ht hi hz hsize hby hzs hsz v n xs hown ad m c news hl hnews h1 hb h63
  unfold Oper.wp execOp
  simp only [ho, resolve, invoke, builtin, Sem.run_bind, Sem.run_pure, Result.andThen_ok, List.map_toArray, List.map_cons, List.map_nil, hs, hx, hr]
  exact h v' w' h2 h3 h4

theorem wpList_append2 {ops : Array Oper} {rest : List Oper} {o : Oper} {a : Act} {Q : Exit → Act → World → Prop} (hgd : o.guard = none) (s x : Operand) (t t' : TypeId)
    (ho : o.op = .call { callee := .builtin .append, args := #[s, x], argTypes := #[t, t'] })
    (e e' : TypeId) (ht' : P.underlying t' = some (.slice e')) (i : TypeInfo) (z : Value) (size bytes : Nat) (ht : P.underlying t = some (.slice e)) (hi : P.info? e = some i) (hz : i.zero = some z)
    (hsize : i.size = size) (hby : i.bytes = bytes) (hzs : z.cells.size = size) (hsz : 0 < size)
    (v : Value) (n : Nat) (xs : List Value) (hs : a.eval s = v) (hown : w.ownsRow 0 e size v n xs)
    (ad : Addr) (m c : Nat) (news : List Value) (hx : a.eval x = .slice (some ad) m c) (hl : news.length = m * size) (hnews : ∀ j u, news[j]? = some u → w.cell? (ad.add j) = some u) (h1 : ∀ u ∈ news, u.oneCell' = true)
    (hb : (n + m) * bytes ≤ 140737488355328) (h63 : n + m ≤ 140737488355328)
    (h : ∀ v' w', w'.ownsRow 0 e size v' (n + m) (xs ++ news) → w.grownBy w' v.ownBlock → (v'.ownBlock = v.ownBlock ∨ v'.ownBlock = some w.heap.size) → wpList P ops Q rest (a.put o.dst v') w') :
    wpList P ops Q (o :: rest) a w :=
  wpList_plain hgd fun _ hK => by
    obtain ⟨v', w', hr, h2, h3, h4⟩ := run_append2 (P := P) w t o.type e i z size bytes ht hi hz hsize hby hzs hsz v n xs hown ad m c news hl hnews h1 hb h63
    rw [← run_append_types (P := P) w t t' _ e e' ht ht' i hi] at hr
    unfold Oper.wp execOp
    simp only [ho, resolve, invoke, builtin, Sem.run_bind, Sem.run_pure, Result.andThen_ok, List.map_toArray, List.map_cons, List.map_nil, hs, hx, hr]
    exact hK _ _ (h v' w' h2 h3 h4)
theorem wpList_append_zero {ops : Array Oper} {rest : List Oper} {o : Oper} {a : Act} {Q : Exit → Act → World → Prop} (hgd : o.guard = none) (s x : Operand) (t t' : TypeId)
    (ho : o.op = .call { callee := .builtin .append, args := #[s, x], argTypes := #[t, t'] })
    (e e' : TypeId) (ht' : P.underlying t' = some (.slice e')) (i : TypeInfo) (ht : P.underlying t = some (.slice e)) (hi : P.info? e = some i)
    (base : Option Addr) (n cap : Nat) (hs : a.eval s = .slice base n cap) (hc : n ≤ cap) (ao : Option Addr) (c : Nat) (hx : a.eval x = .slice ao 0 c)
    (h : wpList P ops Q rest (a.put o.dst (.slice base n cap)) w) : wpList P ops Q (o :: rest) a w :=
  wpList_plain hgd fun _ hK => by
    have hr := run_append_zero (P := P) w t o.type e i ht hi base n cap hc ao c
    rw [← run_append_types (P := P) w t t' _ e e' ht ht' i hi] at hr
    unfold Oper.wp execOp
    simp only [ho, resolve, invoke, builtin, Sem.run_bind, Sem.run_pure, Result.andThen_ok, List.map_toArray, List.map_cons, List.map_nil, hs, hx, hr]
    exact hK _ _ h
end

/-- A copy into a row that is known whole: the world behind it is told by what it holds. -/
theorem wpList_copy2 {P : Program} {w : World} {ops : Array Oper} {rest : List Oper} {o : Oper} {a : Act} {Q : Exit → Act → World → Prop} (hgd : o.guard = none) (d s : Operand) (dT sT : TypeId)
    (ho : o.op = .call { callee := .builtin .copy, args := #[d, s], argTypes := #[dT, sT] }) (elem : TypeId) (hu : P.underlying dT = some (.slice elem)) (hsz : (P.info? elem).map (·.size) = some 1)
    (g off dLen dCap : Nat) (ad : Addr) (sLen sCap : Nat) (hd : a.eval d = .slice (some ⟨g, off, none⟩) dLen dCap) (hs : a.eval s = .slice (some ad) sLen sCap)
    (cur : List Value) (t : TypeId) (hg : Blk w g cur.toArray t) (cs : List Value) (k : Nat) (hk : cs.length = k) (hn : k = min sLen dLen)
    (hsrc : ∀ j v, cs[j]? = some v → w.cell? (ad.add j) = some v) (hfit : off + k ≤ cur.length) (h1 : ∀ v ∈ cs, v.oneCell' = true)
    (h : ∀ w', Blk w' g (splice cur off cs).toArray t → Kept [g] w w' → wpList P ops Q rest (a.put o.dst (goInt k)) w') : wpList P ops Q (o :: rest) a w := by
  subst hk
  refine wpList_copy_own hgd d s dT sT ho elem hu hsz g off dLen dCap ad sLen sCap hd hs cur.toArray t hg cs hn hsrc (by simpa using hfit) h1 ?_
  refine h _ ?_ ((Kept.refl [g] w).setRow (by simp) _)
  exact setRow_heap w g cur.toArray _ t _ hg

end Go.Proofs.YtkcdakohmfodjaaGreat
