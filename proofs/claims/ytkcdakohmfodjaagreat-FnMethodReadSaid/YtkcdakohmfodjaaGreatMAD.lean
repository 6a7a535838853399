/-
  Lemmas on the way to the statement of YtkcdakohmfodjaaGreatMethodRead, joined out of these texts: Held, Cells. No condition.
-/
import Derived.Test.YtkcdakohmfodjaaGreatMAA
import Derived.Test.YtkcdakohmfodjaaGreatMAB
import Derived.Test.YtkcdakohmfodjaaGreatMAC
namespace Go.Proofs.YtkcdakohmfodjaaGreat
open Go.RowKit
set_option linter.unusedVariables false
set_option linter.unusedSimpArgs false
/-- A text, as the model has it. -/
abbrev bstr (l : List UInt8) : ByteArray := ⟨l.toArray⟩
/-- At ad lie the cells cs, in a block of which B speaks. -/
def CellsAt (B : Nat → Prop) (w : World) (ad : Addr) (cs : List Value) : Prop := B ad.block ∧ ∀ j u, cs[j]? = some u → w.cell? (ad.add j) = some u
mutual
/-- cs are the seven cells of a value; what it refers to lies in blocks of which B speaks. -/
def VHeld (B : Nat → Prop) (w : World) (cs : List Value) : Val → Prop
  | .mk k n f sc text kids flds => ∃ (ka : Option Addr) (kc : Nat) (fa : Option Addr) (fc : Nat),
      cs = [.int .u8 (k.toNat : Int), .int .i64 n, .float .f64 f, .int .i64 sc, .string (bstr text), .slice ka kids.length kc, .slice fa flds.length fc] ∧
      kids.length ≤ kc ∧ flds.length ≤ fc ∧ (kids ≠ [] → ka.isSome = true) ∧ (flds ≠ [] → fa.isSome = true) ∧ KAt B w (ka.getD ⟨0, 0, none⟩) kids ∧ FAt B w (fa.getD ⟨0, 0, none⟩) flds
/-- At ad lie the cells of values. -/
def KAt (B : Nat → Prop) (w : World) (ad : Addr) : List Val → Prop
  | [] => True
  | v :: l => ∃ cs, CellsAt B w ad cs ∧ VHeld B w cs v ∧ KAt B w (ad.add 7) l
/-- At ad lie the cells of fields. -/
def FAt (B : Nat → Prop) (w : World) (ad : Addr) : List Fld → Prop
  | [] => True
  | .mk name v :: l => ∃ cs, CellsAt B w ad (.string (bstr name) :: cs) ∧ VHeld B w cs v ∧ FAt B w (ad.add 8) l
end
/-- A slice of values. -/
def KSl (B : Nat → Prop) (w : World) (s : Value) (l : List Val) : Prop :=
  ∃ ka kc, s = .slice ka l.length kc ∧ l.length ≤ kc ∧ (l ≠ [] → ka.isSome = true) ∧ KAt B w (ka.getD ⟨0, 0, none⟩) l
/-- A slice of fields. -/
def FSl (B : Nat → Prop) (w : World) (s : Value) (l : List Fld) : Prop :=
  ∃ fa fc, s = .slice fa l.length fc ∧ l.length ≤ fc ∧ (l ≠ [] → fa.isSome = true) ∧ FAt B w (fa.getD ⟨0, 0, none⟩) l
theorem CellsAt.kept {B : Nat → Prop} {S : List Nat} {w w' : World} {ad : Addr} {cs : List Value} (h : CellsAt B w ad cs) (hk : Kept S w w') (hB : ∀ b, B b → b ∉ S) : CellsAt B w' ad cs :=
  ⟨h.1, fun j u hj => hk.cell (h.2 j u hj) (by
    have : (ad.add j).block = ad.block := by unfold Addr.add; split <;> rfl
    rw [this]; exact hB _ h.1)⟩
theorem CellsAt.lt {B : Nat → Prop} {w : World} {ad : Addr} {cs : List Value} (h : CellsAt B w ad cs) (hn : cs ≠ []) : ad.block < w.heap.size := by
  cases cs with
  | nil => exact absurd rfl hn
  | cons c cs =>
    have := World.block_lt_of_cell? w _ (h.2 0 c rfl)
    simpa [Addr.add] using this
mutual
theorem VHeld.kept {B : Nat → Prop} {S : List Nat} {w w' : World} (hk : Kept S w w') (hB : ∀ b, B b → b ∉ S) {cs : List Value} (v : Val) (h : VHeld B w cs v) : VHeld B w' cs v := by
  cases v with
  | mk k n f sc text kids flds =>
    unfold VHeld at h ⊢
    obtain ⟨ka, kc, fa, fc, h1, h2, h3, h4, h5, h6, h7⟩ := h
    exact ⟨ka, kc, fa, fc, h1, h2, h3, h4, h5, KAt.kept hk hB kids h6, FAt.kept hk hB flds h7⟩
theorem KAt.kept {B : Nat → Prop} {S : List Nat} {w w' : World} (hk : Kept S w w') (hB : ∀ b, B b → b ∉ S) {ad : Addr} (l : List Val) (h : KAt B w ad l) : KAt B w' ad l := by
  cases l with
  | nil => unfold KAt; trivial
  | cons v l =>
    unfold KAt at h ⊢
    obtain ⟨cs, h1, h2, h3⟩ := h
    exact ⟨cs, h1.kept hk hB, VHeld.kept hk hB v h2, KAt.kept hk hB l h3⟩
theorem FAt.kept {B : Nat → Prop} {S : List Nat} {w w' : World} (hk : Kept S w w') (hB : ∀ b, B b → b ∉ S) {ad : Addr} (l : List Fld) (h : FAt B w ad l) : FAt B w' ad l := by
  cases l with
  | nil => unfold FAt; trivial
  | cons x l =>
    cases x with
    | mk name v =>
      unfold FAt at h ⊢
      obtain ⟨cs, h1, h2, h3⟩ := h
      exact ⟨cs, h1.kept hk hB, VHeld.kept hk hB v h2, FAt.kept hk hB l h3⟩
end
theorem VHeld.ne {B : Nat → Prop} {w : World} {cs : List Value} {v : Val} (h : VHeld B w cs v) : cs.length = 7 := by
  cases v with
  | mk k n f sc text kids flds => unfold VHeld at h; obtain ⟨ka, kc, fa, fc, rfl, _⟩ := h; rfl
mutual
theorem VHeld.mono {B B' : Nat → Prop} {w : World} (hB : ∀ b, B b → b < w.heap.size → B' b) {cs : List Value} (v : Val) (h : VHeld B w cs v) : VHeld B' w cs v := by
  cases v with
  | mk k n f sc text kids flds =>
    unfold VHeld at h ⊢
    obtain ⟨ka, kc, fa, fc, h1, h2, h3, h4, h5, h6, h7⟩ := h
    exact ⟨ka, kc, fa, fc, h1, h2, h3, h4, h5, KAt.mono hB kids h6, FAt.mono hB flds h7⟩
theorem KAt.mono {B B' : Nat → Prop} {w : World} (hB : ∀ b, B b → b < w.heap.size → B' b) {ad : Addr} (l : List Val) (h : KAt B w ad l) : KAt B' w ad l := by
  cases l with
  | nil => unfold KAt; trivial
  | cons v l =>
    unfold KAt at h ⊢
    obtain ⟨cs, h1, h2, h3⟩ := h
    exact ⟨cs, ⟨hB _ h1.1 (h1.lt (by have := h2.ne; intro e; subst e; simp at this)), h1.2⟩, VHeld.mono hB v h2, KAt.mono hB l h3⟩
theorem FAt.mono {B B' : Nat → Prop} {w : World} (hB : ∀ b, B b → b < w.heap.size → B' b) {ad : Addr} (l : List Fld) (h : FAt B w ad l) : FAt B' w ad l := by
  cases l with
  | nil => unfold FAt; trivial
  | cons x l =>
    cases x with
    | mk name v =>
      unfold FAt at h ⊢
      obtain ⟨cs, h1, h2, h3⟩ := h
      exact ⟨cs, ⟨hB _ h1.1 (h1.lt (by simp)), h1.2⟩, VHeld.mono hB v h2, FAt.mono hB l h3⟩
end
theorem KSl.kept {B : Nat → Prop} {S : List Nat} {w w' : World} {s : Value} {l : List Val} (h : KSl B w s l) (hk : Kept S w w') (hB : ∀ b, B b → b ∉ S) : KSl B w' s l := by
  obtain ⟨a, c, h1, h2, h3, h4⟩ := h
  exact ⟨a, c, h1, h2, h3, KAt.kept hk hB l h4⟩
theorem FSl.kept {B : Nat → Prop} {S : List Nat} {w w' : World} {s : Value} {l : List Fld} (h : FSl B w s l) (hk : Kept S w w') (hB : ∀ b, B b → b ∉ S) : FSl B w' s l := by
  obtain ⟨a, c, h1, h2, h3, h4⟩ := h
  exact ⟨a, c, h1, h2, h3, FAt.kept hk hB l h4⟩
theorem KSl.mono {B B' : Nat → Prop} {w : World} {s : Value} {l : List Val} (h : KSl B w s l) (hB : ∀ b, B b → b < w.heap.size → B' b) : KSl B' w s l := by
  obtain ⟨a, c, h1, h2, h3, h4⟩ := h
  exact ⟨a, c, h1, h2, h3, KAt.mono hB l h4⟩
theorem FSl.mono {B B' : Nat → Prop} {w : World} {s : Value} {l : List Fld} (h : FSl B w s l) (hB : ∀ b, B b → b < w.heap.size → B' b) : FSl B' w s l := by
  obtain ⟨a, c, h1, h2, h3, h4⟩ := h
  exact ⟨a, c, h1, h2, h3, FAt.mono hB l h4⟩
theorem VHeld.zero (B : Nat → Prop) (w : World) : VHeld B w [.int .u8 0, .int .i64 0, .float .f64 0, .int .i64 0, .string (bstr []), .slice none 0 0, .slice none 0 0] Val.zero := by
  unfold Val.zero VHeld
  exact ⟨none, 0, none, 0, rfl, Nat.le_refl _, Nat.le_refl _, fun h => absurd rfl h, fun h => absurd rfl h, by unfold KAt; trivial, by unfold FAt; trivial⟩
theorem addr_add_add (a : Addr) (i j : Nat) (h : a.spot = none) : (a.add i).add j = a.add (i + j) := by
  obtain ⟨b, o, s⟩ := a
  simp only at h
  subst h
  rw [addr_add, addr_add, addr_add, Nat.add_assoc]
/-- An element of a slice of values: its cells, by its place. -/
theorem KAt.get {B : Nat → Prop} {w : World} {ad : Addr} (hs : ad.spot = none) (l : List Val) (h : KAt B w ad l) (i : Nat) (v : Val) (hv : l[i]? = some v) : ∃ cs, CellsAt B w (ad.add (i * 7)) cs ∧ VHeld B w cs v := by
  induction l generalizing ad i with
  | nil => simp at hv
  | cons x l ih =>
    unfold KAt at h
    obtain ⟨cs, h1, h2, h3⟩ := h
    cases i with
    | zero =>
      simp only [List.getElem?_cons_zero, Option.some.injEq] at hv
      subst hv
      exact ⟨cs, by simpa [Addr.add] using h1, h2⟩
    | succ i =>
      have := ih (ad := ad.add 7) (by unfold Addr.add; split <;> simp_all) h3 i (by simpa using hv)
      rw [addr_add_add _ _ _ hs] at this
      rw [show (i + 1) * 7 = 7 + i * 7 by omega]
      exact this
theorem FAt.get {B : Nat → Prop} {w : World} {ad : Addr} (hs : ad.spot = none) (l : List Fld) (h : FAt B w ad l) (i : Nat) (name : List UInt8) (v : Val) (hv : l[i]? = some (.mk name v)) :
    ∃ cs, CellsAt B w (ad.add (i * 8)) (.string (bstr name) :: cs) ∧ VHeld B w cs v := by
  induction l generalizing ad i with
  | nil => simp at hv
  | cons x l ih =>
    cases x with
    | mk nm u =>
    unfold FAt at h
    obtain ⟨cs, h1, h2, h3⟩ := h
    cases i with
    | zero =>
      simp only [List.getElem?_cons_zero, Option.some.injEq, Fld.mk.injEq] at hv
      obtain ⟨rfl, rfl⟩ := hv
      exact ⟨cs, by simpa [Addr.add] using h1, h2⟩
    | succ i =>
      have := ih (ad := ad.add 8) (by unfold Addr.add; split <;> simp_all) h3 i (by simpa using hv)
      rw [addr_add_add _ _ _ hs] at this
      rw [show (i + 1) * 8 = 8 + i * 8 by omega]
      exact this
/-- the address has no spot where anything lies there. -/
theorem CellsAt.spot {B : Nat → Prop} {w : World} {ad : Addr} {cs : List Value} (h : CellsAt B w ad cs) (hn : cs ≠ []) : ad.spot = none := by
  cases cs with
  | nil => exact absurd rfl hn
  | cons c cs =>
    have h0 := h.2 0 c rfl
    simp only [Addr.add, if_pos] at h0
    unfold World.cell? at h0
    split at h0
    · split at h0
      · cases h0
      · rename_i hh; simpa using hh
    · cases h0
section
variable {P : Program}
theorem run_loadVar_cells (w : World) (ad : Addr) (ty : TypeId) (cs : List Value) (d : TypeDesc) (hc : ∀ j u, cs[j]? = some u → w.cell? (ad.add j) = some u)
    (hu : P.underlying ty = some d) (hd : (match d with | .struct _ | .array _ _ => true | _ => false) = true) (hi : (P.info? ty).map (·.size) = some cs.length) :
    (loadVar ty ad).run P w = .ok (.agg cs.toArray) w := by
  have hl : (loadCells ad cs.length).run P w = .ok cs.toArray w := run_loadCells_list (P := P) w ad cs hc
  cases hq : P.info? ty with
  | none => simp [hq] at hi
  | some i =>
    have hs : i.size = cs.length := by simpa [hq] using hi
    have hagg : (isAgg ty).run P w = .ok true w := by
      unfold isAgg
      rw [Sem.run_bind, run_underlying hu w]
      cases d <;> simp_all
    simp [loadVar, Sem.run_bind, hagg, sizeOf, typeInfo, hq, hs, hl]
theorem run_loadAt_cells (w : World) (ad : Addr) (ty : TypeId) (cs : List Value) (d : TypeDesc) (hc : ∀ j u, cs[j]? = some u → w.cell? (ad.add j) = some u)
    (hu : P.underlying ty = some d) (hd : (match d with | .struct _ | .array _ _ => true | _ => false) = true) (hi : (P.info? ty).map (·.size) = some cs.length) :
    (Instr.loadAt ty (.pointer (some ad))).run P w = .ok (.agg cs.toArray) w := by
  simp only [Instr.loadAt, Instr.sureAddr, Sem.run_bind, Sem.run_pure, Result.andThen_ok, run_loadVar_cells w ad ty cs d hc hu hd hi]
/-- A load of a whole struct, its cells known one by one. -/
theorem wpList_load_cells {ops : Array Oper} {rest : List Oper} {o : Oper} {a : Act} {w : World} {Q : Exit → Act → World → Prop} (hgd : o.guard = none) (ty : TypeId) (x : Operand) (ho : o.op = .load ty x)
    (ad : Addr) (hx : a.eval x = .pointer (some ad)) (cs : List Value) (hc : ∀ j u, cs[j]? = some u → w.cell? (ad.add j) = some u) (d : TypeDesc)
    (hu : P.underlying ty = some d) (hd : (match d with | .struct _ | .array _ _ => true | _ => false) = true) (hi : (P.info? ty).map (·.size) = some cs.length)
    (h : wpList P ops Q rest (a.put o.dst (.agg cs.toArray)) w) : wpList P ops Q (o :: rest) a w := by
  refine wpList_plain hgd fun K hK => ?_
  have hr := run_loadAt_cells (P := P) w ad ty cs d hc hu hd hi
  unfold Oper.wp execOp
  simp only [ho, hx, Sem.run_bind, Sem.run_pure, hr, Result.andThen_ok, Oper.upon_skip]
  exact hK _ _ h
end
/-- An induction over values: what is held comes first. -/
theorem Val.held (P : Val → Prop) (h : ∀ k n f sc t (kids : List Val) (flds : List Fld), (∀ v, v ∈ kids → P v) → (∀ x, x ∈ flds → P x.val) → P (.mk k n f sc t kids flds)) (v : Val) : P v :=
  Val.rec (motive_1 := P) (motive_2 := fun x => P x.val) (motive_3 := fun l => ∀ v, v ∈ l → P v) (motive_4 := fun l => ∀ x, x ∈ l → P x.val)
    (fun k n f sc t kids flds hk hf => h k n f sc t kids flds hk hf) (fun name v hv => hv) (by simp) (fun v l hv hl u hu => by rcases List.mem_cons.1 hu with rfl | hu; exact hv; exact hl u hu)
    (by simp) (fun x l hx hl u hu => by rcases List.mem_cons.1 hu with rfl | hu; exact hx; exact hl u hu) v
end Go.Proofs.YtkcdakohmfodjaaGreat
