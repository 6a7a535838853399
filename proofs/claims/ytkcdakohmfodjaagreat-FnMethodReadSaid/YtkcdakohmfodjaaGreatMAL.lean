/-
  Lemmas on the way to the statement of YtkcdakohmfodjaaGreatMethodRead, joined out of these texts: Ml, Arg, Flush. No condition.
-/
import Derived.Test.YtkcdakohmfodjaaGreatMAC
import Derived.Test.YtkcdakohmfodjaaGreatMAF
import Derived.Test.YtkcdakohmfodjaaGreatMAK
namespace Go.Proofs.YtkcdakohmfodjaaGreat
open Lib (beBytes)
set_option linter.unusedVariables false
set_option linter.unusedSimpArgs false
/-- An argument: its kind, a number, a text, a table. -/
structure MArg where
  kind : Int
  n : Nat
  text : List UInt8
  tab : List Fld
def MArg.zero : MArg := ⟨0, 0, [], []⟩
/-- The methods: class, number, letters. -/
def knownL : List (Nat × Nat × List UInt8) := [
  (10, 10, [111, 111, 116, 76, 76]), (10, 11, [116, 83, 76, 83]), (10, 20, [76]), (10, 21, [76]), (10, 30, [115, 108, 115]), (10, 31, [115, 108, 115]),
  (10, 40, [83, 50, 51]), (10, 41, [50]), (10, 50, [115, 83, 115, 115]), (10, 51, []), (10, 60, [83]), (10, 61, []),
  (10, 70, [76, 83]), (10, 71, []), (20, 10, [50]), (20, 11, [52]), (20, 20, [98]), (20, 21, [98]),
  (20, 40, [115, 83, 115, 115]), (20, 41, []), (40, 10, [49, 83, 83, 98, 98, 98, 98, 98, 116]), (40, 11, []), (40, 20, [49, 83, 98, 98]), (40, 21, []),
  (40, 30, [49, 83, 83, 83, 98, 116]), (40, 31, []), (40, 40, [49, 83, 83, 83, 98, 116]), (40, 51, []), (50, 10, [49, 83, 98, 98, 98, 98, 98, 116]), (50, 11, [83, 108, 108]),
  (50, 20, [49, 83, 83, 83, 98, 116]), (50, 21, []), (50, 30, [49, 83, 98]), (50, 31, [108]), (50, 40, [49, 83, 98, 98, 98]), (50, 41, [108]),
  (50, 50, [49, 83, 83, 83, 116]), (50, 51, []), (60, 10, [108, 115, 98]), (60, 11, []), (60, 20, [49, 83, 83, 98, 98, 98, 98, 116]), (60, 21, [83]),
  (60, 30, [83, 98]), (60, 31, [83]), (60, 40, [49, 83, 83, 98, 98]), (60, 50, [115, 83, 83, 83]), (60, 60, [83, 113, 98, 83, 83]), (60, 70, [49, 83, 98]),
  (60, 71, [113, 98, 83, 83, 108]), (60, 72, [50]), (60, 80, [113, 98]), (60, 90, [113, 98]), (60, 100, [98]), (60, 110, [98]),
  (60, 111, []), (60, 120, [113, 98, 98]), (85, 10, [98]), (85, 11, []), (90, 10, []), (90, 11, []),
  (90, 20, []), (90, 21, []), (90, 30, []), (90, 31, [])]
def lettersOf (c m : Int) : Option (List UInt8) := (knownL.find? fun e => decide ((e.1 : Int) = c) && decide ((e.2.1 : Int) = m)).map (·.2.2)
/-- An argument of a letter. -/
def properArgB (c : UInt8) (a : MArg) : Bool :=
  if (a.tab.length ≠ 0 ∧ c ≠ 116) ∨ (a.text ≠ [] ∧ c ≠ 83 ∧ c ≠ 76) ∨ (a.n ≠ 0 ∧ (c = 116 ∨ c = 83 ∨ c = 76)) then false
  else if c = 111 then decide (a.kind = 0) && decide (a.n ≤ 255)
  else if c = 115 then decide (a.kind = 1) && decide (a.n ≤ 65535)
  else if c = 108 then decide (a.kind = 2) && decide (a.n < 4294967296)
  else if c = 113 then decide (a.kind = 3)
  else if c = 83 then decide (a.kind = 4) && decide (a.text.length ≤ 255)
  else if c = 76 then decide (a.kind = 5) && decide (a.text.length ≤ 1000)
  else if c = 98 then decide (a.kind = 6) && decide (a.n ≤ 1)
  else if c = 116 then decide (a.kind = 7) && fitsB a.tab
  else false
/-- Arguments of the letters, in their order. -/
def properGo : List UInt8 → List MArg → Bool
  | [], args => args.isEmpty
  | c :: cs, args => if c < 65 then properGo cs args else match args with
    | [] => false
    | a :: rs => properArgB c a && properGo cs rs
def properM (c m : Int) (args : List MArg) : Bool := match lettersOf c m with
  | none => false
  | some l => properGo l args
def flushM (bits held : Nat) : List UInt8 := if bits = 0 then [] else beBytes 1 held
/-- The bytes of an argument that is no bit. -/
def itemM (c : UInt8) (a : MArg) : List UInt8 :=
  if c = 111 then beBytes 1 a.n
  else if c = 115 ∨ c = 49 then beBytes 2 a.n
  else if c = 108 then beBytes 4 a.n
  else if c = 113 then beBytes 8 a.n
  else if c = 83 ∨ c = 50 then beBytes 1 a.text.length ++ a.text
  else if c = 76 ∨ c = 52 then beBytes 4 a.text.length ++ a.text
  else if c = 116 then encT a.tab
  else []
/-- The bytes of arguments; 'bits' bits are held. -/
def encM : List UInt8 → List MArg → Nat → Nat → List UInt8
  | [], _, bits, held => flushM bits held
  | c :: cs, args, bits, held =>
    if c = 98 then encM cs args.tail (bits + 1) (held + ((args.headD .zero).n % 2) * 2 ^ bits)
    else if c = 51 then encM cs args (bits + 1) held
    else if c < 65 then flushM bits held ++ (itemM c .zero ++ encM cs args 0 0)
    else flushM bits held ++ (itemM c (args.headD .zero) ++ encM cs args.tail 0 0)
/-- The bytes of a method. -/
def methodB (c m : Nat) (l : List UInt8) (args : List MArg) : List UInt8 := beBytes 2 c ++ (beBytes 2 m ++ encM l args 0 0)
/-- What stays of an argument that is written and read. -/
def normA (a : MArg) : MArg := { a with tab := normFs a.tab }
theorem normFs_length (l : List Fld) : (normFs l).length = l.length := by
  induction l with
  | nil => rfl
  | cons x l ih => cases x with | mk name v => simp [normFs, ih]
theorem properArg_norm {c : UInt8} {a : MArg} (h : properArgB c a = true) : properArgB c (normA a) = true := by
  unfold properArgB normA at *
  simp only [normFs_length]
  by_cases h1 : (a.tab.length ≠ 0 ∧ c ≠ 116) ∨ (a.text ≠ [] ∧ c ≠ 83 ∧ c ≠ 76) ∨ (a.n ≠ 0 ∧ (c = 116 ∨ c = 83 ∨ c = 76))
  · rw [if_pos h1] at h; cases h
  rw [if_neg h1] at h ⊢
  by_cases h2 : c = 116
  · subst h2
    simp at h ⊢
    exact ⟨h.1, fits_norm _ h.2⟩
  · repeat' split at h
    all_goals simp_all
theorem proper_norm : ∀ (l : List UInt8) (args : List MArg), properGo l args = true → properGo l (args.map normA) = true
  | [], args, h => by simpa [properGo] using h
  | c :: cs, args, h => by
    unfold properGo at h ⊢
    by_cases hc : c < 65
    · rw [if_pos hc] at h ⊢; exact proper_norm cs args h
    · rw [if_neg hc] at h ⊢
      cases args with
      | nil => cases h
      | cons a rs =>
        simp only [Bool.and_eq_true] at h
        simp only [List.map_cons, Bool.and_eq_true]
        exact ⟨properArg_norm h.1, proper_norm cs rs h.2⟩
theorem item_norm (c : UInt8) (a : MArg) : itemM c (normA a) = itemM c a := by
  unfold itemM normA
  simp only [encT_norm]
theorem encM_norm : ∀ (l : List UInt8) (args : List MArg) (bits held : Nat), encM l (args.map normA) bits held = encM l args bits held
  | [], _, _, _ => rfl
  | c :: cs, args, bits, held => by
    unfold encM
    have h1 : (args.map normA).tail = args.tail.map normA := by cases args <;> rfl
    have h2 : ((args.map normA).headD .zero).n = (args.headD .zero).n := by cases args <;> rfl
    have h3 : itemM c ((args.map normA).headD .zero) = itemM c (args.headD .zero) := by cases args with | nil => rfl | cons a rs => exact item_norm c a
    rw [h1, h2, h3, encM_norm cs, encM_norm cs, encM_norm cs, encM_norm cs]
/-- The table of a proper argument: it fits, or there is none. -/
theorem properArg_conv {c : UInt8} {a : MArg} (h : properArgB c a = true) : convT (normFs a.tab) = normFs a.tab := by
  by_cases hc : c = 116
  · subst hc
    unfold properArgB at h
    split at h
    · cases h
    · simp at h; exact convT_norm _ h.2
  · unfold properArgB at h
    split at h
    · cases h
    · rename_i h1
      have : a.tab = [] := by
        cases ht : a.tab with
        | nil => rfl
        | cons x l => exact absurd (.inl ⟨by simp [ht], hc⟩) h1
      rw [this]; rfl
theorem proper_conv : ∀ (l : List UInt8) (args : List MArg), properGo l args = true → ∀ a ∈ args, convT (normFs a.tab) = normFs a.tab
  | [], args, h, a, ha => by cases args <;> simp [properGo] at h ha
  | c :: cs, args, h, a, ha => by
    unfold properGo at h
    by_cases hc : c < 65
    · rw [if_pos hc] at h; exact proper_conv cs args h a ha
    · rw [if_neg hc] at h
      cases args with
      | nil => cases ha
      | cons b rs =>
        simp only [Bool.and_eq_true] at h
        rcases List.mem_cons.1 ha with rfl | ha
        · exact properArg_conv h.1
        · exact proper_conv cs rs h.2 a ha
section
variable {cs : List UInt8} {args : List MArg}
theorem proper_cons {c : UInt8} (hc : ¬ c < 65) (h : properGo (c :: cs) args = true) : ∃ (a : MArg) (rs : List MArg), args = a :: rs ∧ properArgB c a = true ∧ properGo cs rs = true := by
  unfold properGo at h
  rw [if_neg hc] at h
  cases args with
  | nil => cases h
  | cons a rs => simp only [Bool.and_eq_true] at h; exact ⟨a, rs, rfl, h.1, h.2⟩
theorem proper_skip {c : UInt8} (hc : c < 65) (h : properGo (c :: cs) args = true) : properGo cs args = true := by
  unfold properGo at h
  rwa [if_pos hc] at h
theorem proper_nil (h : properGo [] args = true) : args = [] := by simpa [properGo] using h
theorem proper_o (h : properGo (111 :: cs) args = true) : ∃ (n : Nat) (rs : List MArg), args = ⟨0, n, [], []⟩ :: rs ∧ n < 256 ∧ properGo cs rs = true := by
  obtain ⟨⟨k, n, t, f⟩, rs, rfl, h1, h2⟩ := proper_cons (by decide) h
  unfold properArgB at h1
  simp at h1
  exact ⟨n, rs, by simp [h1], by omega, h2⟩
theorem proper_s (h : properGo (115 :: cs) args = true) : ∃ (n : Nat) (rs : List MArg), args = ⟨1, n, [], []⟩ :: rs ∧ n < 65536 ∧ properGo cs rs = true := by
  obtain ⟨⟨k, n, t, f⟩, rs, rfl, h1, h2⟩ := proper_cons (by decide) h
  unfold properArgB at h1
  simp at h1
  exact ⟨n, rs, by simp [h1], by omega, h2⟩
theorem proper_l (h : properGo (108 :: cs) args = true) : ∃ (n : Nat) (rs : List MArg), args = ⟨2, n, [], []⟩ :: rs ∧ n < 4294967296 ∧ properGo cs rs = true := by
  obtain ⟨⟨k, n, t, f⟩, rs, rfl, h1, h2⟩ := proper_cons (by decide) h
  unfold properArgB at h1
  simp at h1
  exact ⟨n, rs, by simp [h1], by omega, h2⟩
theorem proper_q (h : properGo (113 :: cs) args = true) : ∃ (n : Nat) (rs : List MArg), args = ⟨3, n, [], []⟩ :: rs ∧ properGo cs rs = true := by
  obtain ⟨⟨k, n, t, f⟩, rs, rfl, h1, h2⟩ := proper_cons (by decide) h
  unfold properArgB at h1
  simp at h1
  exact ⟨n, rs, by simp [h1], h2⟩
theorem proper_S (h : properGo (83 :: cs) args = true) : ∃ (t : List UInt8) (rs : List MArg), args = ⟨4, 0, t, []⟩ :: rs ∧ t.length ≤ 255 ∧ properGo cs rs = true := by
  obtain ⟨⟨k, n, t, f⟩, rs, rfl, h1, h2⟩ := proper_cons (by decide) h
  unfold properArgB at h1
  simp at h1
  exact ⟨t, rs, by simp [h1], by omega, h2⟩
theorem proper_L (h : properGo (76 :: cs) args = true) : ∃ (t : List UInt8) (rs : List MArg), args = ⟨5, 0, t, []⟩ :: rs ∧ t.length ≤ 1000 ∧ properGo cs rs = true := by
  obtain ⟨⟨k, n, t, f⟩, rs, rfl, h1, h2⟩ := proper_cons (by decide) h
  unfold properArgB at h1
  simp at h1
  exact ⟨t, rs, by simp [h1], by omega, h2⟩
theorem proper_b (h : properGo (98 :: cs) args = true) : ∃ (p : Bool) (rs : List MArg), args = ⟨6, p.toNat, [], []⟩ :: rs ∧ properGo cs rs = true := by
  obtain ⟨⟨k, n, t, f⟩, rs, rfl, h1, h2⟩ := proper_cons (by decide) h
  unfold properArgB at h1
  simp at h1
  have hn : n = 0 ∨ n = 1 := by omega
  rcases hn with rfl | rfl
  · exact ⟨false, rs, by simp [h1], h2⟩
  · exact ⟨true, rs, by simp [h1], h2⟩
theorem proper_t (h : properGo (116 :: cs) args = true) : ∃ (fs : List Fld) (rs : List MArg), args = ⟨7, 0, [], fs⟩ :: rs ∧ fitsB fs = true ∧ properGo cs rs = true := by
  obtain ⟨⟨k, n, t, f⟩, rs, rfl, h1, h2⟩ := proper_cons (by decide) h
  unfold properArgB at h1
  simp at h1
  exact ⟨f, rs, by simp [h1], h1.2.2, h2⟩
end
end Go.Proofs.YtkcdakohmfodjaaGreat
namespace Go.Proofs.YtkcdakohmfodjaaGreat
open Go.RowKit
set_option linter.unusedVariables false
set_option linter.unusedSimpArgs false
/-- The four cells of an argument. -/
def AHeld (B : Nat → Prop) (w : World) (cs : List Value) (a : MArg) : Prop := ∃ tv, cs = [.int .i64 a.kind, .int .u64 (a.n : Int), .string (bstr a.text), tv] ∧ FSl B w tv a.tab
theorem FSl.one {B : Nat → Prop} {w : World} {s : Value} {l : List Fld} (h : FSl B w s l) : s.oneCell' = true := by obtain ⟨fa, fc, rfl, _⟩ := h; rfl
theorem bears_arg : Bears 4 AHeld := ⟨fun ⟨tv, h1, h2⟩ hk hB => ⟨tv, h1, h2.kept hk hB⟩, fun ⟨tv, h1, h2⟩ hB => ⟨tv, h1, h2.mono hB⟩, fun ⟨tv, h1, _⟩ => by rw [h1]; rfl,
  fun ⟨tv, h1, h2⟩ u hu => by
    rw [h1] at hu
    simp only [List.mem_cons, List.mem_nil_iff, or_false] at hu
    rcases hu with rfl | rfl | rfl | rfl
    · rfl
    · rfl
    · rfl
    · exact h2.one⟩
/-- A slice of arguments. -/
def ASl (B : Nat → Prop) (w : World) (s : Value) (l : List MArg) : Prop :=
  ∃ (aa : Option Addr) (ac : Nat), s = .slice aa l.length ac ∧ l.length ≤ ac ∧ ∀ i a, l[i]? = some a → ∃ ad cs, aa = some ad ∧ CellsAt B w (ad.add (i * 4)) cs ∧ AHeld B w cs a
theorem ASl.kept {B : Nat → Prop} {S : List Nat} {w w' : World} {s : Value} {l : List MArg} (h : ASl B w s l) (hk : Kept S w w') (hB : ∀ b, B b → b ∉ S) : ASl B w' s l := by
  obtain ⟨aa, ac, h1, h2, h3⟩ := h
  refine ⟨aa, ac, h1, h2, fun i a hi => ?_⟩
  obtain ⟨ad, cs, e1, e2, e3⟩ := h3 i a hi
  exact ⟨ad, cs, e1, e2.kept hk hB, bears_arg.kept e3 hk hB⟩
theorem ASl.mono {B B' : Nat → Prop} {w : World} {s : Value} {l : List MArg} (h : ASl B w s l) (hB : ∀ b, B b → b < w.heap.size → B' b) : ASl B' w s l := by
  obtain ⟨aa, ac, h1, h2, h3⟩ := h
  refine ⟨aa, ac, h1, h2, fun i a hi => ?_⟩
  obtain ⟨ad, cs, e1, e2, e3⟩ := h3 i a hi
  refine ⟨ad, cs, e1, ⟨hB _ e2.1 (e2.lt (by obtain ⟨tv, e, _⟩ := e3; rw [e]; simp)), e2.2⟩, bears_arg.mono e3 hB⟩
theorem ASl.one {B : Nat → Prop} {w : World} {s : Value} {l : List MArg} (h : ASl B w s l) : s.oneCell' = true := by obtain ⟨aa, ac, rfl, _⟩ := h; rfl
theorem OwnE.asl {T : TypeId} {base : Nat} {w : World} {out : Value} {xs : List MArg} (h : OwnE T 4 AHeld base w out xs) : ASl (fun b => base ≤ b) w out xs := by
  obtain ⟨cells, h1, h2, h3⟩ := h
  obtain ⟨ao, c, rfl, hc, hh⟩ := own_slice h1
  refine ⟨ao, c, rfl, hc, fun i a hi => ?_⟩
  rcases hh with ⟨h0, _⟩ | ⟨g, rfl, hg, hcell⟩
  · rw [List.eq_nil_of_length_eq_zero h0] at hi; simp at hi
  · obtain ⟨cs, l1, l2, l3⟩ := h2.get i a hi
    refine ⟨_, cs, rfl, ⟨?_, fun j u hj => ?_⟩, bears_arg.mono l2 fun b hb _ => hb.1⟩
    · rw [addr_add]; exact h3 g hg
    · rw [addr_add, addr_add]
      have := hcell _ u (l3 j u hj)
      rw [← Nat.add_assoc] at this
      exact this
/-- Sizes that the machine bears. -/
def WfA (a : MArg) : Prop := a.text.length ≤ 140737488355328 ∧ WfFs a.tab ∧ a.tab.length ≤ 140737488355328 ∧ a.n < 18446744073709551616 ∧ -9223372036854775808 ≤ a.kind ∧ a.kind ≤ 9223372036854775807
def convA (a : MArg) : MArg := { a with tab := convT a.tab }
/-- The memory of MethodBytes: the writer, the bits, what is held, the place of the writer. -/
def MbSt (q qb qh qw : Nat) (w : World) (bs : List Nat) (l : List UInt8) (bits held : Nat) : Prop :=
  Wr 61 w q bs l ∧ Blk w qb #[.int .i64 (bits : Int)] 3 ∧ Blk w qh #[.int .u8 (held : Int)] 5 ∧ Blk w qw #[.pointer (some ⟨q, 0, none⟩)] 60 ∧
    (q ≠ qb ∧ q ≠ qh ∧ q ≠ qw ∧ qb ≠ qh ∧ qb ≠ qw ∧ qh ≠ qw) ∧ ∀ b ∈ bs, b ≠ qb ∧ b ≠ qh ∧ b ≠ qw
structure AdvM (q qb qh : Nat) (bs bs' : List Nat) (w w' : World) : Prop where
  kept : Kept (q :: qb :: qh :: bs) w w'
  own : ∀ b ∈ bs', b ∈ bs ∨ w.heap.size ≤ b
theorem AdvM.refl (q qb qh : Nat) (bs : List Nat) (w : World) : AdvM q qb qh bs bs w w := ⟨Kept.refl _ _, fun _ h => .inl h⟩
theorem AdvM.trans {q qb qh : Nat} {bs bs1 bs2 : List Nat} {w w1 w2 : World} (h : AdvM q qb qh bs bs1 w w1) (k : AdvM q qb qh bs1 bs2 w1 w2) : AdvM q qb qh bs bs2 w w2 := by
  refine ⟨h.kept.trans k.kept (fun x hx => ?_), fun b hb => ?_⟩
  · simp only [List.mem_cons] at hx ⊢
    rcases hx with rfl | rfl | rfl | hx
    · exact .inl (.inl rfl)
    · exact .inl (.inr (.inl rfl))
    · exact .inl (.inr (.inr (.inl rfl)))
    · rcases h.own x hx with h | h
      · exact .inl (.inr (.inr (.inr h)))
      · exact .inr h
  · rcases k.own b hb with h1 | h1
    · exact h.own b h1
    · exact .inr (Nat.le_trans h.kept.size h1)
theorem Adv.toM {q : Nat} {bs bs' : List Nat} {w w' : World} (qb qh : Nat) (h : Adv q bs bs' w w') : AdvM q qb qh bs bs' w w' :=
  ⟨h.kept.mono (fun x hx => by simp only [List.mem_cons] at hx ⊢; rcases hx with h | h; exact .inl (.inl h); exact .inl (.inr (.inr (.inr h)))), h.own⟩
theorem MbSt.adv {q qb qh qw : Nat} {w w' : World} {bs bs' : List Nat} {l l' : List UInt8} {bits held : Nat} (h : MbSt q qb qh qw w bs l bits held) (hw : Wr 61 w' q bs' l') (ha : Adv q bs bs' w w') : MbSt q qb qh qw w' bs' l' bits held := by
  obtain ⟨h1, h2, h3, h4, h5, h6⟩ := h
  obtain ⟨a1, a2, a3, a4, a5, a6⟩ := h5
  have e : ∀ x, x = qb ∨ x = qh ∨ x = qw → x ∉ q :: bs := fun x hx hm => by
    rcases List.mem_cons.1 hm with hm | hm
    · rcases hx with rfl | rfl | rfl
      · exact a1 hm.symm
      · exact a2 hm.symm
      · exact a3 hm.symm
    · have := h6 x hm
      rcases hx with rfl | rfl | rfl
      · exact this.1 rfl
      · exact this.2.1 rfl
      · exact this.2.2 rfl
  refine ⟨hw, h2.kept ha.kept (e _ (.inl rfl)), h3.kept ha.kept (e _ (.inr (.inl rfl))), h4.kept ha.kept (e _ (.inr (.inr rfl))), ⟨a1, a2, a3, a4, a5, a6⟩, fun b hb => ?_⟩
  rcases ha.own b hb with h | h
  · exact h6 b h
  · exact ⟨fun e => by have := h2.lt; omega, fun e => by have := h3.lt; omega, fun e => by have := h4.lt; omega⟩
theorem wr_kept {S : List Nat} {T : TypeId} {w w' : World} {q : Nat} {bs : List Nat} {l : List UInt8} (h : Wr T w q bs l) (hk : Kept S w w') (hq : q ∉ S) (hb : ∀ b ∈ bs, b ∉ S) : Wr T w' q bs l := by
  obtain ⟨v, h1, h2, h3, h4⟩ := h
  exact ⟨v, h1.kept hk hq, ownsRow_kept h2 hk (fun b e => hb b (by rw [h3, e]; simp)), h3, h4⟩
theorem MbSt.kept {q qb qh qw : Nat} {w w' : World} {bs : List Nat} {l : List UInt8} {bits held : Nat} (h : MbSt q qb qh qw w bs l bits held) (hk : Kept [] w w') : MbSt q qb qh qw w' bs l bits held :=
  ⟨wr_kept h.1 hk (by simp) (by simp), h.2.1.kept hk (by simp), h.2.2.1.kept hk (by simp), h.2.2.2.1.kept hk (by simp), h.2.2.2.2⟩
theorem MbSt.setBits {q qb qh qw : Nat} {w : World} {bs : List Nat} {l : List UInt8} {bits held : Nat} (h : MbSt q qb qh qw w bs l bits held) (n : Nat) : MbSt q qb qh qw (w.setCell ⟨qb, 0, none⟩ (.int .i64 (n : Int))) bs l n held ∧ AdvM q qb qh bs bs w (w.setCell ⟨qb, 0, none⟩ (.int .i64 (n : Int))) := by
  obtain ⟨h1, h2, h3, h4, h5, h6⟩ := h
  obtain ⟨a1, a2, a3, a4, a5, a6⟩ := id h5
  have hk : Kept [qb] w (w.setCell ⟨qb, 0, none⟩ (.int .i64 (n : Int))) := (Kept.refl _ w).setCell (by simp) _
  exact ⟨⟨wr_kept h1 hk (by simpa using a1) (fun b hb => by simpa using (h6 b hb).1), by simpa using h2.setCell 0 (.int .i64 (n : Int)), h3.kept hk (by simpa using Ne.symm a4), h4.kept hk (by simpa using Ne.symm a5), h5, h6⟩, ⟨hk.mono (by simp), fun _ h => .inl h⟩⟩
theorem MbSt.setHeld {q qb qh qw : Nat} {w : World} {bs : List Nat} {l : List UInt8} {bits held : Nat} (h : MbSt q qb qh qw w bs l bits held) (n : Nat) : MbSt q qb qh qw (w.setCell ⟨qh, 0, none⟩ (.int .u8 (n : Int))) bs l bits n ∧ AdvM q qb qh bs bs w (w.setCell ⟨qh, 0, none⟩ (.int .u8 (n : Int))) := by
  obtain ⟨h1, h2, h3, h4, h5, h6⟩ := h
  obtain ⟨a1, a2, a3, a4, a5, a6⟩ := id h5
  have hk : Kept [qh] w (w.setCell ⟨qh, 0, none⟩ (.int .u8 (n : Int))) := (Kept.refl _ w).setCell (by simp) _
  exact ⟨⟨wr_kept h1 hk (by simpa using a2) (fun b hb => by simpa using (h6 b hb).2.1), h2.kept hk (by simpa using a4), by simpa using h3.setCell 0 (.int .u8 (n : Int)), h4.kept hk (by simpa using Ne.symm a6), h5, h6⟩, ⟨hk.mono (by simp), fun _ h => .inl h⟩⟩
theorem MbSt.cells {q qb qh qw : Nat} {w : World} {bs : List Nat} {l : List UInt8} {bits held : Nat} (h : MbSt q qb qh qw w bs l bits held) :
    w.cell? ⟨qb, 0, none⟩ = some (.int .i64 (bits : Int)) ∧ w.cell? ⟨qh, 0, none⟩ = some (.int .u8 (held : Int)) ∧ w.cell? ⟨qw, 0, none⟩ = some (.pointer (some ⟨q, 0, none⟩)) ∧
      w.frozen? ⟨qb, 0, none⟩ = false ∧ w.frozen? ⟨qh, 0, none⟩ = false := ⟨h.2.1.cell0, h.2.2.1.cell0, h.2.2.2.1.cell0, h.2.1.free 0, h.2.2.1.free 0⟩
set_option maxHeartbeats 1000000 in
set_option maxRecDepth 100000 in
theorem flush_any (q qb qh qw bits held : Nat) (bs : List Nat) (l : List UInt8) (w : World) (h : MbSt q qb qh qw w bs l bits held) (hb : bits ≤ 8) (hh : held < 256) (h0 : bits = 0 → held = 0) (hl : l.length ≤ 1000000000) :
    Calls Tryz.prog 29 #[.pointer (some ⟨qb, 0, none⟩), .pointer (some ⟨qw, 0, none⟩), .pointer (some ⟨qh, 0, none⟩)] w fun e w' => e = .returned (.tuple #[]) ∧ ∃ bs', MbSt q qb qh qw w' bs' (l ++ flushM bits held) 0 0 ∧ AdvM q qb qh bs bs' w w' := by
  obtain ⟨c1, c2, c3, f1, f2⟩ := h.cells
  by_cases hz : bits = 0
  · have hz2 := h0 hz
    subst hz hz2
    have H := Lib.hid h
    clear h hb hh h0
    go_enter Tryz.func29, Tryz.ntmps29
    go_wp2_with fail
    go_end0
    exact ⟨rfl, bs, by simpa [flushM] using H.out, AdvM.refl _ _ _ _ _⟩
  · have hz' : (0 : Int) < bits := by omega
    have hp := put_any q held 1 bs l w h.1 (by omega) (by omega) (by omega)
    have hwu : IntKind.u64.wrap (held : Int) = held := by rw [IntKind.wrap_u64]; omega
    have H := Lib.hid (And.intro h hp)
    have HZ := Lib.hid hz
    clear h hb hh h0 hp hz
    go_enter Tryz.func29, Tryz.ntmps29
    go_wp2_with (go_at_call 21; refine H.out.2.mono ?_; rintro e w1 ⟨rfl, bs1, hw1, ha1⟩; have hm1 := H.out.1.adv hw1 ha1; obtain ⟨d1, d2, d3, g1, g2⟩ := hm1.cells; have y2 : (w1.setCell ⟨qb, 0, none⟩ (.int .i64 0)).cell? ⟨qh, 0, none⟩ = some (.int .u8 (held : Int)) := (hm1.setBits 0).1.cells.2.1; have y5 : (w1.setCell ⟨qb, 0, none⟩ (.int .i64 0)).frozen? ⟨qh, 0, none⟩ = false := (hm1.setBits 0).1.cells.2.2.2.2; have H1 := Lib.hid (And.intro hm1 ha1); clear hm1 hw1 ha1)
    go_end0
    obtain ⟨s1, t1⟩ := H1.out.1.setBits 0
    obtain ⟨s2, t2⟩ := s1.setHeld 0
    have hf : flushM bits held = Lib.beBytes 1 held := by unfold flushM; rw [if_neg HZ.out]
    exact ⟨rfl, bs1, by rw [hf]; exact s2, ((H1.out.2.toM qb qh).trans t1).trans t2⟩
end Go.Proofs.YtkcdakohmfodjaaGreat
