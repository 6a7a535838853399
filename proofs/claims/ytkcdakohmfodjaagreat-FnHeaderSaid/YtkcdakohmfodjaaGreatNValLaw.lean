/-
  Lemmas on the way to the statement of YtkcdakohmfodjaaGreatHeader, joined out of these texts: ValLaw, Held, Ml, Cells, Be, Hp, Quiet, Lb, App. No condition.
-/
import Derived.BigQuiet
import Derived.Deep.Draws
import Derived.Deep.QuietTactic
import Derived.Defers
import Derived.Laws.Pointers
import Derived.Lib.AtoiErrMem
import Derived.Lib.ConvBytes
import Derived.Lib.Endian
import Derived.Lib.EndianBits
import Derived.Recover
import Derived.RegionTactic
import Derived.Tactics2
import Derived.Test.YtkcdakohmfodjaaGreatNFloat
import Derived.Test.YtkcdakohmfodjaaGreatProg
namespace Go.Proofs.YtkcdakohmfodjaaGreat
open Lib (beBytes)
set_option linter.unusedVariables false
set_option linter.unusedSimpArgs false
/-- A number as an uint64. -/
def u64 (n : Int) : Nat := (n % 18446744073709551616).toNat
mutual
def encV : Val → List UInt8
  | .mk k n f scale text kids flds => k ::
    (if k = 65 then beBytes 4 (encL kids).length ++ encL kids
     else if k = 70 then beBytes 4 (encFs flds).length ++ encFs flds
     else if k = 83 ∨ k = 120 then beBytes 4 text.length ++ text
     else if k = 116 ∨ k = 98 ∨ k = 66 then beBytes 1 (u64 n)
     else if k = 115 then beBytes 2 (u64 n)
     else if k = 73 then beBytes 4 (u64 n)
     else if k = 108 ∨ k = 84 then beBytes 8 (u64 n)
     else if k = 102 then beBytes 4 (Flt.toS f)
     else if k = 100 then beBytes 8 f
     else if k = 68 then beBytes 1 (u64 scale) ++ beBytes 4 (u64 n)
     else [])
def encL : List Val → List UInt8
  | [] => []
  | v :: l => encV v ++ encL l
def encFs : List Fld → List UInt8
  | [] => []
  | .mk name v :: l => beBytes 1 name.length ++ name ++ encV v ++ encFs l
end
/-- The bytes of a table: its length ahead. -/
def encT (l : List Fld) : List UInt8 := beBytes 4 (encFs l).length ++ encFs l
mutual
/-- What stays of a value that is written and read. -/
def normV : Val → Val
  | .mk k n f scale text kids flds =>
    if k = 65 then .mk k 0 0 0 [] (normL kids) []
    else if k = 70 then .mk k 0 0 0 [] [] (normFs flds)
    else if k = 83 ∨ k = 120 then .mk k 0 0 0 text [] []
    else if k = 102 ∨ k = 100 then .mk k 0 f 0 [] [] []
    else if k = 68 then .mk k n 0 scale [] [] []
    else if k = 86 then .mk k 0 0 0 [] [] []
    else .mk k n 0 0 [] [] []
def normL : List Val → List Val
  | [] => []
  | v :: l => normV v :: normL l
def normFs : List Fld → List Fld
  | [] => []
  | .mk name v :: l => .mk name (normV v) :: normFs l
end
mutual
theorem enc_norm (v : Val) : encV (normV v) = encV v := by
  cases v with
  | mk k n f scale text kids flds =>
    unfold normV
    by_cases h1 : k = 65
    · rw [if_pos h1]; subst h1; unfold encV; simp [enc_normL kids]
    rw [if_neg h1]
    by_cases h2 : k = 70
    · rw [if_pos h2]; subst h2; unfold encV; simp [enc_normFs flds]
    rw [if_neg h2]
    by_cases h3 : k = 83 ∨ k = 120
    · rw [if_pos h3]; unfold encV; simp [h1, h2, h3]
    rw [if_neg h3]
    by_cases h4 : k = 102 ∨ k = 100
    · rw [if_pos h4]; unfold encV; rcases h4 with rfl | rfl <;> simp
    rw [if_neg h4]
    by_cases h5 : k = 68
    · rw [if_pos h5]; subst h5; unfold encV; simp
    rw [if_neg h5]
    by_cases h6 : k = 86
    · rw [if_pos h6]; subst h6; unfold encV; simp
    rw [if_neg h6]
    have a1 : k ≠ 102 := fun e => h4 (.inl e)
    have a2 : k ≠ 100 := fun e => h4 (.inr e)
    unfold encV; simp [h1, h2, h3, h5, a1, a2]
theorem enc_normL (l : List Val) : encL (normL l) = encL l := by
  cases l with
  | nil => rfl
  | cons v l => unfold normL encL; rw [enc_norm v, enc_normL l]
theorem enc_normFs (l : List Fld) : encFs (normFs l) = encFs l := by
  cases l with
  | nil => rfl
  | cons x l =>
    cases x with
    | mk name v => unfold normFs encFs; rw [enc_norm v, enc_normFs l]
end
theorem encT_norm (l : List Fld) : encT (normFs l) = encT l := by unfold encT; rw [enc_normFs]
theorem inBits_zero (k : UInt8) : inBits k 0 = true := by
  unfold inBits bitsOf
  split
  · decide
  split
  · decide
  split
  · decide
  split <;> decide
mutual
theorem ok_norm (v : Val) (d : Nat) (h : OkV v d) : OkV (normV v) d := by
  cases v with
  | mk k n f scale text kids flds =>
    unfold OkV at h
    obtain ⟨hd, hb, hk⟩ := h
    unfold normV
    by_cases h1 : k = 65
    · rw [if_pos h1] at hk ⊢
      unfold OkV
      rw [if_pos h1]
      exact ⟨hd, inBits_zero k, ok_normL kids _ hk⟩
    rw [if_neg h1] at hk ⊢
    by_cases h2 : k = 70
    · rw [if_pos h2] at hk ⊢
      unfold OkV
      rw [if_neg h1, if_pos h2]
      exact ⟨hd, inBits_zero k, ok_normFs flds _ _ hk⟩
    rw [if_neg h2] at hk ⊢
    by_cases h3 : k = 83 ∨ k = 120
    · rw [if_pos h3]
      unfold OkV
      rw [if_neg h1, if_neg h2]
      refine ⟨hd, inBits_zero k, ?_⟩
      rcases h3 with rfl | rfl <;> rfl
    rw [if_neg h3]
    by_cases h4 : k = 102 ∨ k = 100
    · rw [if_pos h4]
      unfold OkV
      rw [if_neg h1, if_neg h2]
      refine ⟨hd, inBits_zero k, ?_⟩
      rcases h4 with rfl | rfl <;> exact hk
    rw [if_neg h4]
    by_cases h5 : k = 68
    · rw [if_pos h5]
      unfold OkV
      rw [if_neg h1, if_neg h2]
      refine ⟨hd, hb, ?_⟩
      subst h5; exact hk
    rw [if_neg h5]
    by_cases h6 : k = 86
    · rw [if_pos h6]
      unfold OkV
      rw [if_neg h1, if_neg h2]
      refine ⟨hd, inBits_zero k, ?_⟩
      subst h6; rfl
    rw [if_neg h6]
    unfold OkV
    rw [if_neg h1, if_neg h2]
    refine ⟨hd, hb, ?_⟩
    unfold leafOk at hk ⊢
    rw [if_neg h4, if_neg h5] at hk ⊢
    exact hk
theorem ok_normL (l : List Val) (d : Nat) (h : OkL l d) : OkL (normL l) d := by
  cases l with
  | nil => trivial
  | cons v l => unfold OkL at h; unfold normL OkL; exact ⟨ok_norm v d h.1, ok_normL l d h.2⟩
theorem ok_normFs (l : List Fld) (p : Option (List UInt8)) (d : Nat) (h : OkFs l p d) : OkFs (normFs l) p d := by
  cases l with
  | nil => trivial
  | cons x l =>
    cases x with
    | mk name v =>
      unfold OkFs at h; unfold normFs OkFs; exact ⟨h.1, h.2.1, ok_norm v d h.2.2.1, ok_normFs l _ d h.2.2.2⟩
end
mutual
theorem cost_norm (v : Val) : costV (normV v) ≤ costV v := by
  cases v with
  | mk k n f scale text kids flds =>
    unfold normV costV
    by_cases h1 : k = 65
    · have := cost_normL kids
      simp only [if_pos h1]
      simp; omega
    by_cases h2 : k = 70
    · have := cost_normFs flds
      simp only [if_neg h1, if_pos h2]
      simp; omega
    by_cases h3 : k = 83 ∨ k = 120
    · simp only [if_neg h1, if_neg h2, if_pos h3]; simp
    by_cases h4 : k = 102 ∨ k = 100
    · simp only [if_neg h1, if_neg h2, if_neg h3, if_pos h4]; simp
    by_cases h5 : k = 68
    · simp only [if_neg h1, if_neg h2, if_neg h3, if_neg h4, if_pos h5]; simp
    by_cases h6 : k = 86
    · simp only [if_neg h1, if_neg h2, if_neg h3, if_neg h4, if_neg h5, if_pos h6]; simp
    · simp only [if_neg h1, if_neg h2, if_neg h3, if_neg h4, if_neg h5, if_neg h6]; simp
theorem cost_normL (l : List Val) : costL (normL l) ≤ costL l := by
  cases l with
  | nil => exact Nat.le_refl _
  | cons v l => unfold normL costL; have := cost_norm v; have := cost_normL l; omega
theorem cost_normFs (l : List Fld) : costFs (normFs l) ≤ costFs l := by
  cases l with
  | nil => exact Nat.le_refl _
  | cons x l => cases x with | mk name v => unfold normFs costFs; have := cost_norm v; have := cost_normFs l; omega
end
mutual
/-- laws.value. -/
def convV : Val → Nat → Int → Val × Int
  | .mk k n f scale text kids flds, deep, room =>
    if room - (1 + text.length) < 0 ∨ deep = 0 then (Val.zero, room - (1 + text.length))
    else match convL kids (deep - 1) (convFs flds (deep - 1) (room - (1 + text.length))).2 with
      | (none, r) => (Val.zero, r)
      | (some ks, r) => (.mk k n f scale text ks ((convFs flds (deep - 1) (room - (1 + text.length))).1.getD [Fld.zero]), r)
def convL : List Val → Nat → Int → Option (List Val) × Int
  | [], _, room => (some [], room)
  | v :: l, deep, room =>
    if room < 0 then (none, room)
    else match convL l deep (convV v deep room).2 with
      | (none, r) => (none, r)
      | (some xs, r) => (some ((convV v deep room).1 :: xs), r)
/-- laws.fields, 'none' where it is cut. -/
def convFs : List Fld → Nat → Int → Option (List Fld) × Int
  | [], _, room => (some [], room)
  | .mk name v :: l, deep, room =>
    if (convV v deep (room - name.length)).2 < 0 then (none, (convV v deep (room - name.length)).2)
    else match convFs l deep (convV v deep (room - name.length)).2 with
      | (none, r) => (none, r)
      | (some xs, r) => (some (.mk name (convV v deep (room - name.length)).1 :: xs), r)
end
/-- laws.table: the cut copy of a table. -/
def convT (l : List Fld) : List Fld := (convFs l 10 4000).1.getD [Fld.zero]
mutual
def ccV : Val → Nat
  | .mk k n f scale text kids flds => 1 + text.length + ccL kids + ccFs flds
def ccL : List Val → Nat
  | [] => 0
  | v :: l => ccV v + ccL l
def ccFs : List Fld → Nat
  | [] => 0
  | .mk name v :: l => name.length + ccV v + ccFs l
end
mutual
theorem cc_norm (v : Val) : ccV (normV v) ≤ costV v := by
  cases v with
  | mk k n f scale text kids flds =>
    unfold normV costV
    by_cases h1 : k = 65
    · have := cc_normL kids
      simp only [if_pos h1, ccV, ccFs]
      simp; omega
    by_cases h2 : k = 70
    · have := cc_normFs flds
      simp only [if_neg h1, if_pos h2, ccV, ccL]
      simp; omega
    by_cases h3 : k = 83 ∨ k = 120
    · simp only [if_neg h1, if_neg h2, if_pos h3, ccV, ccL, ccFs]; simp
    by_cases h4 : k = 102 ∨ k = 100
    · simp only [if_neg h1, if_neg h2, if_neg h3, if_pos h4, ccV, ccL, ccFs]; simp <;> omega
    by_cases h5 : k = 68
    · simp only [if_neg h1, if_neg h2, if_neg h3, if_neg h4, if_pos h5, ccV, ccL, ccFs]; simp <;> omega
    by_cases h6 : k = 86
    · simp only [if_neg h1, if_neg h2, if_neg h3, if_neg h4, if_neg h5, if_pos h6, ccV, ccL, ccFs]; simp <;> omega
    · simp only [if_neg h1, if_neg h2, if_neg h3, if_neg h4, if_neg h5, if_neg h6, ccV, ccL, ccFs]; simp <;> omega
theorem cc_normL (l : List Val) : ccL (normL l) ≤ costL l := by
  cases l with
  | nil => exact Nat.le_refl _
  | cons v l => unfold normL ccL costL; have := cc_norm v; have := cc_normL l; omega
theorem cc_normFs (l : List Fld) : ccFs (normFs l) ≤ costFs l := by
  cases l with
  | nil => exact Nat.le_refl _
  | cons x l => cases x with | mk name v => unfold normFs ccFs costFs; have := cc_norm v; have := cc_normFs l; omega
end
mutual
/-- The depth, all that is held counted. -/
def depV : Val → Nat
  | .mk k n f scale text kids flds => 1 + max (depL kids) (depFs flds)
def depL : List Val → Nat
  | [] => 0
  | v :: l => max (depV v) (depL l)
def depFs : List Fld → Nat
  | [] => 0
  | .mk name v :: l => max (depV v) (depFs l)
end
mutual
theorem dep_norm (v : Val) (d : Nat) (h : OkV v d) : depV (normV v) ≤ d := by
  cases v with
  | mk k n f scale text kids flds =>
    unfold OkV at h
    obtain ⟨hd, hb, hk⟩ := h
    unfold normV
    by_cases h1 : k = 65
    · rw [if_pos h1] at hk ⊢
      have := dep_normL kids _ hk
      simp only [depV, depFs]; omega
    rw [if_neg h1] at hk ⊢
    by_cases h2 : k = 70
    · rw [if_pos h2] at hk ⊢
      have := dep_normFs flds _ _ hk
      simp only [depV, depL]; omega
    rw [if_neg h2] at hk ⊢
    repeat' split
    all_goals simp only [depV, depL, depFs]; omega
theorem dep_normL (l : List Val) (d : Nat) (h : OkL l d) : depL (normL l) ≤ d := by
  cases l with
  | nil => exact Nat.zero_le _
  | cons v l => unfold OkL at h; have := dep_norm v d h.1; have := dep_normL l d h.2; simp only [normL, depL]; omega
theorem dep_normFs (l : List Fld) (p : Option (List UInt8)) (d : Nat) (h : OkFs l p d) : depFs (normFs l) ≤ d := by
  cases l with
  | nil => exact Nat.zero_le _
  | cons x l =>
    cases x with
    | mk name v => unfold OkFs at h; have := dep_norm v d h.2.2.1; have := dep_normFs l _ d h.2.2.2; simp only [normFs, depFs]; omega
end
mutual
theorem conv_id (v : Val) (d : Nat) (room : Int) (hd : depV v ≤ d) (hr : (ccV v : Int) ≤ room) : convV v d room = (v, room - ccV v) := by
  cases v with
  | mk k n f scale text kids flds =>
    simp only [depV] at hd
    simp only [ccV] at hr
    unfold convV
    rw [if_neg (by omega)]
    rw [conv_idFs flds (d - 1) _ (by omega) (by omega)]
    rw [conv_idL kids (d - 1) _ (by omega) (by dsimp only; omega)]
    simp only [Option.getD_some, ccV, Prod.mk.injEq, true_and]
    omega
theorem conv_idL (l : List Val) (d : Nat) (room : Int) (hd : depL l ≤ d) (hr : (ccL l : Int) ≤ room) : convL l d room = (some l, room - ccL l) := by
  cases l with
  | nil => simp [convL, ccL]
  | cons v l =>
    simp only [depL] at hd
    simp only [ccL] at hr
    unfold convL
    rw [if_neg (by omega), conv_id v d room (by omega) (by omega)]
    rw [conv_idL l d _ (by omega) (by dsimp only; omega)]
    simp only [ccL, Prod.mk.injEq, true_and]
    omega
theorem conv_idFs (l : List Fld) (d : Nat) (room : Int) (hd : depFs l ≤ d) (hr : (ccFs l : Int) ≤ room) : convFs l d room = (some l, room - ccFs l) := by
  cases l with
  | nil => simp [convFs, ccFs]
  | cons x l =>
    cases x with
    | mk name v =>
      simp only [depFs] at hd
      simp only [ccFs] at hr
      unfold convFs
      rw [conv_id v d _ (by omega) (by omega)]
      rw [if_neg (by dsimp only; omega)]
      rw [conv_idFs l d _ (by omega) (by dsimp only; omega)]
      simp only [ccFs, Prod.mk.injEq, true_and]
      omega
end
/-- The cut copy of what stays of a table that fits: the same. -/
theorem convT_norm (l : List Fld) (h : fitsB l = true) : convT (normFs l) = normFs l := by
  obtain ⟨h1, h2⟩ := (fitsB_iff l).1 h
  have := dep_normFs l _ _ h1
  have := cc_normFs l
  unfold convT
  rw [conv_idFs (normFs l) 10 4000 (by omega) (by omega)]
  rfl
theorem fits_norm (l : List Fld) (h : fitsB l = true) : fitsB (normFs l) = true := by
  obtain ⟨h1, h2⟩ := (fitsB_iff l).1 h
  have := cost_normFs l
  exact (fitsB_iff _).2 ⟨ok_normFs l _ _ h1, by omega⟩
mutual
theorem encV_len (v : Val) : (encV v).length ≤ 9 * costV v := by
  cases v with
  | mk k n f scale text kids flds =>
    unfold encV costV
    by_cases h1 : k = 65
    · have := encL_len kids
      simp only [if_pos h1, List.length_cons, List.length_append, Lib.beBytes_length]; omega
    by_cases h2 : k = 70
    · have := encFs_len flds
      simp only [if_neg h1, if_pos h2, List.length_cons, List.length_append, Lib.beBytes_length]; omega
    simp only [if_neg h1, if_neg h2]
    repeat' split
    all_goals simp only [List.length_cons, List.length_append, Lib.beBytes_length, List.length_nil]; omega
theorem encL_len (l : List Val) : (encL l).length ≤ 9 * costL l := by
  cases l with
  | nil => simp [encL]
  | cons v l => have := encV_len v; have := encL_len l; simp only [encL, costL, List.length_append]; omega
theorem encFs_len (l : List Fld) : (encFs l).length ≤ 9 * costFs l := by
  cases l with
  | nil => simp [encFs]
  | cons x l =>
    cases x with
    | mk name v => have := encV_len v; have := encFs_len l; simp only [encFs, costFs, List.length_append, Lib.beBytes_length]; omega
end
theorem encT_len (l : List Fld) (h : fitsB l = true) : (encT l).length ≤ 18004 := by
  obtain ⟨h1, h2⟩ := (fitsB_iff l).1 h
  have := encFs_len l
  simp only [encT, List.length_append, Lib.beBytes_length]; omega
end Go.Proofs.YtkcdakohmfodjaaGreat
namespace Go.Proofs.YtkcdakohmfodjaaGreat
open Go.RowKit
set_option linter.unusedVariables false
set_option linter.unusedSimpArgs false
/-- A text, as the model has it. -/
abbrev bstr (l : List UInt8) : ByteArray := ⟨l.toArray⟩
/-- At ad lie the cells cs, in a block of which B speaks. -/
def CellsAt (B : Nat → Prop) (w : World) (ad : Addr) (cs : List Value) : Prop := B ad.block ∧ ∀ j u, cs[j]? = some u → w.cell? (ad.add j) = some u
mutual
/-- cs are the seven cells of a value; what it refers to lies in blocks of which B speaks. -/
def VHeld (B : Nat → Prop) (w : World) (cs : List Value) : Val → Prop
  | .mk k n f sc text kids flds => ∃ (ka : Option Addr) (kc : Nat) (fa : Option Addr) (fc : Nat),
      cs = [.int .u8 (k.toNat : Int), .int .i64 n, .float .f64 f, .int .i64 sc, .string (bstr text), .slice ka kids.length kc, .slice fa flds.length fc] ∧
      kids.length ≤ kc ∧ flds.length ≤ fc ∧ (kids ≠ [] → ka.isSome = true) ∧ (flds ≠ [] → fa.isSome = true) ∧ KAt B w (ka.getD ⟨0, 0, none⟩) kids ∧ FAt B w (fa.getD ⟨0, 0, none⟩) flds
/-- At ad lie the cells of values. -/
def KAt (B : Nat → Prop) (w : World) (ad : Addr) : List Val → Prop
  | [] => True
  | v :: l => ∃ cs, CellsAt B w ad cs ∧ VHeld B w cs v ∧ KAt B w (ad.add 7) l
/-- At ad lie the cells of fields. -/
def FAt (B : Nat → Prop) (w : World) (ad : Addr) : List Fld → Prop
  | [] => True
  | .mk name v :: l => ∃ cs, CellsAt B w ad (.string (bstr name) :: cs) ∧ VHeld B w cs v ∧ FAt B w (ad.add 8) l
end
/-- A slice of values. -/
def KSl (B : Nat → Prop) (w : World) (s : Value) (l : List Val) : Prop :=
  ∃ ka kc, s = .slice ka l.length kc ∧ l.length ≤ kc ∧ (l ≠ [] → ka.isSome = true) ∧ KAt B w (ka.getD ⟨0, 0, none⟩) l
/-- A slice of fields. -/
def FSl (B : Nat → Prop) (w : World) (s : Value) (l : List Fld) : Prop :=
  ∃ fa fc, s = .slice fa l.length fc ∧ l.length ≤ fc ∧ (l ≠ [] → fa.isSome = true) ∧ FAt B w (fa.getD ⟨0, 0, none⟩) l
theorem CellsAt.kept {B : Nat → Prop} {S : List Nat} {w w' : World} {ad : Addr} {cs : List Value} (h : CellsAt B w ad cs) (hk : Kept S w w') (hB : ∀ b, B b → b ∉ S) : CellsAt B w' ad cs :=
  ⟨h.1, fun j u hj => hk.cell (h.2 j u hj) (by
    have : (ad.add j).block = ad.block := by unfold Addr.add; split <;> rfl
    rw [this]; exact hB _ h.1)⟩
theorem CellsAt.lt {B : Nat → Prop} {w : World} {ad : Addr} {cs : List Value} (h : CellsAt B w ad cs) (hn : cs ≠ []) : ad.block < w.heap.size := by
  cases cs with
  | nil => exact absurd rfl hn
  | cons c cs =>
    have := World.block_lt_of_cell? w _ (h.2 0 c rfl)
    simpa [Addr.add] using this
mutual
theorem VHeld.kept {B : Nat → Prop} {S : List Nat} {w w' : World} (hk : Kept S w w') (hB : ∀ b, B b → b ∉ S) {cs : List Value} (v : Val) (h : VHeld B w cs v) : VHeld B w' cs v := by
  cases v with
  | mk k n f sc text kids flds =>
    unfold VHeld at h ⊢
    obtain ⟨ka, kc, fa, fc, h1, h2, h3, h4, h5, h6, h7⟩ := h
    exact ⟨ka, kc, fa, fc, h1, h2, h3, h4, h5, KAt.kept hk hB kids h6, FAt.kept hk hB flds h7⟩
theorem KAt.kept {B : Nat → Prop} {S : List Nat} {w w' : World} (hk : Kept S w w') (hB : ∀ b, B b → b ∉ S) {ad : Addr} (l : List Val) (h : KAt B w ad l) : KAt B w' ad l := by
  cases l with
  | nil => unfold KAt; trivial
  | cons v l =>
    unfold KAt at h ⊢
    obtain ⟨cs, h1, h2, h3⟩ := h
    exact ⟨cs, h1.kept hk hB, VHeld.kept hk hB v h2, KAt.kept hk hB l h3⟩
theorem FAt.kept {B : Nat → Prop} {S : List Nat} {w w' : World} (hk : Kept S w w') (hB : ∀ b, B b → b ∉ S) {ad : Addr} (l : List Fld) (h : FAt B w ad l) : FAt B w' ad l := by
  cases l with
  | nil => unfold FAt; trivial
  | cons x l =>
    cases x with
    | mk name v =>
      unfold FAt at h ⊢
      obtain ⟨cs, h1, h2, h3⟩ := h
      exact ⟨cs, h1.kept hk hB, VHeld.kept hk hB v h2, FAt.kept hk hB l h3⟩
end
theorem VHeld.ne {B : Nat → Prop} {w : World} {cs : List Value} {v : Val} (h : VHeld B w cs v) : cs.length = 7 := by
  cases v with
  | mk k n f sc text kids flds => unfold VHeld at h; obtain ⟨ka, kc, fa, fc, rfl, _⟩ := h; rfl
mutual
theorem VHeld.mono {B B' : Nat → Prop} {w : World} (hB : ∀ b, B b → b < w.heap.size → B' b) {cs : List Value} (v : Val) (h : VHeld B w cs v) : VHeld B' w cs v := by
  cases v with
  | mk k n f sc text kids flds =>
    unfold VHeld at h ⊢
    obtain ⟨ka, kc, fa, fc, h1, h2, h3, h4, h5, h6, h7⟩ := h
    exact ⟨ka, kc, fa, fc, h1, h2, h3, h4, h5, KAt.mono hB kids h6, FAt.mono hB flds h7⟩
theorem KAt.mono {B B' : Nat → Prop} {w : World} (hB : ∀ b, B b → b < w.heap.size → B' b) {ad : Addr} (l : List Val) (h : KAt B w ad l) : KAt B' w ad l := by
  cases l with
  | nil => unfold KAt; trivial
  | cons v l =>
    unfold KAt at h ⊢
    obtain ⟨cs, h1, h2, h3⟩ := h
    exact ⟨cs, ⟨hB _ h1.1 (h1.lt (by have := h2.ne; intro e; subst e; simp at this)), h1.2⟩, VHeld.mono hB v h2, KAt.mono hB l h3⟩
theorem FAt.mono {B B' : Nat → Prop} {w : World} (hB : ∀ b, B b → b < w.heap.size → B' b) {ad : Addr} (l : List Fld) (h : FAt B w ad l) : FAt B' w ad l := by
  cases l with
  | nil => unfold FAt; trivial
  | cons x l =>
    cases x with
    | mk name v =>
      unfold FAt at h ⊢
      obtain ⟨cs, h1, h2, h3⟩ := h
      exact ⟨cs, ⟨hB _ h1.1 (h1.lt (by simp)), h1.2⟩, VHeld.mono hB v h2, FAt.mono hB l h3⟩
end
theorem KSl.kept {B : Nat → Prop} {S : List Nat} {w w' : World} {s : Value} {l : List Val} (h : KSl B w s l) (hk : Kept S w w') (hB : ∀ b, B b → b ∉ S) : KSl B w' s l := by
  obtain ⟨a, c, h1, h2, h3, h4⟩ := h
  exact ⟨a, c, h1, h2, h3, KAt.kept hk hB l h4⟩
theorem FSl.kept {B : Nat → Prop} {S : List Nat} {w w' : World} {s : Value} {l : List Fld} (h : FSl B w s l) (hk : Kept S w w') (hB : ∀ b, B b → b ∉ S) : FSl B w' s l := by
  obtain ⟨a, c, h1, h2, h3, h4⟩ := h
  exact ⟨a, c, h1, h2, h3, FAt.kept hk hB l h4⟩
theorem KSl.mono {B B' : Nat → Prop} {w : World} {s : Value} {l : List Val} (h : KSl B w s l) (hB : ∀ b, B b → b < w.heap.size → B' b) : KSl B' w s l := by
  obtain ⟨a, c, h1, h2, h3, h4⟩ := h
  exact ⟨a, c, h1, h2, h3, KAt.mono hB l h4⟩
theorem FSl.mono {B B' : Nat → Prop} {w : World} {s : Value} {l : List Fld} (h : FSl B w s l) (hB : ∀ b, B b → b < w.heap.size → B' b) : FSl B' w s l := by
  obtain ⟨a, c, h1, h2, h3, h4⟩ := h
  exact ⟨a, c, h1, h2, h3, FAt.mono hB l h4⟩
theorem VHeld.zero (B : Nat → Prop) (w : World) : VHeld B w [.int .u8 0, .int .i64 0, .float .f64 0, .int .i64 0, .string (bstr []), .slice none 0 0, .slice none 0 0] Val.zero := by
  unfold Val.zero VHeld
  exact ⟨none, 0, none, 0, rfl, Nat.le_refl _, Nat.le_refl _, fun h => absurd rfl h, fun h => absurd rfl h, by unfold KAt; trivial, by unfold FAt; trivial⟩
theorem addr_add_add (a : Addr) (i j : Nat) (h : a.spot = none) : (a.add i).add j = a.add (i + j) := by
  obtain ⟨b, o, s⟩ := a
  simp only at h
  subst h
  rw [addr_add, addr_add, addr_add, Nat.add_assoc]
/-- An element of a slice of values: its cells, by its place. -/
theorem KAt.get {B : Nat → Prop} {w : World} {ad : Addr} (hs : ad.spot = none) (l : List Val) (h : KAt B w ad l) (i : Nat) (v : Val) (hv : l[i]? = some v) : ∃ cs, CellsAt B w (ad.add (i * 7)) cs ∧ VHeld B w cs v := by
  induction l generalizing ad i with
  | nil => simp at hv
  | cons x l ih =>
    unfold KAt at h
    obtain ⟨cs, h1, h2, h3⟩ := h
    cases i with
    | zero =>
      simp only [List.getElem?_cons_zero, Option.some.injEq] at hv
      subst hv
      exact ⟨cs, by simpa [Addr.add] using h1, h2⟩
    | succ i =>
      have := ih (ad := ad.add 7) (by unfold Addr.add; split <;> simp_all) h3 i (by simpa using hv)
      rw [addr_add_add _ _ _ hs] at this
      rw [show (i + 1) * 7 = 7 + i * 7 by omega]
      exact this
theorem FAt.get {B : Nat → Prop} {w : World} {ad : Addr} (hs : ad.spot = none) (l : List Fld) (h : FAt B w ad l) (i : Nat) (name : List UInt8) (v : Val) (hv : l[i]? = some (.mk name v)) :
    ∃ cs, CellsAt B w (ad.add (i * 8)) (.string (bstr name) :: cs) ∧ VHeld B w cs v := by
  induction l generalizing ad i with
  | nil => simp at hv
  | cons x l ih =>
    cases x with
    | mk nm u =>
    unfold FAt at h
    obtain ⟨cs, h1, h2, h3⟩ := h
    cases i with
    | zero =>
      simp only [List.getElem?_cons_zero, Option.some.injEq, Fld.mk.injEq] at hv
      obtain ⟨rfl, rfl⟩ := hv
      exact ⟨cs, by simpa [Addr.add] using h1, h2⟩
    | succ i =>
      have := ih (ad := ad.add 8) (by unfold Addr.add; split <;> simp_all) h3 i (by simpa using hv)
      rw [addr_add_add _ _ _ hs] at this
      rw [show (i + 1) * 8 = 8 + i * 8 by omega]
      exact this
/-- the address has no spot where anything lies there. -/
theorem CellsAt.spot {B : Nat → Prop} {w : World} {ad : Addr} {cs : List Value} (h : CellsAt B w ad cs) (hn : cs ≠ []) : ad.spot = none := by
  cases cs with
  | nil => exact absurd rfl hn
  | cons c cs =>
    have h0 := h.2 0 c rfl
    simp only [Addr.add, if_pos] at h0
    unfold World.cell? at h0
    split at h0
    · split at h0
      · cases h0
      · rename_i hh; simpa using hh
    · cases h0
end Go.Proofs.YtkcdakohmfodjaaGreat
namespace Go.Proofs.YtkcdakohmfodjaaGreat
open Lib (beBytes)
set_option linter.unusedVariables false
set_option linter.unusedSimpArgs false
/-- An argument: its kind, a number, a text, a table. -/
structure MArg where
  kind : Int
  n : Nat
  text : List UInt8
  tab : List Fld
def MArg.zero : MArg := ⟨0, 0, [], []⟩
/-- The bytes of an argument that is no bit. -/
def itemM (c : UInt8) (a : MArg) : List UInt8 :=
  if c = 111 then beBytes 1 a.n
  else if c = 115 ∨ c = 49 then beBytes 2 a.n
  else if c = 108 then beBytes 4 a.n
  else if c = 113 then beBytes 8 a.n
  else if c = 83 ∨ c = 50 then beBytes 1 a.text.length ++ a.text
  else if c = 76 ∨ c = 52 then beBytes 4 a.text.length ++ a.text
  else if c = 116 then encT a.tab
  else []
/-- What stays of an argument that is written and read. -/
def normA (a : MArg) : MArg := { a with tab := normFs a.tab }
theorem item_norm (c : UInt8) (a : MArg) : itemM c (normA a) = itemM c a := by
  unfold itemM normA
  simp only [encT_norm]
section
variable {cs : List UInt8} {args : List MArg}
end
end Go.Proofs.YtkcdakohmfodjaaGreat
namespace Go.Proofs.YtkcdakohmfodjaaGreat
open Go.RowKit
set_option linter.unusedVariables false
set_option linter.unusedSimpArgs false
section
variable {P : Program}
theorem run_loadVar_cells (w : World) (ad : Addr) (ty : TypeId) (cs : List Value) (d : TypeDesc) (hc : ∀ j u, cs[j]? = some u → w.cell? (ad.add j) = some u)
    (hu : P.underlying ty = some d) (hd : (match d with | .struct _ | .array _ _ => true | _ => false) = true) (hi : (P.info? ty).map (·.size) = some cs.length) :
    (loadVar ty ad).run P w = .ok (.agg cs.toArray) w := by
  have hl : (loadCells ad cs.length).run P w = .ok cs.toArray w := run_loadCells_list (P := P) w ad cs hc
  cases hq : P.info? ty with
  | none => simp [hq] at hi
  | some i =>
    have hs : i.size = cs.length := by simpa [hq] using hi
    have hagg : (isAgg ty).run P w = .ok true w := by
      unfold isAgg
      rw [Sem.run_bind, run_underlying hu w]
      cases d <;> simp_all
    simp [loadVar, Sem.run_bind, hagg, sizeOf, typeInfo, hq, hs, hl]
theorem run_loadAt_cells (w : World) (ad : Addr) (ty : TypeId) (cs : List Value) (d : TypeDesc) (hc : ∀ j u, cs[j]? = some u → w.cell? (ad.add j) = some u)
    (hu : P.underlying ty = some d) (hd : (match d with | .struct _ | .array _ _ => true | _ => false) = true) (hi : (P.info? ty).map (·.size) = some cs.length) :
    (Instr.loadAt ty (.pointer (some ad))).run P w = .ok (.agg cs.toArray) w := by
  simp only [Instr.loadAt, Instr.sureAddr, Sem.run_bind, Sem.run_pure, Result.andThen_ok, run_loadVar_cells w ad ty cs d hc hu hd hi]
/-- A load of a whole struct, its cells known one by one. -/
theorem wpList_load_cells {ops : Array Oper} {rest : List Oper} {o : Oper} {a : Act} {w : World} {Q : Exit → Act → World → Prop} (hgd : o.guard = none) (ty : TypeId) (x : Operand) (ho : o.op = .load ty x)
    (ad : Addr) (hx : a.eval x = .pointer (some ad)) (cs : List Value) (hc : ∀ j u, cs[j]? = some u → w.cell? (ad.add j) = some u) (d : TypeDesc)
    (hu : P.underlying ty = some d) (hd : (match d with | .struct _ | .array _ _ => true | _ => false) = true) (hi : (P.info? ty).map (·.size) = some cs.length)
    (h : wpList P ops Q rest (a.put o.dst (.agg cs.toArray)) w) : wpList P ops Q (o :: rest) a w := by
  refine wpList_plain hgd fun K hK => ?_
  have hr := run_loadAt_cells (P := P) w ad ty cs d hc hu hd hi
  unfold Oper.wp execOp
  simp only [ho, hx, Sem.run_bind, Sem.run_pure, hr, Result.andThen_ok, Oper.upon_skip]
  exact hK _ _ h
end
/-- An induction over values: what is held comes first. -/
theorem Val.held (P : Val → Prop) (h : ∀ k n f sc t (kids : List Val) (flds : List Fld), (∀ v, v ∈ kids → P v) → (∀ x, x ∈ flds → P x.val) → P (.mk k n f sc t kids flds)) (v : Val) : P v :=
  Val.rec (motive_1 := P) (motive_2 := fun x => P x.val) (motive_3 := fun l => ∀ v, v ∈ l → P v) (motive_4 := fun l => ∀ x, x ∈ l → P x.val)
    (fun k n f sc t kids flds hk hf => h k n f sc t kids flds hk hf) (fun name v hv => hv) (by simp) (fun v l hv hl u hu => by rcases List.mem_cons.1 hu with rfl | hu; exact hv; exact hl u hu)
    (by simp) (fun x l hx hl u hu => by rcases List.mem_cons.1 hu with rfl | hu; exact hx; exact hl u hu) v
set_option maxHeartbeats 1000000 in
set_option maxRecDepth 100000 in
theorem be16_any (g o n c : Nat) (b0 b1 : UInt8) (w : World) (hn : 2 ≤ n)
    (c0 : w.cell? ⟨g, o, none⟩ = some (.int .u8 b0.toNat)) (c1 : w.cell? ⟨g, o + 1, none⟩ = some (.int .u8 b1.toNat)) :
    Calls Tryz.prog 57 #[.slice (some ⟨g, o, none⟩) n c] w fun e w' => e = .returned (.int .u16 (Lib.beNat [b0, b1] : Nat)) ∧ ∃ k, w' = w.drewN k := by
  have h0 : b0.toNat < 256 := b0.toNat_lt
  have h1 : b1.toNat < 256 := b1.toNat_lt
  have hn1 : (1 : Int) < n := by omega
  have hn0 : (0 : Int) < n := by omega
  have hv : ((Lib.beNat [b0, b1] : Nat) : Int) = (b1.toNat : Int) + (b0.toNat : Int) * 256 := by
    simp only [Lib.beNat, Lib.beFrom]
    push_cast
    omega
  have HV := Lib.hid hv; clear hv
  go_enter Tryz.func57, Tryz.ntmps57
  go_wp2
  go_quiet (fail)
  go_wp2
  go_ret
  refine ⟨?_, _, rfl⟩
  simp (disch := omega) only [u16_or8]
  rw [HV.out]
  try rfl
set_option maxHeartbeats 1000000 in
set_option maxRecDepth 100000 in
theorem be32_any (g o n c : Nat) (b0 b1 b2 b3 : UInt8) (w : World) (hn : 4 ≤ n)
    (c0 : w.cell? ⟨g, o, none⟩ = some (.int .u8 b0.toNat)) (c1 : w.cell? ⟨g, o + 1, none⟩ = some (.int .u8 b1.toNat)) (c2 : w.cell? ⟨g, o + 2, none⟩ = some (.int .u8 b2.toNat)) (c3 : w.cell? ⟨g, o + 3, none⟩ = some (.int .u8 b3.toNat)) :
    Calls Tryz.prog 58 #[.slice (some ⟨g, o, none⟩) n c] w fun e w' => e = .returned (.int .u32 (Lib.beNat [b0, b1, b2, b3] : Nat)) ∧ ∃ k, w' = w.drewN k := by
  have h0 : b0.toNat < 256 := b0.toNat_lt
  have h1 : b1.toNat < 256 := b1.toNat_lt
  have h2 : b2.toNat < 256 := b2.toNat_lt
  have h3 : b3.toNat < 256 := b3.toNat_lt
  have n3 : (3 : Int) < n := by omega
  have n2 : (2 : Int) < n := by omega
  have n1 : (1 : Int) < n := by omega
  have n0 : (0 : Int) < n := by omega
  have hv : ((Lib.beNat [b0, b1, b2, b3] : Nat) : Int) = (b3.toNat : Int) + (b2.toNat : Int) * 256 + (b1.toNat : Int) * 65536 + (b0.toNat : Int) * 16777216 := by
    simp only [Lib.beNat, Lib.beFrom]
    push_cast
    omega
  have HV := Lib.hid hv; clear hv
  go_enter Tryz.func58, Tryz.ntmps58
  go_wp2
  go_quiet (fail)
  go_wp2
  go_ret
  refine ⟨?_, _, rfl⟩
  simp (disch := omega) only [u32_or8, u32_or16, u32_or24]
  rw [HV.out]
  try rfl
theorem drewN_kept (w : World) (k : Nat) (S : List Nat) : Kept S w (w.drewN k) := by
  induction k with
  | zero => exact Kept.refl S w
  | succ k ih => exact ih.drew
end Go.Proofs.YtkcdakohmfodjaaGreat
namespace Go.Proofs.YtkcdakohmfodjaaGreat
open Lib (beBytes)
set_option linter.unusedVariables false
set_option linter.unusedSimpArgs false
/-- Properties: which are there, the texts, the others. -/
structure HP where
  has : Nat → Bool
  txt : Nat → List UInt8
  mode : Int
  prio : Int
  time : Int
  hdr : List Fld
/-- The place i is as it should be. -/
def HP.okAt (p : HP) (i : Nat) : Bool :=
  if i = 2 then p.has i == decide (p.hdr ≠ [])
  else if i = 3 then p.has i == decide (0 < p.mode)
  else if i = 4 then p.has i == decide (0 < p.prio)
  else if i = 9 then p.has i == decide (0 < p.time)
  else if i = 13 then !p.has i && decide (p.txt i = [])
  else (p.has i == decide (p.txt i ≠ [])) && decide ((p.txt i).length ≤ 255)
def HP.okEnd (p : HP) : Bool :=
  decide (0 ≤ p.mode) && (decide (p.mode ≤ 255) && (decide (0 ≤ p.prio) && (decide (p.prio ≤ 255) && (decide (0 ≤ p.time) && (decide (p.time < 1099511627776) && (fitsB p.hdr && decide (p.txt 2 ++ p.txt 3 ++ p.txt 4 ++ p.txt 9 = [])))))))
def properP (p : HP) : Bool := (List.range 14).all p.okAt && p.okEnd
/-- The flags of the places below k. -/
def HP.flags (p : HP) : Nat → Nat
  | 0 => 0
  | k + 1 => p.flags k + (if p.has k then 2 ^ (15 - k) else 0)
def HP.item (p : HP) (i : Nat) : List UInt8 :=
  if p.has i then
    if i = 2 then encT p.hdr
    else if i = 3 then beBytes 1 p.mode.toNat
    else if i = 4 then beBytes 1 p.prio.toNat
    else if i = 9 then beBytes 8 p.time.toNat
    else beBytes 1 (p.txt i).length ++ p.txt i
  else []
/-- The bytes of the places below k. -/
def HP.items (p : HP) : Nat → List UInt8
  | 0 => []
  | k + 1 => p.items k ++ p.item k
/-- The bytes of a header. -/
def headerB (c size : Nat) (p : HP) : List UInt8 := beBytes 2 c ++ (beBytes 2 0 ++ (beBytes 8 size ++ (beBytes 2 (p.flags 14) ++ p.items 14)))
theorem HP.flags_lt (p : HP) : ∀ k, k ≤ 14 → p.flags k % 2 ^ (16 - k) = 0 ∧ p.flags k < 65536
  | 0, _ => by simp [HP.flags]
  | k + 1, h => by
    obtain ⟨h1, h2⟩ := p.flags_lt k (by omega)
    have e : 16 - k = (15 - k) + 1 := by omega
    rw [e, Nat.pow_succ] at h1
    have e2 : 16 - (k + 1) = 15 - k := by omega
    rw [e2]
    have hp := Nat.two_pow_pos (15 - k)
    have h3 : p.flags k % 2 ^ (15 - k) = 0 := by
      obtain ⟨q, hq⟩ := Nat.dvd_of_mod_eq_zero h1
      rw [hq, Nat.mul_assoc]; exact Nat.mul_mod_right _ _
    have h4 : p.flags k + 2 ^ (15 - k) < 65536 := by
      obtain ⟨q, hq⟩ := Nat.dvd_of_mod_eq_zero h1
      have e3 : 65536 = 2 ^ (15 - k) * 2 * 2 ^ k := by
        rw [Nat.mul_assoc, ← Nat.pow_succ', ← Nat.pow_add, show 15 - k + (k + 1) = 16 by omega]
      rw [hq, e3] at h2 ⊢
      have hq2 : q < 2 ^ k := Nat.lt_of_mul_lt_mul_left h2
      have : 2 ^ (15 - k) * 2 * (q + 1) ≤ 2 ^ (15 - k) * 2 * 2 ^ k := Nat.mul_le_mul_left _ hq2
      rw [Nat.mul_add] at this
      omega
    unfold HP.flags
    by_cases hh : p.has k = true
    · rw [if_pos hh]
      exact ⟨by rw [Nat.add_mod, h3]; simp, h4⟩
    · rw [if_neg hh]
      exact ⟨by simpa using h3, by simpa using h2⟩
/-- The properties that stay of those that are written and read. -/
def HP.norm (p : HP) : HP := { p with hdr := normFs p.hdr }
def HP.conv (p : HP) : HP := { p with hdr := convT p.hdr }
theorem HP.flags_norm (p : HP) : ∀ k, p.norm.flags k = p.flags k
  | 0 => rfl
  | k + 1 => by unfold HP.flags; rw [p.flags_norm k]; rfl
theorem HP.item_norm (p : HP) (i : Nat) : p.norm.item i = p.item i := by
  unfold HP.item HP.norm; simp only [encT_norm]
theorem HP.items_norm (p : HP) : ∀ k, p.norm.items k = p.items k
  | 0 => rfl
  | k + 1 => by unfold HP.items; rw [p.items_norm k, p.item_norm k]
theorem headerB_norm (c size : Nat) (p : HP) : headerB c size p.norm = headerB c size p := by
  unfold headerB; rw [p.flags_norm, p.items_norm]
section
variable {p : HP}
theorem proper_fit (h : properP p = true) : fitsB p.hdr = true ∧ 0 ≤ p.mode ∧ p.mode ≤ 255 ∧ 0 ≤ p.prio ∧ p.prio ≤ 255 ∧ 0 ≤ p.time ∧ p.time < 1099511627776 ∧ p.txt 2 ++ p.txt 3 ++ p.txt 4 ++ p.txt 9 = [] := by
  unfold properP HP.okEnd at h
  simp only [Bool.and_eq_true, decide_eq_true_eq] at h
  obtain ⟨_, h1, h2, h3, h4, h5, h6, h7, h8⟩ := h
  exact ⟨h7, h1, h2, h3, h4, h5, h6, h8⟩
theorem proper_at (h : properP p = true) (i : Nat) (hi : i < 14) : p.okAt i = true := by
  unfold properP at h
  simp only [Bool.and_eq_true, List.all_eq_true, List.mem_range] at h
  exact h.1 i hi
theorem proper_convP (h : properP p = true) : p.norm.conv = p.norm := by
  unfold HP.conv HP.norm
  simp only [convT_norm _ (proper_fit h).1]
theorem normFs_nil (l : List Fld) : normFs l = [] ↔ l = [] := by
  cases l with
  | nil => simp [normFs]
  | cons x l => cases x with | mk n v => simp [normFs]
theorem proper_normP (h : properP p = true) : properP p.norm = true := by
  have e : ∀ i, p.norm.okAt i = p.okAt i := fun i => by
    unfold HP.okAt HP.norm
    simp only [ne_eq, normFs_nil]
  unfold properP at *
  simp only [Bool.and_eq_true, List.all_eq_true, List.mem_range] at *
  refine ⟨fun i hi => by rw [e]; exact h.1 i hi, ?_⟩
  have h2 := h.2
  unfold HP.okEnd at *
  simp only [Bool.and_eq_true] at *
  obtain ⟨h1, h2, h3, h4, h5, h6, h7, h8⟩ := h2
  exact ⟨h1, h2, h3, h4, h5, h6, fits_norm _ h7, h8⟩
theorem HP.item_len (h : properP p = true) (i : Nat) (hi : i < 14) : (p.item i).length ≤ 18004 := by
  have hf := proper_fit h
  have ho := proper_at h i hi
  unfold HP.item
  split
  · rename_i hh
    split
    · exact encT_len _ hf.1
    split
    · simp [Lib.beBytes_length]
    split
    · simp [Lib.beBytes_length]
    split
    · simp [Lib.beBytes_length]
    · rename_i a b c d
      unfold HP.okAt at ho
      rw [if_neg a, if_neg b, if_neg c, if_neg d] at ho
      split at ho
      · rename_i e; subst e; simp only [Bool.and_eq_true] at ho; rw [hh] at ho; simp at ho
      · simp only [Bool.and_eq_true, decide_eq_true_eq] at ho
        simp only [List.length_append, Lib.beBytes_length]; omega
  · simp
theorem HP.items_len (h : properP p = true) : ∀ k, k ≤ 14 → (p.items k).length ≤ 18004 * k
  | 0, _ => by simp [HP.items]
  | k + 1, hk => by
    have := HP.items_len h k (by omega)
    have := HP.item_len h k (by omega)
    unfold HP.items
    rw [List.length_append]; omega
theorem headerB_len (c size : Nat) (h : properP p = true) : (headerB c size p).length ≤ 1000000 := by
  have := HP.items_len h 14 (Nat.le_refl _)
  unfold headerB
  simp only [List.length_append, Lib.beBytes_length]; omega
end
end Go.Proofs.YtkcdakohmfodjaaGreat
namespace Go.Proofs.YtkcdakohmfodjaaGreat
open Go.RowKit
set_option linter.unusedVariables false
set_option linter.unusedSimpArgs false
theorem catch_idle (p : Addr) (w : World) :
    CallsD Tryz.prog 42 #[.pointer (some p)] .returning w fun e u' w' => e = .returned (.tuple #[]) ∧ u' = .returning ∧ w = w' := by
  refine callsD_of_wpS Tryz.func42 rfl fun c₀ cs hu => ?_
  apply wpS_seq
  apply wpS_region
  simp [wpOpsS, go_sem, recoverD, hu, Tryz.ntmps42, Exit.thenS]
  refine wpS_cond (t := false) (by simp [Act.eval, Array.replicate]) ?_
  simp only [Bool.false_eq_true, if_false]
  refine wpS_of_wp (wp_skip ?_)
  cases c₀
  simp_all [bodyPostS, results, Tryz.results42]
theorem mf_any (fn : Fn) (first cap : Array Value) (w : World) : (Instr.makeFunc fn first cap).run Tryz.prog w = .ok (.func fn first cap) w := rfl
set_option maxHeartbeats 400000 in
theorem quietly_parse (a0 a1 a2 a3 : Value) (w : World) (R : World → Prop)
    (hR : ∀ w', R w' → Blk w' w.heap.size #[.bool false] 4)
    (hc : Calls Tryz.prog 23 #[a0, a1, a2, a3] (w.alloc (.cells #[.bool false] 4)) fun e w' => e = .returned (.tuple #[]) ∧ R w') :
    Calls Tryz.prog 22 #[.func (.func 23) #[] #[a0, a1, a2, a3]] w fun e w' => e = .returned (.bool true) ∧ ∃ w1, R w1 ∧ w' = w1.setCell ⟨w.heap.size, 0, none⟩ (.bool true) := by
  have hmf := mf_any
  have HC := Lib.hid hc; have HR := Lib.hid hR
  clear hc hR
  go_enter_defers Tryz.func22, Tryz.ntmps22
  go_wp2_with (go_at_call 23; refine HC.out.mono ?_; rintro e w1 ⟨rfl, h1⟩; have hb := HR.out _ h1; have q0 := hb.cell0; have q1 := hb.free 0; have H1 := Lib.hid h1; have HB := Lib.hid hb; clear h1 hb)
  refine leaves_cons (f := 42) (args := #[.pointer (some ⟨w.heap.size, 0, none⟩)]) (by simp) (by simp [go_sem]) ?_
  refine (catch_idle ⟨w.heap.size, 0, none⟩ _).mono ?_
  rintro e u' w'' ⟨rfl, rfl, rfl⟩
  have q3 : (w1.setCell ⟨w.heap.size, 0, none⟩ (.bool true)).cell? ⟨w.heap.size, 0, none⟩ = some (.bool true) := (HB.out.setCell 0 _).cell 0
  simp [Leaves, settle, results, Tryz.results22, go_sem, q3]
  exact ⟨w1, H1.out, rfl⟩
set_option maxHeartbeats 400000 in
theorem quietly_write (a0 a1 a2 a3 : Value) (w : World) (R : World → Prop)
    (hR : ∀ w', R w' → Blk w' w.heap.size #[.bool false] 4)
    (hc : Calls Tryz.prog 51 #[a0, a1, a2, a3] (w.alloc (.cells #[.bool false] 4)) fun e w' => e = .returned (.tuple #[]) ∧ R w') :
    Calls Tryz.prog 22 #[.func (.func 51) #[] #[a0, a1, a2, a3]] w fun e w' => e = .returned (.bool true) ∧ ∃ w1, R w1 ∧ w' = w1.setCell ⟨w.heap.size, 0, none⟩ (.bool true) := by
  have hmf := mf_any
  have HC := Lib.hid hc; have HR := Lib.hid hR
  clear hc hR
  go_enter_defers Tryz.func22, Tryz.ntmps22
  go_wp2_with (go_at_call 51; refine HC.out.mono ?_; rintro e w1 ⟨rfl, h1⟩; have hb := HR.out _ h1; have q0 := hb.cell0; have q1 := hb.free 0; have H1 := Lib.hid h1; have HB := Lib.hid hb; clear h1 hb)
  refine leaves_cons (f := 42) (args := #[.pointer (some ⟨w.heap.size, 0, none⟩)]) (by simp) (by simp [go_sem]) ?_
  refine (catch_idle ⟨w.heap.size, 0, none⟩ _).mono ?_
  rintro e u' w'' ⟨rfl, rfl, rfl⟩
  have q3 : (w1.setCell ⟨w.heap.size, 0, none⟩ (.bool true)).cell? ⟨w.heap.size, 0, none⟩ = some (.bool true) := (HB.out.setCell 0 _).cell 0
  simp [Leaves, settle, results, Tryz.results22, go_sem, q3]
  exact ⟨w1, H1.out, rfl⟩
section
variable {P : Program} {ops : Array Oper} {rest : List Oper} {o : Oper} {a : Act} {w : World} {Q : Exit → Act → World → Prop}
/-- The bytes of a text lie in a row. -/
def LB (w : World) (g : Nat) (l : List UInt8) : Prop := ∀ j x, l[j]? = some x → w.cell? ⟨g, j, none⟩ = some (.int .u8 (x.toNat : Int))
theorem LB.kept {S : List Nat} {w w' : World} {g : Nat} {l : List UInt8} (h : LB w g l) (hk : Kept S w w') (hg : g ∉ S) : LB w' g l := fun j x hj => hk.cell (h j x hj) hg
theorem wpList_conv_bytes (hgd : o.guard = none) (src dst e : TypeId) (x : Operand) (ho : o.op = .convert src dst x) {u : TypeDesc} (hs : P.underlying src = some u) (hd : P.underlying dst = some (.slice e)) (he : P.underlying e = some (.int .u8))
    (l : List UInt8) (hx : a.eval x = .string (bstr l))
    (h : ∀ (cap : Nat) (w' : World), LB w' w.heap.size l → w.heap.size < w'.heap.size → Kept [] w w' → wpList P ops Q rest (a.put o.dst (.slice (some ⟨w.heap.size, 0, none⟩) l.length cap)) w') : wpList P ops Q (o :: rest) a w := by
  refine wpList_plain hgd fun K hK => ?_
  have hr := Lib.run_convert_string_bytes (P := P) w src dst e (bstr l) hs hd he
  have hz : (bstr l).size = l.length := by simp [bstr, ByteArray.size]
  unfold Oper.wp execOp
  simp only [ho, hx, Sem.run_bind, Sem.run_pure, hr, Result.andThen_ok]
  refine hK _ _ ?_
  rw [hz]
  refine h _ _ (fun j x hj => ?_) ?_ (Below.kept (Lib.bytesWorld_below w e (bstr l)) [])
  · obtain ⟨hlt, hjx⟩ := List.getElem?_eq_some_iff.1 hj
    rw [Lib.bytesWorld_cell w e (bstr l) j (by rw [hz]; exact hlt)]
    simp [bstr, List.getD, hj]
  · rw [Lib.bytesWorld_size]; omega
end
section
variable {P : Program} (w : World)
/-- An append looks at the type of its second argument only to see that it is a slice. -/
theorem run_append_types (t t' ty e e' : TypeId) (ht : P.underlying t = some (.slice e)) (ht' : P.underlying t' = some (.slice e')) (i : TypeInfo) (hi : P.info? e = some i) (args : Array Value) :
    (Builtin.append_ #[t, t'] ty args).run P w = (Builtin.append_ #[t, t] ty args).run P w := by
  cases hs : args[0]? with
  | none => simp [Builtin.append_, hs]
  | some s =>
    cases hx : args[1]? with
    | none => simp [Builtin.append_, hs, hx]
    | some x => cases s <;> simp [Builtin.append_, hs, hx, run_underlying ht, run_underlying ht', sizeOf, typeInfo, hi]
theorem run_append2 (t ty e : TypeId) (i : TypeInfo) (z : Value) (size bytes : Nat) (ht : P.underlying t = some (.slice e)) (hi : P.info? e = some i) (hz : i.zero = some z)
    (hsize : i.size = size) (hby : i.bytes = bytes) (hzs : z.cells.size = size) (hsz : 0 < size)
    (v : Value) (n : Nat) (xs : List Value) (hown : w.ownsRow 0 e size v n xs)
    (a : Addr) (m c : Nat) (news : List Value) (hl : news.length = m * size) (hnews : ∀ j u, news[j]? = some u → w.cell? (a.add j) = some u) (h1 : ∀ u ∈ news, u.oneCell' = true)
    (hb : (n + m) * bytes ≤ 140737488355328) (h63 : n + m ≤ 140737488355328) :
    ∃ v' w', (Builtin.append_ #[t, t] ty #[v, .slice (some a) m c]).run P w = .ok v' w' ∧ w'.ownsRow 0 e size v' (n + m) (xs ++ news) ∧ w.grownBy w' v.ownBlock ∧
      (v'.ownBlock = v.ownBlock ∨ v'.ownBlock = some w.heap.size) := by
  have hmax : n + m ≤ maxLen := by unfold maxLen; omega
  rcases hown.2 with ⟨hv, hn0⟩ | ⟨g, cap, cur, hv, hg0, hg, hnc, hcm, hcs, htake⟩
  · have hown' : w.ownsRow w.heap.size e size v n xs := ⟨hown.1, .inl ⟨hv, hn0⟩⟩
    obtain ⟨v', w', hr, h2, h3, h4⟩ := run_append_own (P := P) w w.heap.size t ty e i z size bytes ht hi hz hsize hby hzs hsz v n xs hown' a m c news hl hnews h1 hmax hb (Nat.le_refl _)
    refine ⟨v', w', hr, ⟨h2.1, ?_⟩, h3, ?_⟩
    · rcases h2.2 with h | ⟨g', cap', cur', h5, _, h7⟩
      · exact .inl h
      · exact .inr ⟨g', cap', cur', h5, Nat.zero_le _, h7⟩
    · by_cases hm : m = 0
      · have : v' = .slice none 0 0 := h4.2 ⟨hv, hm⟩
        exact .inl (by rw [this, hv])
      · subst hv hn0 hsize hby
        have hx : xs = [] := List.eq_nil_of_length_eq_zero (by simpa using hown.1)
        subst hx
        have hr' := run_append_nil (P := P) w t ty e i z ht hi hz a m c news hl hnews (by omega) (by omega) (by simp only [Nat.zero_add] at hb; omega)
        rw [hr'] at hr
        simp only [Result.ok.injEq] at hr
        rw [← hr.1]
        exact .inr rfl
  · by_cases hroom : n + m ≤ cap
    · obtain ⟨v', w', hr, h2, h3, h4⟩ := run_append_own (P := P) w 0 t ty e i z size bytes ht hi hz hsize hby hzs hsz v n xs hown a m c news hl hnews h1 hmax hb (Nat.zero_le _)
      refine ⟨v', w', hr, h2, h3, ?_⟩
      subst hv hsize
      have hfit : n * i.size + news.length ≤ cur.size := by rw [hl, hcs, ← Nat.add_mul]; exact Nat.mul_le_mul_right _ hroom
      have hr' := run_append_room (P := P) w t ty e i ht hi g n cap cur hg a m c news hl hnews h1 hroom hfit
      rw [hr'] at hr
      simp only [Result.ok.injEq] at hr
      rw [← hr.1]
      exact .inl rfl
    · obtain ⟨v', w', hr, h2, h3, h4⟩ := run_append_own (P := P) w 0 t ty e i z size bytes ht hi hz hsize hby hzs hsz v n xs hown a m c news hl hnews h1 hmax hb (Nat.zero_le _)
      refine ⟨v', w', hr, h2, h3, ?_⟩
      subst hv hsize hby
      have holds : ∀ j u, xs[j]? = some u → w.cell? ((⟨g, 0, none⟩ : Addr).add j) = some u := hown.cells (g := g) rfl
      have hr' := run_append_grow (P := P) w t ty e i z ht hi hz ⟨g, 0, none⟩ n cap xs hown.1 holds a m c news hl hnews (by omega) (by unfold maxLen at hmax; omega) (growslice_fits (by omega) hb)
      rw [hr'] at hr
      simp only [Result.ok.injEq] at hr
      rw [← hr.1]
      exact .inr rfl
/-- Nothing is appended: the slice stays, wherever what is appended lies. -/
theorem run_append_zero (t ty e : TypeId) (i : TypeInfo) (ht : P.underlying t = some (.slice e)) (hi : P.info? e = some i) (base : Option Addr) (n cap : Nat) (h : n ≤ cap) (ao : Option Addr) (c : Nat) :
    (Builtin.append_ #[t, t] ty #[.slice base n cap, .slice ao 0 c]).run P w = .ok (.slice base n cap) w := by
  cases base <;> cases ao <;> simp [Builtin.append_, run_underlying ht, sizeOf, typeInfo, hi, Builtin.lenOf, h, Builtin.firstCells, loadCells, loadCellsFrom, storeCells]
theorem step_append2 {ops : Array Oper} {o : Oper} {a : Act} {K : Act → World → Prop} {Q : Exit → Act → World → Prop} {E : Prop} (hgd : o.guard = none) (s x : Operand) (t : TypeId)
    (ho : o.op = .call { callee := .builtin .append, args := #[s, x], argTypes := #[t, t] })
    (e : TypeId) (i : TypeInfo) (z : Value) (size bytes : Nat) (ht : P.underlying t = some (.slice e)) (hi : P.info? e = some i) (hz : i.zero = some z)
    (hsize : i.size = size) (hby : i.bytes = bytes) (hzs : z.cells.size = size) (hsz : 0 < size)
    (v : Value) (n : Nat) (xs : List Value) (hs : a.eval s = v) (hown : w.ownsRow 0 e size v n xs)
    (ad : Addr) (m c : Nat) (news : List Value) (hx : a.eval x = .slice (some ad) m c) (hl : news.length = m * size) (hnews : ∀ j u, news[j]? = some u → w.cell? (ad.add j) = some u) (h1 : ∀ u ∈ news, u.oneCell' = true)
    (hb : (n + m) * bytes ≤ 140737488355328) (h63 : n + m ≤ 140737488355328)
    (h : ∀ v' w', w'.ownsRow 0 e size v' (n + m) (xs ++ news) → w.grownBy w' v.ownBlock → (v'.ownBlock = v.ownBlock ∨ v'.ownBlock = some w.heap.size) → K (a.put o.dst v') w') :
    if Region.wanted o (yielded ops a.tmps) = true then Oper.wp P o a w K Q else E := by
  have hw : Region.wanted o (yielded ops a.tmps) = true := by simp [Region.wanted, hgd]
  rw [if_pos hw]
  obtain ⟨v', w', hr, h2, h3, h4⟩ := run_append2 (P := P) w t o.type e i z size bytes ht hi hz hsize hby hzs hsz v n xs hown ad m c news hl hnews h1 hb h63
  unfold Oper.wp execOp
  simp only [ho, resolve, invoke, builtin, Sem.run_bind, Sem.run_pure, Result.andThen_ok, List.map_toArray, List.map_cons, List.map_nil, hs, hx, hr]
  exact h v' w' h2 h3 h4
theorem wpList_append2 {ops : Array Oper} {rest : List Oper} {o : Oper} {a : Act} {Q : Exit → Act → World → Prop} (hgd : o.guard = none) (s x : Operand) (t t' : TypeId)
    (ho : o.op = .call { callee := .builtin .append, args := #[s, x], argTypes := #[t, t'] })
    (e e' : TypeId) (ht' : P.underlying t' = some (.slice e')) (i : TypeInfo) (z : Value) (size bytes : Nat) (ht : P.underlying t = some (.slice e)) (hi : P.info? e = some i) (hz : i.zero = some z)
    (hsize : i.size = size) (hby : i.bytes = bytes) (hzs : z.cells.size = size) (hsz : 0 < size)
    (v : Value) (n : Nat) (xs : List Value) (hs : a.eval s = v) (hown : w.ownsRow 0 e size v n xs)
    (ad : Addr) (m c : Nat) (news : List Value) (hx : a.eval x = .slice (some ad) m c) (hl : news.length = m * size) (hnews : ∀ j u, news[j]? = some u → w.cell? (ad.add j) = some u) (h1 : ∀ u ∈ news, u.oneCell' = true)
    (hb : (n + m) * bytes ≤ 140737488355328) (h63 : n + m ≤ 140737488355328)
    (h : ∀ v' w', w'.ownsRow 0 e size v' (n + m) (xs ++ news) → w.grownBy w' v.ownBlock → (v'.ownBlock = v.ownBlock ∨ v'.ownBlock = some w.heap.size) → wpList P ops Q rest (a.put o.dst v') w') :
    wpList P ops Q (o :: rest) a w :=
  wpList_plain hgd fun _ hK => by
    obtain ⟨v', w', hr, h2, h3, h4⟩ := run_append2 (P := P) w t o.type e i z size bytes ht hi hz hsize hby hzs hsz v n xs hown ad m c news hl hnews h1 hb h63
    rw [← run_append_types (P := P) w t t' _ e e' ht ht' i hi] at hr
    unfold Oper.wp execOp
    simp only [ho, resolve, invoke, builtin, Sem.run_bind, Sem.run_pure, Result.andThen_ok, List.map_toArray, List.map_cons, List.map_nil, hs, hx, hr]
    exact hK _ _ (h v' w' h2 h3 h4)
theorem wpList_append_zero {ops : Array Oper} {rest : List Oper} {o : Oper} {a : Act} {Q : Exit → Act → World → Prop} (hgd : o.guard = none) (s x : Operand) (t t' : TypeId)
    (ho : o.op = .call { callee := .builtin .append, args := #[s, x], argTypes := #[t, t'] })
    (e e' : TypeId) (ht' : P.underlying t' = some (.slice e')) (i : TypeInfo) (ht : P.underlying t = some (.slice e)) (hi : P.info? e = some i)
    (base : Option Addr) (n cap : Nat) (hs : a.eval s = .slice base n cap) (hc : n ≤ cap) (ao : Option Addr) (c : Nat) (hx : a.eval x = .slice ao 0 c)
    (h : wpList P ops Q rest (a.put o.dst (.slice base n cap)) w) : wpList P ops Q (o :: rest) a w :=
  wpList_plain hgd fun _ hK => by
    have hr := run_append_zero (P := P) w t o.type e i ht hi base n cap hc ao c
    rw [← run_append_types (P := P) w t t' _ e e' ht ht' i hi] at hr
    unfold Oper.wp execOp
    simp only [ho, resolve, invoke, builtin, Sem.run_bind, Sem.run_pure, Result.andThen_ok, List.map_toArray, List.map_cons, List.map_nil, hs, hx, hr]
    exact hK _ _ h
end
/-- A copy into a row that is known whole: the world behind it is told by what it holds. -/
theorem wpList_copy2 {P : Program} {w : World} {ops : Array Oper} {rest : List Oper} {o : Oper} {a : Act} {Q : Exit → Act → World → Prop} (hgd : o.guard = none) (d s : Operand) (dT sT : TypeId)
    (ho : o.op = .call { callee := .builtin .copy, args := #[d, s], argTypes := #[dT, sT] }) (elem : TypeId) (hu : P.underlying dT = some (.slice elem)) (hsz : (P.info? elem).map (·.size) = some 1)
    (g off dLen dCap : Nat) (ad : Addr) (sLen sCap : Nat) (hd : a.eval d = .slice (some ⟨g, off, none⟩) dLen dCap) (hs : a.eval s = .slice (some ad) sLen sCap)
    (cur : List Value) (t : TypeId) (hg : Blk w g cur.toArray t) (cs : List Value) (k : Nat) (hk : cs.length = k) (hn : k = min sLen dLen)
    (hsrc : ∀ j v, cs[j]? = some v → w.cell? (ad.add j) = some v) (hfit : off + k ≤ cur.length) (h1 : ∀ v ∈ cs, v.oneCell' = true)
    (h : ∀ w', Blk w' g (splice cur off cs).toArray t → Kept [g] w w' → wpList P ops Q rest (a.put o.dst (goInt k)) w') : wpList P ops Q (o :: rest) a w := by
  subst hk
  refine wpList_copy_own hgd d s dT sT ho elem hu hsz g off dLen dCap ad sLen sCap hd hs cur.toArray t hg cs hn hsrc (by simpa using hfit) h1 ?_
  refine h _ ?_ ((Kept.refl [g] w).setRow (by simp) _)
  exact setRow_heap w g cur.toArray _ t _ hg
end Go.Proofs.YtkcdakohmfodjaaGreat
