/-
  Lemmas on the way to the statement of YtkcdakohmfodjaaGreatMethodRead, joined out of these texts: Val, ValLaw. No condition.
-/
import Derived.Lib.Endian
import Derived.Test.YtkcdakohmfodjaaGreatMAB
import GoSem.Op.String
namespace Go.Proofs.YtkcdakohmfodjaaGreat
open Lib (beBytes)
set_option linter.unusedVariables false
set_option linter.unusedSimpArgs false
mutual
/-- A value of a field: its letter, a number, a fraction (its word), a scale, a text, its kids, its fields. -/
inductive Val where
  | mk (kind : UInt8) (n : Int) (f : Nat) (scale : Int) (text : List UInt8) (kids : List Val) (flds : List Fld)
/-- A field. -/
inductive Fld where
  | mk (name : List UInt8) (v : Val)
end
namespace Val
def kind : Val → UInt8 | .mk k .. => k
def scale : Val → Int | .mk _ _ _ s .. => s
def text : Val → List UInt8 | .mk _ _ _ _ t _ _ => t
def kids : Val → List Val | .mk _ _ _ _ _ k _ => k
def flds : Val → List Fld | .mk _ _ _ _ _ _ l => l
def zero : Val := .mk 0 0 0 0 [] [] []
end Val
namespace Fld
def name : Fld → List UInt8 | .mk n _ => n
def val : Fld → Val | .mk _ v => v
def zero : Fld := .mk [] Val.zero
end Fld
/-- The number of bits of a signed number's letter. -/
def bitsOf (k : UInt8) : Nat := if k = 98 then 8 else if k = 115 then 16 else if k = 73 then 32 else if k = 68 then 32 else 0
/-- A number in its letter's range. -/
def inBits (k : UInt8) (n : Int) : Bool := bitsOf k == 0 || (decide (-(2 : Int) ^ (bitsOf k - 1) ≤ n) && decide (n ≤ 2 ^ (bitsOf k - 1) - 1))
/-- A fraction as ProperValue has it. -/
def fracB (f : Nat) : Bool :=
  Ieee.double.order f 13920209183539462144 == some .gt && Ieee.double.order f 4696837146684686336 == some .lt && Ieee.double.order (Flt.mul8 f) (Flt.ofI (Flt.toI (Flt.mul8 f))) == some .eq &&
    (Ieee.double.order f 0 != some .eq || f == 0)
theorem fracB_nice {f : Nat} (h : fracB f = true) : Flt.Nice f := by
  unfold fracB at h
  simp only [Bool.and_eq_true, beq_iff_eq] at h
  exact ⟨h.1.1.1, h.1.1.2, h.1.2⟩
/-- What a letter asks of a value that holds no others. -/
def leafOk (k : UInt8) (n : Int) (f : Nat) (scale : Int) : Bool :=
  if k = 116 then decide (n = 0) || decide (n = 1)
  else if k = 66 then decide (0 ≤ n) && decide (n ≤ 255)
  else if k = 84 then decide (0 ≤ n) && decide (n < 1099511627776)
  else if k = 102 ∨ k = 100 then fracB f
  else if k = 68 then decide (0 ≤ scale) && decide (scale ≤ 255)
  else decide (k = 98 ∨ k = 115 ∨ k = 73 ∨ k = 108 ∨ k = 83 ∨ k = 120 ∨ k = 86)
mutual
/-- ProperValue: whether a value is one of its letter, and the room that is left. -/
def propV : Val → Nat → Int → Bool × Int
  | .mk k n f scale text kids flds, deep, room =>
    if room - (1 + text.length) < 0 ∨ deep = 0 then (false, room - (1 + text.length))
    else if inBits k n = false then (false, room - (1 + text.length))
    else if k = 65 then propL kids (deep - 1) (room - (1 + text.length))
    else if k = 70 then propFs flds none (deep - 1) (room - (1 + text.length))
    else (leafOk k n f scale, room - (1 + text.length))
def propL : List Val → Nat → Int → Bool × Int
  | [], _, room => (true, room)
  | v :: l, deep, room => if (propV v deep room).1 = true then propL l deep (propV v deep room).2 else (false, (propV v deep room).2)
/-- ProperTable, from a field on: 'prev' is the name ahead. -/
def propFs : List Fld → Option (List UInt8) → Nat → Int → Bool × Int
  | [], _, _, room => (true, room)
  | .mk name v :: l, prev, deep, room =>
    if name.length > 255 ∨ room - (1 + name.length) < 0 ∨ (∃ p, prev = some p ∧ Op.bytesLess p name = false) then (false, room - (1 + name.length))
    else if (propV v deep (room - (1 + name.length))).1 = true then propFs l (some name) deep (propV v deep (room - (1 + name.length))).2 else (false, (propV v deep (room - (1 + name.length))).2)
end
mutual
/-- The room that a proper value takes. -/
def costV : Val → Nat
  | .mk k n f scale text kids flds => 1 + text.length + (if k = 65 then costL kids else if k = 70 then costFs flds else 0)
def costL : List Val → Nat
  | [] => 0
  | v :: l => costV v + costL l
def costFs : List Fld → Nat
  | [] => 0
  | .mk name v :: l => 1 + name.length + costV v + costFs l
end
mutual
/-- A value of its letter, of some depth at most. -/
def OkV : Val → Nat → Prop
  | .mk k n f scale text kids flds, deep => deep ≠ 0 ∧ inBits k n = true ∧ (if k = 65 then OkL kids (deep - 1) else if k = 70 then OkFs flds none (deep - 1) else leafOk k n f scale = true)
def OkL : List Val → Nat → Prop
  | [], _ => True
  | v :: l, deep => OkV v deep ∧ OkL l deep
def OkFs : List Fld → Option (List UInt8) → Nat → Prop
  | [], _, _ => True
  | .mk name v :: l, prev, deep => name.length ≤ 255 ∧ (∀ p, prev = some p → Op.bytesLess p name = true) ∧ OkV v deep ∧ OkFs l (some name) deep
end
mutual
theorem propV_iff (v : Val) (deep : Nat) (room r : Int) : propV v deep room = (true, r) ↔ OkV v deep ∧ (costV v : Int) ≤ room ∧ r = room - costV v := by
  cases v with
  | mk k n f scale text kids flds =>
    unfold propV OkV costV
    have hL := propL_iff kids (deep - 1) (room - (1 + text.length)) r
    have hF := propFs_iff flds none (deep - 1) (room - (1 + text.length)) r
    by_cases h1 : room - (1 + text.length) < 0 ∨ deep = 0
    · rw [if_pos h1]
      simp only [Prod.mk.injEq, Bool.false_eq_true, false_and, false_iff, not_and]
      rintro ⟨h2, _⟩ h3
      rcases h1 with h1 | h1
      · omega
      · exact absurd h1 h2
    · rw [if_neg h1]
      have hd : deep ≠ 0 := fun e => h1 (.inr e)
      by_cases h2 : inBits k n = false
      · rw [if_pos h2]
        simp [h2]
      · have h2' : inBits k n = true := by simpa using h2
        rw [if_neg h2]
        by_cases h3 : k = 65
        · rw [if_pos h3, if_pos h3, if_pos h3, hL]
          constructor
          · rintro ⟨a, b, _, rfl⟩; exact ⟨⟨hd, h2', a⟩, by omega, by omega⟩
          · rintro ⟨⟨_, _, a⟩, b, rfl⟩; exact ⟨a, fun _ => by omega, fun _ => by omega, by omega⟩
        · rw [if_neg h3, if_neg h3, if_neg h3]
          by_cases h4 : k = 70
          · rw [if_pos h4, if_pos h4, if_pos h4, hF]
            constructor
            · rintro ⟨a, b, _, rfl⟩; exact ⟨⟨hd, h2', a⟩, by omega, by omega⟩
            · rintro ⟨⟨_, _, a⟩, b, rfl⟩; exact ⟨a, fun _ => by omega, fun _ => by omega, by omega⟩
          · rw [if_neg h4, if_neg h4, if_neg h4]
            simp only [Prod.mk.injEq]
            constructor
            · rintro ⟨a, rfl⟩; exact ⟨⟨hd, h2', a⟩, by omega, by omega⟩
            · rintro ⟨⟨_, _, a⟩, b, rfl⟩; exact ⟨a, by omega⟩
theorem propL_iff (l : List Val) (deep : Nat) (room r : Int) : propL l deep room = (true, r) ↔ OkL l deep ∧ (0 ≤ room → (costL l : Int) ≤ room) ∧ (l ≠ [] → (costL l : Int) ≤ room) ∧ r = room - costL l := by
  cases l with
  | nil => simp [propL, OkL, costL, eq_comm]
  | cons v l =>
    unfold propL OkL costL
    have hV := propV_iff v deep room (propV v deep room).2
    by_cases h1 : (propV v deep room).1 = true
    · rw [if_pos h1]
      obtain ⟨a, b, c⟩ := hV.1 (by rw [← h1])
      rw [propL_iff l]
      rw [c]
      constructor
      · rintro ⟨d, e, f, g⟩; exact ⟨⟨a, d⟩, fun _ => by have := e (by omega); omega, fun _ => by have := e (by omega); omega, by omega⟩
      · rintro ⟨⟨_, d⟩, e, f, g⟩; exact ⟨d, fun _ => by have := f (by simp); omega, fun _ => by have := f (by simp); omega, by omega⟩
    · rw [if_neg h1]
      simp only [Prod.mk.injEq, Bool.false_eq_true, false_and, false_iff, not_and]
      rintro ⟨a, b⟩ c d _
      have d := d (by simp)
      have := (propV_iff v deep room (room - costV v)).2 ⟨a, by omega, rfl⟩
      rw [this] at h1
      exact h1 rfl
theorem propFs_iff (l : List Fld) (prev : Option (List UInt8)) (deep : Nat) (room r : Int) : propFs l prev deep room = (true, r) ↔ OkFs l prev deep ∧ (0 ≤ room → (costFs l : Int) ≤ room) ∧ (l ≠ [] → (costFs l : Int) ≤ room) ∧ r = room - costFs l := by
  cases l with
  | nil => simp [propFs, OkFs, costFs, eq_comm]
  | cons x l =>
    cases x with
    | mk name v =>
      unfold propFs OkFs costFs
      have hV := propV_iff v deep (room - (1 + name.length)) (propV v deep (room - (1 + name.length))).2
      by_cases h0 : name.length > 255 ∨ room - (1 + name.length) < 0 ∨ (∃ p, prev = some p ∧ Op.bytesLess p name = false)
      · rw [if_pos h0]
        simp only [Prod.mk.injEq, Bool.false_eq_true, false_and, false_iff, not_and]
        rintro ⟨a, b, _⟩ _ c
        have c := c (by simp)
        rcases h0 with h0 | h0 | ⟨p, h0, h0'⟩
        · omega
        · omega
        · have := b p h0; rw [h0'] at this; cases this
      · rw [if_neg h0]
        have n1 : name.length ≤ 255 := Nat.le_of_not_lt fun h => h0 (.inl h)
        have n2 : ∀ p, prev = some p → Op.bytesLess p name = true := fun p hp => by
          cases h : Op.bytesLess p name with
          | true => rfl
          | false => exact absurd (.inr (.inr ⟨p, hp, h⟩)) h0
        by_cases h1 : (propV v deep (room - (1 + name.length))).1 = true
        · rw [if_pos h1]
          obtain ⟨a, b, c⟩ := hV.1 (by rw [← h1])
          rw [propFs_iff l]
          rw [c]
          constructor
          · rintro ⟨d, e, f, g⟩; exact ⟨⟨n1, n2, a, d⟩, fun _ => by have := e (by omega); omega, fun _ => by have := e (by omega); omega, by omega⟩
          · rintro ⟨⟨_, _, _, d⟩, e, f, g⟩; exact ⟨d, fun _ => by have := f (by simp); omega, fun _ => by have := f (by simp); omega, by omega⟩
        · rw [if_neg h1]
          simp only [Prod.mk.injEq, Bool.false_eq_true, false_and, false_iff, not_and]
          rintro ⟨_, _, a, b⟩ c d _
          have d := d (by simp)
          have := (propV_iff v deep (room - (1 + name.length)) (room - (1 + name.length) - costV v)).2 ⟨a, by omega, rfl⟩
          rw [this] at h1
          exact h1 rfl
end
/-- Fits: a table that is compared. -/
def fitsB (l : List Fld) : Bool := (propFs l none 6 2000).1
theorem fitsB_iff (l : List Fld) : fitsB l = true ↔ OkFs l none 6 ∧ costFs l ≤ 2000 := by
  unfold fitsB
  have h := propFs_iff l none 6 2000 (propFs l none 6 2000).2
  constructor
  · intro e
    obtain ⟨a, b, _, _⟩ := h.1 (by rw [← e])
    exact ⟨a, by have := b (by decide); omega⟩
  · rintro ⟨a, b⟩
    have := (propFs_iff l none 6 2000 (2000 - costFs l)).2 ⟨a, fun _ => by omega, fun _ => by omega, rfl⟩
    rw [this]
/-- A number as an uint64. -/
def u64 (n : Int) : Nat := (n % 18446744073709551616).toNat
mutual
def encV : Val → List UInt8
  | .mk k n f scale text kids flds => k ::
    (if k = 65 then beBytes 4 (encL kids).length ++ encL kids
     else if k = 70 then beBytes 4 (encFs flds).length ++ encFs flds
     else if k = 83 ∨ k = 120 then beBytes 4 text.length ++ text
     else if k = 116 ∨ k = 98 ∨ k = 66 then beBytes 1 (u64 n)
     else if k = 115 then beBytes 2 (u64 n)
     else if k = 73 then beBytes 4 (u64 n)
     else if k = 108 ∨ k = 84 then beBytes 8 (u64 n)
     else if k = 102 then beBytes 4 (Flt.toS f)
     else if k = 100 then beBytes 8 f
     else if k = 68 then beBytes 1 (u64 scale) ++ beBytes 4 (u64 n)
     else [])
def encL : List Val → List UInt8
  | [] => []
  | v :: l => encV v ++ encL l
def encFs : List Fld → List UInt8
  | [] => []
  | .mk name v :: l => beBytes 1 name.length ++ name ++ encV v ++ encFs l
end
/-- The bytes of a table: its length ahead. -/
def encT (l : List Fld) : List UInt8 := beBytes 4 (encFs l).length ++ encFs l
mutual
/-- What stays of a value that is written and read. -/
def normV : Val → Val
  | .mk k n f scale text kids flds =>
    if k = 65 then .mk k 0 0 0 [] (normL kids) []
    else if k = 70 then .mk k 0 0 0 [] [] (normFs flds)
    else if k = 83 ∨ k = 120 then .mk k 0 0 0 text [] []
    else if k = 102 ∨ k = 100 then .mk k 0 f 0 [] [] []
    else if k = 68 then .mk k n 0 scale [] [] []
    else if k = 86 then .mk k 0 0 0 [] [] []
    else .mk k n 0 0 [] [] []
def normL : List Val → List Val
  | [] => []
  | v :: l => normV v :: normL l
def normFs : List Fld → List Fld
  | [] => []
  | .mk name v :: l => .mk name (normV v) :: normFs l
end
mutual
theorem enc_norm (v : Val) : encV (normV v) = encV v := by
  cases v with
  | mk k n f scale text kids flds =>
    unfold normV
    by_cases h1 : k = 65
    · rw [if_pos h1]; subst h1; unfold encV; simp [enc_normL kids]
    rw [if_neg h1]
    by_cases h2 : k = 70
    · rw [if_pos h2]; subst h2; unfold encV; simp [enc_normFs flds]
    rw [if_neg h2]
    by_cases h3 : k = 83 ∨ k = 120
    · rw [if_pos h3]; unfold encV; simp [h1, h2, h3]
    rw [if_neg h3]
    by_cases h4 : k = 102 ∨ k = 100
    · rw [if_pos h4]; unfold encV; rcases h4 with rfl | rfl <;> simp
    rw [if_neg h4]
    by_cases h5 : k = 68
    · rw [if_pos h5]; subst h5; unfold encV; simp
    rw [if_neg h5]
    by_cases h6 : k = 86
    · rw [if_pos h6]; subst h6; unfold encV; simp
    rw [if_neg h6]
    have a1 : k ≠ 102 := fun e => h4 (.inl e)
    have a2 : k ≠ 100 := fun e => h4 (.inr e)
    unfold encV; simp [h1, h2, h3, h5, a1, a2]
theorem enc_normL (l : List Val) : encL (normL l) = encL l := by
  cases l with
  | nil => rfl
  | cons v l => unfold normL encL; rw [enc_norm v, enc_normL l]
theorem enc_normFs (l : List Fld) : encFs (normFs l) = encFs l := by
  cases l with
  | nil => rfl
  | cons x l =>
    cases x with
    | mk name v => unfold normFs encFs; rw [enc_norm v, enc_normFs l]
end
theorem encT_norm (l : List Fld) : encT (normFs l) = encT l := by unfold encT; rw [enc_normFs]
theorem inBits_zero (k : UInt8) : inBits k 0 = true := by
  unfold inBits bitsOf
  split
  · decide
  split
  · decide
  split
  · decide
  split <;> decide
mutual
theorem ok_norm (v : Val) (d : Nat) (h : OkV v d) : OkV (normV v) d := by
  cases v with
  | mk k n f scale text kids flds =>
    unfold OkV at h
    obtain ⟨hd, hb, hk⟩ := h
    unfold normV
    by_cases h1 : k = 65
    · rw [if_pos h1] at hk ⊢
      unfold OkV
      rw [if_pos h1]
      exact ⟨hd, inBits_zero k, ok_normL kids _ hk⟩
    rw [if_neg h1] at hk ⊢
    by_cases h2 : k = 70
    · rw [if_pos h2] at hk ⊢
      unfold OkV
      rw [if_neg h1, if_pos h2]
      exact ⟨hd, inBits_zero k, ok_normFs flds _ _ hk⟩
    rw [if_neg h2] at hk ⊢
    by_cases h3 : k = 83 ∨ k = 120
    · rw [if_pos h3]
      unfold OkV
      rw [if_neg h1, if_neg h2]
      refine ⟨hd, inBits_zero k, ?_⟩
      rcases h3 with rfl | rfl <;> rfl
    rw [if_neg h3]
    by_cases h4 : k = 102 ∨ k = 100
    · rw [if_pos h4]
      unfold OkV
      rw [if_neg h1, if_neg h2]
      refine ⟨hd, inBits_zero k, ?_⟩
      rcases h4 with rfl | rfl <;> exact hk
    rw [if_neg h4]
    by_cases h5 : k = 68
    · rw [if_pos h5]
      unfold OkV
      rw [if_neg h1, if_neg h2]
      refine ⟨hd, hb, ?_⟩
      subst h5; exact hk
    rw [if_neg h5]
    by_cases h6 : k = 86
    · rw [if_pos h6]
      unfold OkV
      rw [if_neg h1, if_neg h2]
      refine ⟨hd, inBits_zero k, ?_⟩
      subst h6; rfl
    rw [if_neg h6]
    unfold OkV
    rw [if_neg h1, if_neg h2]
    refine ⟨hd, hb, ?_⟩
    unfold leafOk at hk ⊢
    rw [if_neg h4, if_neg h5] at hk ⊢
    exact hk
theorem ok_normL (l : List Val) (d : Nat) (h : OkL l d) : OkL (normL l) d := by
  cases l with
  | nil => trivial
  | cons v l => unfold OkL at h; unfold normL OkL; exact ⟨ok_norm v d h.1, ok_normL l d h.2⟩
theorem ok_normFs (l : List Fld) (p : Option (List UInt8)) (d : Nat) (h : OkFs l p d) : OkFs (normFs l) p d := by
  cases l with
  | nil => trivial
  | cons x l =>
    cases x with
    | mk name v =>
      unfold OkFs at h; unfold normFs OkFs; exact ⟨h.1, h.2.1, ok_norm v d h.2.2.1, ok_normFs l _ d h.2.2.2⟩
end
mutual
theorem cost_norm (v : Val) : costV (normV v) ≤ costV v := by
  cases v with
  | mk k n f scale text kids flds =>
    unfold normV costV
    by_cases h1 : k = 65
    · have := cost_normL kids
      simp only [if_pos h1]
      simp; omega
    by_cases h2 : k = 70
    · have := cost_normFs flds
      simp only [if_neg h1, if_pos h2]
      simp; omega
    by_cases h3 : k = 83 ∨ k = 120
    · simp only [if_neg h1, if_neg h2, if_pos h3]; simp
    by_cases h4 : k = 102 ∨ k = 100
    · simp only [if_neg h1, if_neg h2, if_neg h3, if_pos h4]; simp
    by_cases h5 : k = 68
    · simp only [if_neg h1, if_neg h2, if_neg h3, if_neg h4, if_pos h5]; simp
    by_cases h6 : k = 86
    · simp only [if_neg h1, if_neg h2, if_neg h3, if_neg h4, if_neg h5, if_pos h6]; simp
    · simp only [if_neg h1, if_neg h2, if_neg h3, if_neg h4, if_neg h5, if_neg h6]; simp
theorem cost_normL (l : List Val) : costL (normL l) ≤ costL l := by
  cases l with
  | nil => exact Nat.le_refl _
  | cons v l => unfold normL costL; have := cost_norm v; have := cost_normL l; omega
theorem cost_normFs (l : List Fld) : costFs (normFs l) ≤ costFs l := by
  cases l with
  | nil => exact Nat.le_refl _
  | cons x l => cases x with | mk name v => unfold normFs costFs; have := cost_norm v; have := cost_normFs l; omega
end
mutual
/-- laws.value. -/
def convV : Val → Nat → Int → Val × Int
  | .mk k n f scale text kids flds, deep, room =>
    if room - (1 + text.length) < 0 ∨ deep = 0 then (Val.zero, room - (1 + text.length))
    else match convL kids (deep - 1) (convFs flds (deep - 1) (room - (1 + text.length))).2 with
      | (none, r) => (Val.zero, r)
      | (some ks, r) => (.mk k n f scale text ks ((convFs flds (deep - 1) (room - (1 + text.length))).1.getD [Fld.zero]), r)
def convL : List Val → Nat → Int → Option (List Val) × Int
  | [], _, room => (some [], room)
  | v :: l, deep, room =>
    if room < 0 then (none, room)
    else match convL l deep (convV v deep room).2 with
      | (none, r) => (none, r)
      | (some xs, r) => (some ((convV v deep room).1 :: xs), r)
/-- laws.fields, 'none' where it is cut. -/
def convFs : List Fld → Nat → Int → Option (List Fld) × Int
  | [], _, room => (some [], room)
  | .mk name v :: l, deep, room =>
    if (convV v deep (room - name.length)).2 < 0 then (none, (convV v deep (room - name.length)).2)
    else match convFs l deep (convV v deep (room - name.length)).2 with
      | (none, r) => (none, r)
      | (some xs, r) => (some (.mk name (convV v deep (room - name.length)).1 :: xs), r)
end
/-- laws.table: the cut copy of a table. -/
def convT (l : List Fld) : List Fld := (convFs l 10 4000).1.getD [Fld.zero]
mutual
def ccV : Val → Nat
  | .mk k n f scale text kids flds => 1 + text.length + ccL kids + ccFs flds
def ccL : List Val → Nat
  | [] => 0
  | v :: l => ccV v + ccL l
def ccFs : List Fld → Nat
  | [] => 0
  | .mk name v :: l => name.length + ccV v + ccFs l
end
mutual
theorem cc_norm (v : Val) : ccV (normV v) ≤ costV v := by
  cases v with
  | mk k n f scale text kids flds =>
    unfold normV costV
    by_cases h1 : k = 65
    · have := cc_normL kids
      simp only [if_pos h1, ccV, ccFs]
      simp; omega
    by_cases h2 : k = 70
    · have := cc_normFs flds
      simp only [if_neg h1, if_pos h2, ccV, ccL]
      simp; omega
    by_cases h3 : k = 83 ∨ k = 120
    · simp only [if_neg h1, if_neg h2, if_pos h3, ccV, ccL, ccFs]; simp
    by_cases h4 : k = 102 ∨ k = 100
    · simp only [if_neg h1, if_neg h2, if_neg h3, if_pos h4, ccV, ccL, ccFs]; simp <;> omega
    by_cases h5 : k = 68
    · simp only [if_neg h1, if_neg h2, if_neg h3, if_neg h4, if_pos h5, ccV, ccL, ccFs]; simp <;> omega
    by_cases h6 : k = 86
    · simp only [if_neg h1, if_neg h2, if_neg h3, if_neg h4, if_neg h5, if_pos h6, ccV, ccL, ccFs]; simp <;> omega
    · simp only [if_neg h1, if_neg h2, if_neg h3, if_neg h4, if_neg h5, if_neg h6, ccV, ccL, ccFs]; simp <;> omega
theorem cc_normL (l : List Val) : ccL (normL l) ≤ costL l := by
  cases l with
  | nil => exact Nat.le_refl _
  | cons v l => unfold normL ccL costL; have := cc_norm v; have := cc_normL l; omega
theorem cc_normFs (l : List Fld) : ccFs (normFs l) ≤ costFs l := by
  cases l with
  | nil => exact Nat.le_refl _
  | cons x l => cases x with | mk name v => unfold normFs ccFs costFs; have := cc_norm v; have := cc_normFs l; omega
end
mutual
/-- The depth, all that is held counted. -/
def depV : Val → Nat
  | .mk k n f scale text kids flds => 1 + max (depL kids) (depFs flds)
def depL : List Val → Nat
  | [] => 0
  | v :: l => max (depV v) (depL l)
def depFs : List Fld → Nat
  | [] => 0
  | .mk name v :: l => max (depV v) (depFs l)
end
mutual
theorem dep_norm (v : Val) (d : Nat) (h : OkV v d) : depV (normV v) ≤ d := by
  cases v with
  | mk k n f scale text kids flds =>
    unfold OkV at h
    obtain ⟨hd, hb, hk⟩ := h
    unfold normV
    by_cases h1 : k = 65
    · rw [if_pos h1] at hk ⊢
      have := dep_normL kids _ hk
      simp only [depV, depFs]; omega
    rw [if_neg h1] at hk ⊢
    by_cases h2 : k = 70
    · rw [if_pos h2] at hk ⊢
      have := dep_normFs flds _ _ hk
      simp only [depV, depL]; omega
    rw [if_neg h2] at hk ⊢
    repeat' split
    all_goals simp only [depV, depL, depFs]; omega
theorem dep_normL (l : List Val) (d : Nat) (h : OkL l d) : depL (normL l) ≤ d := by
  cases l with
  | nil => exact Nat.zero_le _
  | cons v l => unfold OkL at h; have := dep_norm v d h.1; have := dep_normL l d h.2; simp only [normL, depL]; omega
theorem dep_normFs (l : List Fld) (p : Option (List UInt8)) (d : Nat) (h : OkFs l p d) : depFs (normFs l) ≤ d := by
  cases l with
  | nil => exact Nat.zero_le _
  | cons x l =>
    cases x with
    | mk name v => unfold OkFs at h; have := dep_norm v d h.2.2.1; have := dep_normFs l _ d h.2.2.2; simp only [normFs, depFs]; omega
end
mutual
theorem conv_id (v : Val) (d : Nat) (room : Int) (hd : depV v ≤ d) (hr : (ccV v : Int) ≤ room) : convV v d room = (v, room - ccV v) := by
  cases v with
  | mk k n f scale text kids flds =>
    simp only [depV] at hd
    simp only [ccV] at hr
    unfold convV
    rw [if_neg (by omega)]
    rw [conv_idFs flds (d - 1) _ (by omega) (by omega)]
    rw [conv_idL kids (d - 1) _ (by omega) (by dsimp only; omega)]
    simp only [Option.getD_some, ccV, Prod.mk.injEq, true_and]
    omega
theorem conv_idL (l : List Val) (d : Nat) (room : Int) (hd : depL l ≤ d) (hr : (ccL l : Int) ≤ room) : convL l d room = (some l, room - ccL l) := by
  cases l with
  | nil => simp [convL, ccL]
  | cons v l =>
    simp only [depL] at hd
    simp only [ccL] at hr
    unfold convL
    rw [if_neg (by omega), conv_id v d room (by omega) (by omega)]
    rw [conv_idL l d _ (by omega) (by dsimp only; omega)]
    simp only [ccL, Prod.mk.injEq, true_and]
    omega
theorem conv_idFs (l : List Fld) (d : Nat) (room : Int) (hd : depFs l ≤ d) (hr : (ccFs l : Int) ≤ room) : convFs l d room = (some l, room - ccFs l) := by
  cases l with
  | nil => simp [convFs, ccFs]
  | cons x l =>
    cases x with
    | mk name v =>
      simp only [depFs] at hd
      simp only [ccFs] at hr
      unfold convFs
      rw [conv_id v d _ (by omega) (by omega)]
      rw [if_neg (by dsimp only; omega)]
      rw [conv_idFs l d _ (by omega) (by dsimp only; omega)]
      simp only [ccFs, Prod.mk.injEq, true_and]
      omega
end
/-- The cut copy of what stays of a table that fits: the same. -/
theorem convT_norm (l : List Fld) (h : fitsB l = true) : convT (normFs l) = normFs l := by
  obtain ⟨h1, h2⟩ := (fitsB_iff l).1 h
  have := dep_normFs l _ _ h1
  have := cc_normFs l
  unfold convT
  rw [conv_idFs (normFs l) 10 4000 (by omega) (by omega)]
  rfl
theorem fits_norm (l : List Fld) (h : fitsB l = true) : fitsB (normFs l) = true := by
  obtain ⟨h1, h2⟩ := (fitsB_iff l).1 h
  have := cost_normFs l
  exact (fitsB_iff _).2 ⟨ok_normFs l _ _ h1, by omega⟩
mutual
theorem encV_len (v : Val) : (encV v).length ≤ 9 * costV v := by
  cases v with
  | mk k n f scale text kids flds =>
    unfold encV costV
    by_cases h1 : k = 65
    · have := encL_len kids
      simp only [if_pos h1, List.length_cons, List.length_append, Lib.beBytes_length]; omega
    by_cases h2 : k = 70
    · have := encFs_len flds
      simp only [if_neg h1, if_pos h2, List.length_cons, List.length_append, Lib.beBytes_length]; omega
    simp only [if_neg h1, if_neg h2]
    repeat' split
    all_goals simp only [List.length_cons, List.length_append, Lib.beBytes_length, List.length_nil]; omega
theorem encL_len (l : List Val) : (encL l).length ≤ 9 * costL l := by
  cases l with
  | nil => simp [encL]
  | cons v l => have := encV_len v; have := encL_len l; simp only [encL, costL, List.length_append]; omega
theorem encFs_len (l : List Fld) : (encFs l).length ≤ 9 * costFs l := by
  cases l with
  | nil => simp [encFs]
  | cons x l =>
    cases x with
    | mk name v => have := encV_len v; have := encFs_len l; simp only [encFs, costFs, List.length_append, Lib.beBytes_length]; omega
end
theorem encT_len (l : List Fld) (h : fitsB l = true) : (encT l).length ≤ 18004 := by
  obtain ⟨h1, h2⟩ := (fitsB_iff l).1 h
  have := encFs_len l
  simp only [encT, List.length_append, Lib.beBytes_length]; omega
end Go.Proofs.YtkcdakohmfodjaaGreat
