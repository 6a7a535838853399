/-
  Lemmas on the way to the statement of YtkcdakohmfodjaaGreatHeader, joined out of these texts: Cnv. No condition.
-/
import Derived.Test.YtkcdakohmfodjaaGreatNValLaw
namespace Go.Proofs.YtkcdakohmfodjaaGreat
set_option linter.unusedVariables false
set_option linter.unusedSimpArgs false
theorem not_ok_zero (k : Nat) : ¬ OkV Val.zero k := by
  unfold Val.zero OkV
  rintro ⟨_, _, h⟩
  rw [if_neg (by decide), if_neg (by decide)] at h
  exact absurd h (by decide)
theorem not_ok_zeroF (p : Option (List UInt8)) (k : Nat) : ¬ OkFs [Fld.zero] p k := by
  unfold Fld.zero OkFs
  rintro ⟨_, _, h, _⟩
  exact not_ok_zero k h
mutual
theorem ok_conv (v : Val) (d k : Nat) (r : Int) (h : OkV (convV v d r).1 k) (hk : k ≤ d) : OkV v k ∧ normV (convV v d r).1 = normV v ∧ costV (convV v d r).1 = costV v := by
  cases v with
  | mk kd n f sc text kids flds =>
    have iF := ok_convFs flds (d - 1) (k - 1) (r - (1 + text.length)) none
    have iL := ok_convL kids (d - 1) (k - 1) (convFs flds (d - 1) (r - (1 + text.length))).2
    unfold convV at h ⊢
    split at h
    · exact absurd h (not_ok_zero k)
    · rename_i hc
      rw [if_neg hc]
      split at h
      · exact absurd h (not_ok_zero k)
      · rename_i ks r' hks
        rw [hks] at iL
        unfold OkV at h ⊢
        obtain ⟨h1, h2, h3⟩ := h
        by_cases h65 : kd = 65
        · rw [if_pos h65] at h3
          obtain ⟨j1, j2, j3⟩ := iL ks rfl h3 (by omega)
          refine ⟨⟨h1, h2, by rw [if_pos h65]; exact j1⟩, ?_, ?_⟩
          · unfold normV; rw [if_pos h65, if_pos h65, j2]
          · unfold costV; rw [if_pos h65, if_pos h65, j3]
        rw [if_neg h65] at h3
        by_cases h70 : kd = 70
        · rw [if_pos h70] at h3
          cases hf : (convFs flds (d - 1) (r - (1 + text.length))).1 with
          | none => rw [hf] at h3; exact absurd h3 (not_ok_zeroF _ _)
          | some fs =>
            rw [hf] at h3
            obtain ⟨j1, j2, j3⟩ := iF fs hf h3 (by omega)
            refine ⟨⟨h1, h2, by rw [if_neg h65, if_pos h70]; exact j1⟩, ?_, ?_⟩
            · unfold normV; rw [if_neg h65, if_neg h65, if_pos h70, if_pos h70, Option.getD_some, j2]
            · unfold costV; rw [if_neg h65, if_neg h65, if_pos h70, if_pos h70, Option.getD_some, j3]
        rw [if_neg h70] at h3
        refine ⟨⟨h1, h2, by rw [if_neg h65, if_neg h70]; exact h3⟩, ?_, ?_⟩
        · unfold normV; rw [if_neg h65, if_neg h65, if_neg h70, if_neg h70]
        · unfold costV; rw [if_neg h65, if_neg h65, if_neg h70, if_neg h70]
theorem ok_convL (l : List Val) (d k : Nat) (r : Int) (l' : List Val) (he : (convL l d r).1 = some l') (h : OkL l' k) (hk : k ≤ d) : OkL l k ∧ normL l' = normL l ∧ costL l' = costL l := by
  cases l with
  | nil => unfold convL at he; simp only [Option.some.injEq] at he; subst he; exact ⟨h, rfl, rfl⟩
  | cons v l =>
    have i1 := ok_conv v d k r
    have i2 := ok_convL l d k (convV v d r).2
    unfold convL at he
    split at he
    · cases he
    · split at he
      · cases he
      · rename_i xs r' hx
        rw [hx] at i2
        simp only [Option.some.injEq] at he
        subst he
        unfold OkL at h ⊢
        obtain ⟨a1, a2, a3⟩ := i1 h.1 hk
        obtain ⟨b1, b2, b3⟩ := i2 xs rfl h.2 hk
        refine ⟨⟨a1, b1⟩, ?_, ?_⟩
        · unfold normL; rw [a2, b2]
        · unfold costL; rw [a3, b3]
theorem ok_convFs (l : List Fld) (d k : Nat) (r : Int) (p : Option (List UInt8)) (l' : List Fld) (he : (convFs l d r).1 = some l') (h : OkFs l' p k) (hk : k ≤ d) : OkFs l p k ∧ normFs l' = normFs l ∧ costFs l' = costFs l := by
  cases l with
  | nil => unfold convFs at he; simp only [Option.some.injEq] at he; subst he; exact ⟨h, rfl, rfl⟩
  | cons x l =>
    cases x with
    | mk name v =>
      have i1 := ok_conv v d k (r - name.length)
      have i2 := ok_convFs l d k (convV v d (r - name.length)).2 (some name)
      unfold convFs at he
      split at he
      · cases he
      · split at he
        · cases he
        · rename_i xs r' hx
          rw [hx] at i2
          simp only [Option.some.injEq] at he
          subst he
          unfold OkFs at h ⊢
          obtain ⟨c1, c2, c3, c4⟩ := h
          obtain ⟨a1, a2, a3⟩ := i1 c3 hk
          obtain ⟨b1, b2, b3⟩ := i2 xs rfl c4 hk
          refine ⟨⟨c1, c2, a1, b1⟩, ?_, ?_⟩
          · unfold normFs; rw [a2, b2]
          · unfold costFs; rw [a3, b3]
end
theorem fits_conv (l : List Fld) (h : fitsB (convT l) = true) : fitsB l = true ∧ normFs (convT l) = normFs l := by
  obtain ⟨h1, h2⟩ := (fitsB_iff _).1 h
  unfold convT at h1 h2 ⊢
  cases hf : (convFs l 10 4000).1 with
  | none => rw [hf] at h1; exact absurd h1 (not_ok_zeroF _ _)
  | some l' =>
    rw [hf] at h1 h2
    simp only [Option.getD_some] at h1 h2 ⊢
    obtain ⟨a1, a2, a3⟩ := ok_convFs l 10 6 4000 none l' hf h1 (by omega)
    exact ⟨(fitsB_iff _).2 ⟨a1, by omega⟩, a2⟩
end Go.Proofs.YtkcdakohmfodjaaGreat
