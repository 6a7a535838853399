/-
  Lemmas on the way to the statement of YtkcdakohmfodjaaGreatMethodRead, joined out of these texts: Rdv, FrBody, Ms, SortF, Zaf. No condition.
-/
import Derived.Shelf.SlSortCmp.WholeK
import Derived.Test.YtkcdakohmfodjaaGreatMAE
import Derived.Test.YtkcdakohmfodjaaGreatMAH
import Derived.Test.YtkcdakohmfodjaaGreatMAL
import Derived.Test.YtkcdakohmfodjaaGreatNBrkWalk
import Derived.Test.YtkcdakohmfodjaaGreatNFmt
import Derived.Test.YtkcdakohmfodjaaGreatNRfv
namespace Go.Proofs.YtkcdakohmfodjaaGreat
open Go.RowKit
set_option linter.unusedVariables false
set_option linter.unusedSimpArgs false
theorem le_mod : ∀ (k v : Nat), Lib.leBytes k (v % 256 ^ k) = Lib.leBytes k v
  | 0, v => rfl
  | k + 1, v => by
    unfold Lib.leBytes
    have h1 : v % 256 ^ (k + 1) % 256 = v % 256 := by rw [Nat.pow_succ]; exact Nat.mod_mod_of_dvd v ⟨256 ^ k, by rw [Nat.mul_comm]⟩
    have h2 : v % 256 ^ (k + 1) / 256 = v / 256 % 256 ^ k := by rw [Nat.pow_succ, Nat.mul_comm]; exact Nat.mod_mul_right_div_self v 256 (256 ^ k)
    rw [h1, h2, le_mod k]
theorem be_cut (k v : Nat) : Lib.beBytes k (v % 256 ^ k) = Lib.beBytes k v := by unfold Lib.beBytes; rw [le_mod]
theorem be_mod (k v : Nat) : Lib.beNat (Lib.beBytes k v) = v % 256 ^ k := by
  rw [← be_cut]; exact Lib.beNat_beBytes k _ (Nat.mod_lt _ (Nat.pow_pos (by decide)))
theorem be_cut4 (v : Nat) : Lib.beBytes 4 (v % 4294967296) = Lib.beBytes 4 v := by have := be_cut 4 v; simpa using this
theorem be_single (v : Nat) : Lib.beBytes 1 v = [(v % 256).toUInt8] := rfl
theorem u64_int (n : Int) : (u64 n : Int) = n % 18446744073709551616 := by unfold u64; omega
theorem wrap_i8' (n : Int) : IntKind.i8.wrap n = (n + 128) % 256 - 128 := by simp [IntKind.wrap, IntKind.bits, IntKind.signed]; split <;> omega
theorem wrap_i16' (n : Int) : IntKind.i16.wrap n = (n + 32768) % 65536 - 32768 := by simp [IntKind.wrap, IntKind.bits, IntKind.signed]; split <;> omega
theorem w32_u64 (n : Int) (h0 : -2147483648 ≤ n) (h1 : n ≤ 2147483647) : wrap32 ((u64 n % 4294967296 : Nat) : Int) = n := by have hu := u64_int n; unfold wrap32; omega
theorem w8_u64 (n : Int) (h0 : -128 ≤ n) (h1 : n ≤ 127) : IntKind.i8.wrap ((Lib.beNat (Lib.beBytes 1 (u64 n)) : Nat) : Int) = n := by have hu := u64_int n; rw [wrap_i8', be_mod]; omega
theorem w16_u64 (n : Int) (h0 : -32768 ≤ n) (h1 : n ≤ 32767) : IntKind.i16.wrap ((Lib.beNat (Lib.beBytes 2 (u64 n)) : Nat) : Int) = n := by have hu := u64_int n; rw [wrap_i16', be_mod]; omega
theorem w32_be (n : Int) (h0 : -2147483648 ≤ n) (h1 : n ≤ 2147483647) : wrap32 ((Lib.beNat (Lib.beBytes 4 (u64 n)) : Nat) : Int) = n := by have hu := u64_int n; unfold wrap32; rw [be_mod]; omega
theorem w64_be (n : Int) (h0 : -9223372036854775808 ≤ n) (h1 : n ≤ 9223372036854775807) : wrap64 ((Lib.beNat (Lib.beBytes 8 (u64 n)) : Nat) : Int) = n := by have hu := u64_int n; unfold wrap64; rw [be_mod]; omega
theorem u64_pos (n : Int) (h0 : 0 ≤ n) (h1 : n < 18446744073709551616) : ((u64 n : Nat) : Int) = n := by have hu := u64_int n; omega
theorem u64_u8 (n : Int) (h0 : 0 ≤ n) (h1 : n ≤ 255) : ((u64 n % 256 : Nat) : Int) = n := by have hu := u64_int n; omega
theorem inBits_98 {n : Int} (h : inBits 98 n = true) : -128 ≤ n ∧ n ≤ 127 := by unfold inBits bitsOf at h; simp at h; omega
theorem inBits_115 {n : Int} (h : inBits 115 n = true) : -32768 ≤ n ∧ n ≤ 32767 := by unfold inBits bitsOf at h; simp at h; omega
theorem inBits_73 {n : Int} (h : inBits 73 n = true) : -2147483648 ≤ n ∧ n ≤ 2147483647 := by unfold inBits bitsOf at h; simp at h; omega
theorem inBits_68 {n : Int} (h : inBits 68 n = true) : -2147483648 ≤ n ∧ n ≤ 2147483647 := by unfold inBits bitsOf at h; simp at h; omega
/-- An own slice of the package's values, as the value of an array. -/
theorem pv_arr {base : Nat} {w : World} {x : Value} {n : Int} {f : Nat} {sc : Int} {text : List UInt8} {kids : List Val} {flds : List Fld} (h : OwnE 20 1 PVc base w x kids) : PV (fun b => base ≤ b) w (.iface 192 x) (.mk 65 n f sc text kids flds) := by
  obtain ⟨cells, o1, o2, o3⟩ := h
  obtain ⟨ao, c, rfl, hc, hh⟩ := own_slice o1
  unfold PV
  rw [if_pos rfl]
  refine ⟨ao, c, rfl, hc, fun hne => ?_⟩
  rcases hh with ⟨h0, _⟩ | ⟨g, rfl, hg, hcell⟩
  · exact absurd (List.eq_nil_of_length_eq_zero h0) hne
  · exact ⟨g, rfl, o3 g hg, own_lt o1 hg, pl_of kids 0 cells (o2.imp fun cs x hx => bears_pv.mono hx fun b hb _ => hb.1) hcell⟩
theorem pv_tab {base b : Nat} {w : World} {es : List (Value × Value)} {n : Int} {f : Nat} {sc : Int} {text : List UInt8} {kids : List Val} {flds : List Fld} (hb : base ≤ b) (hm : MapAt w b es) (h : PF (fun b => base ≤ b) w es flds) : PV (fun b => base ≤ b) w (.iface 96 (.map (some b))) (.mk 70 n f sc text kids flds) := by
  unfold PV
  rw [if_neg (by decide), if_pos rfl]
  exact ⟨b, es, rfl, hb, hm, h⟩
theorem pv_leaf {B : Nat → Prop} {w : World} {x : Value} {k : UInt8} {n : Int} {f : Nat} {sc : Int} {text : List UInt8} {kids : List Val} {flds : List Fld} (h1 : k ≠ 65) (h2 : k ≠ 70) (h : leafV B w k n f sc text x) : PV B w x (.mk k n f sc text kids flds) := by
  unfold PV
  rw [if_neg h1, if_neg h2]
  exact h
set_option maxHeartbeats 2000000 in
theorem rdv_of (k : UInt8) (n : Int) (f : Nat) (sc : Int) (text : List UInt8) (kids : List Val) (flds : List Fld) (hk : ∀ v, v ∈ kids → RdVC v) (hf : ∀ x, x ∈ flds → RdVC x.val) : RdVC (.mk k n f sc text kids flds) := by
  intro d dep w r ps db Ns rest hwf hok hcost h0 h1 hr hl hav hdb
  unfold WfV at hwf
  obtain ⟨t1, t2, t3, wfk, wff, n1, n2, f1⟩ := hwf
  unfold OkV at hok
  obtain ⟨hd, hb, hok⟩ := hok
  unfold costV at hcost
  by_cases c1 : k = 65
  · subst c1
    rw [if_pos rfl] at hok hcost
    have he : encV (.mk 65 n f sc text kids flds) = 65 :: (Lib.beBytes 4 (encL kids).length ++ encL kids) := by simp [encV]
    have hen : (encV (.mk 65 n f sc text kids flds)).length = 1 + (4 + (encL kids).length) := by rw [he, List.length_cons, List.length_append, Lib.beBytes_length]; omega
    rw [hen] at hav ⊢
    rw [he, List.cons_append, List.append_assoc] at hr hl hav
    simp only [List.length_cons, List.length_append, Lib.beBytes_length] at hl
    have ha := avail_map Ns [65] (Lib.beBytes 4 (encL kids).length ++ (encL kids ++ rest))
    simp only [List.cons_append, List.nil_append, List.length_cons, List.length_nil, Nat.zero_add] at ha
    refine (rfv_65 dep h0 (by omega) _ hr (by simp only [List.length_append, Lib.beBytes_length]; omega) (by omega) hdb (fun x w' => OwnE 20 1 PVc w.heap.size w' x kids ∧ Rd w' r ps db (Ns.map (· - (1 + (4 + (encL kids).length)))) rest ∧ Kept ps w w') ?_).mono ?_
    · intro W hkW hrW
      refine (rarr_of kids hk (d - 1) (dep + 1) W r ps db _ rest wfk hok (by omega) (by omega) (by omega) hrW (by omega) (by omega) (Nat.lt_of_lt_of_le hdb hkW.size)).mono ?_
      rintro e w' ⟨out, rfl, a1, a2, a3⟩
      refine ⟨out, rfl, a1.base bears_pv hkW.size, ?_, hkW.trans a3 (fun x hx => .inl hx)⟩
      rw [map_sub_sub] at a2
      exact a2
    · rintro e w' ⟨x, rfl, a1, a2, a3⟩
      exact ⟨_, rfl, pv_arr a1, a2, a3⟩
  rw [if_neg c1] at hok hcost
  by_cases c2 : k = 70
  · subst c2
    rw [if_pos rfl] at hok hcost
    have he : encV (.mk 70 n f sc text kids flds) = 70 :: encT flds := by simp [encV, encT]
    have hen : (encV (.mk 70 n f sc text kids flds)).length = 1 + (encT flds).length := by rw [he, List.length_cons]; omega
    rw [hen] at hav ⊢
    rw [he, List.cons_append] at hr hl hav
    simp only [List.length_cons] at hl
    have ha := avail_map Ns [70] (encT flds ++ rest)
    simp only [List.cons_append, List.nil_append, List.length_cons, List.length_nil, Nat.zero_add] at ha
    refine (rfv_70 dep h0 (by omega) _ hr (by omega) (by omega) hdb (fun x w' => PV (fun b => w.heap.size ≤ b) w' (.iface 96 x) (.mk 70 n f sc text kids flds) ∧ Rd w' r ps db (Ns.map (· - (1 + (encT flds).length))) rest ∧ Kept ps w w') ?_).mono ?_
    · intro W hkW hrW
      refine (rtab_of flds hf none (d - 1) (dep + 1) W r ps db _ rest wff hok (by omega) (by omega) (by omega) hrW (by omega) (by omega) (Nat.lt_of_lt_of_le hdb hkW.size)).mono ?_
      rintro e w' ⟨b, es, rfl, a0, a1, a2, a3, a4⟩
      refine ⟨_, rfl, pv_tab (Nat.le_trans hkW.size a0) a1 (PF.mono (fun b hb _ => Nat.le_trans hkW.size hb) _ a2), ?_, hkW.trans a4 (fun x hx => .inl hx)⟩
      rw [map_sub_sub] at a3
      exact a3
    · rintro e w' ⟨x, rfl, a1, a2, a3⟩
      exact ⟨_, rfl, a1, a2, a3⟩
  rw [if_neg c2] at hok hcost
  unfold leafOk at hok
  have hlen : text.length ≤ 2000 := by omega
  by_cases c116 : k = 116
  · subst c116
    rw [if_pos rfl] at hok
    simp only [Bool.or_eq_true, decide_eq_true_eq] at hok
    have he : encV (.mk 116 n f sc text kids flds) = 116 :: Lib.beBytes 1 (u64 n) := by simp [encV]
    have hen : (encV (.mk 116 n f sc text kids flds)).length = 2 := by rw [he]; rfl
    rw [hen] at hav ⊢
    rw [he, List.cons_append] at hr hl hav
    simp only [List.length_cons, List.length_append] at hl
    refine (rfv_116 dep _ rest (Lib.beBytes_length 1 _) hr (by omega) (by omega) hdb).mono ?_
    rintro e w' ⟨rfl, a1, a2⟩
    refine ⟨_, rfl, pv_leaf c1 c2 ?_, a1, a2⟩
    unfold leafV
    rw [if_pos rfl, be_mod]
    rcases hok with rfl | rfl
    · have : ((u64 0 % 256 ^ 1 : Nat) : Int) = 0 := by decide
      simp [this]
    · have : ((u64 1 % 256 ^ 1 : Nat) : Int) = 1 := by decide
      simp [this]
  rw [if_neg c116] at hok
  by_cases c66 : k = 66
  · subst c66
    rw [if_pos rfl] at hok
    simp only [Bool.and_eq_true, decide_eq_true_eq] at hok
    have he : encV (.mk 66 n f sc text kids flds) = 66 :: [(u64 n % 256).toUInt8] := by rw [← be_single]; simp [encV]
    have hen : (encV (.mk 66 n f sc text kids flds)).length = 2 := by rw [he]; rfl
    rw [hen] at hav ⊢
    rw [he, List.cons_append] at hr hl hav
    simp only [List.cons_append, List.nil_append] at hr hl hav
    simp only [List.length_cons] at hl
    refine (rfv_66 dep _ rest _ rfl hr (by simp only [List.length_cons]; omega) (by omega) hdb).mono ?_
    rintro e w' ⟨rfl, a1, a2⟩
    refine ⟨_, rfl, pv_leaf c1 c2 ?_, a1, a2⟩
    unfold leafV
    rw [if_neg (by decide), if_pos rfl, Lib.toUInt8_mod]
    have := u64_u8 n hok.1 hok.2
    rw [this]
  rw [if_neg c66] at hok
  by_cases c84 : k = 84
  · subst c84
    rw [if_pos rfl] at hok
    simp only [Bool.and_eq_true, decide_eq_true_eq] at hok
    have he : encV (.mk 84 n f sc text kids flds) = 84 :: Lib.beBytes 8 (u64 n) := by simp [encV]
    have hen : (encV (.mk 84 n f sc text kids flds)).length = 1 + 8 := by rw [he]; rfl
    rw [hen] at hav ⊢
    rw [he, List.cons_append] at hr hl hav
    simp only [List.length_cons, List.length_append, Lib.beBytes_length] at hl
    have ha := avail_map Ns [84] (Lib.beBytes 8 (u64 n) ++ rest)
    simp only [List.cons_append, List.nil_append, List.length_cons, List.length_nil, Nat.zero_add] at ha
    have hun := u64_pos n hok.1 (Int.lt_trans hok.2 (by decide))
    refine (rfv_84 dep h0 (by omega) _ hr (by simp only [List.length_append, Lib.beBytes_length]; omega) (by omega) hdb (fun x w' => x = timeV n ∧ Rd w' r ps db (Ns.map (· - (1 + 8))) rest ∧ Kept ps w w') ?_).mono ?_
    · intro W hkW hrW
      refine (rtime (u64 n) (by have := hok.2; omega) rest hrW (by omega) (by omega) (Nat.lt_of_lt_of_le hdb hkW.size)).mono ?_
      rintro e w' ⟨rfl, a1, a2⟩
      rw [map_sub_sub] at a1
      rw [hun]
      exact ⟨_, rfl, rfl, a1, hkW.trans a2 (fun x hx => .inl hx)⟩
    · rintro e w' ⟨x, rfl, rfl, a1, a2⟩
      exact ⟨_, rfl, pv_leaf c1 c2 (by unfold leafV; simp), a1, a2⟩
  rw [if_neg c84] at hok
  by_cases c102 : k = 102
  · subst c102
    rw [if_pos (.inl rfl)] at hok
    obtain ⟨g1, g2, g3, g4⟩ := (fracB_nice hok).toSingle f1
    have he : encV (.mk 102 n f sc text kids flds) = 102 :: Lib.beBytes 4 (Flt.toS f) := by simp [encV]
    have hen : (encV (.mk 102 n f sc text kids flds)).length = 5 := by rw [he]; rfl
    rw [hen] at hav ⊢
    rw [he, List.cons_append] at hr hl hav
    simp only [List.length_cons, List.length_append] at hl
    refine (rfv_102 dep _ rest (Lib.beBytes_length 4 _) hr (by omega) (by omega) hdb).mono ?_
    rintro e w' ⟨rfl, a1, a2⟩
    refine ⟨_, rfl, pv_leaf c1 c2 ?_, a1, a2⟩
    unfold leafV
    rw [be_four _ g4]
    simp
  by_cases c100 : k = 100
  · subst c100
    have he : encV (.mk 100 n f sc text kids flds) = 100 :: Lib.beBytes 8 f := by simp [encV]
    have hen : (encV (.mk 100 n f sc text kids flds)).length = 9 := by rw [he]; rfl
    rw [hen] at hav ⊢
    rw [he, List.cons_append] at hr hl hav
    simp only [List.length_cons, List.length_append] at hl
    refine (rfv_100 dep _ rest (Lib.beBytes_length 8 _) hr (by omega) (by omega) hdb).mono ?_
    rintro e w' ⟨rfl, a1, a2⟩
    refine ⟨_, rfl, pv_leaf c1 c2 ?_, a1, a2⟩
    unfold leafV
    rw [be_eight _ f1]
    simp
  rw [if_neg (by intro e; rcases e with e | e; exact c102 e; exact c100 e)] at hok
  by_cases c68 : k = 68
  · subst c68
    rw [if_pos rfl] at hok
    simp only [Bool.and_eq_true, decide_eq_true_eq] at hok
    have hb := inBits_68 hb
    have hun := w32_u64 n hb.1 hb.2
    have hml : u64 n % 4294967296 < 4294967296 := Nat.mod_lt _ (by decide)
    have hcut := be_cut4 (u64 n)
    generalize u64 n % 4294967296 = m at hun hml hcut
    have he : encV (.mk 68 n f sc text kids flds) = 68 :: (Lib.beBytes 1 (u64 sc) ++ Lib.beBytes 4 m) := by rw [hcut]; simp [encV]
    have hen : (encV (.mk 68 n f sc text kids flds)).length = 1 + 5 := by rw [he, List.length_cons, List.length_append, Lib.beBytes_length, Lib.beBytes_length]
    rw [hen] at hav ⊢
    rw [he, List.cons_append, List.append_assoc] at hr hl hav
    simp only [List.length_cons, List.length_append, Lib.beBytes_length] at hl
    have ha := avail_map Ns [68] (Lib.beBytes 1 (u64 sc) ++ (Lib.beBytes 4 (m) ++ rest))
    simp only [List.cons_append, List.nil_append, List.length_cons, List.length_nil, Nat.zero_add] at ha
    have husc := u64_pos sc hok.1 (Int.lt_of_le_of_lt hok.2 (by decide))
    refine (rfv_68 dep h0 (by omega) _ hr (by simp only [List.length_append, Lib.beBytes_length]; omega) (by omega) hdb (fun x w' => x = .agg #[.int .u8 sc, .int .i32 n] ∧ Rd w' r ps db (Ns.map (· - (1 + 5))) rest ∧ Kept ps w w') ?_).mono ?_
    · intro W hkW hrW
      refine (rdec (u64 sc) m (by have := hok.2; omega) hml rest hrW (by omega) (by omega) (Nat.lt_of_lt_of_le hdb hkW.size)).mono ?_
      rintro e w' ⟨rfl, a1, a2⟩
      rw [map_sub_sub] at a1
      rw [hun, husc]
      exact ⟨_, rfl, rfl, a1, hkW.trans a2 (fun x hx => .inl hx)⟩
    · rintro e w' ⟨x, rfl, rfl, a1, a2⟩
      exact ⟨_, rfl, pv_leaf c1 c2 (by unfold leafV; simp), a1, a2⟩
  rw [if_neg c68] at hok
  simp only [decide_eq_true_eq] at hok
  rcases hok with rfl | rfl | rfl | rfl | rfl | rfl | rfl
  · have hb := inBits_98 hb
    have he : encV (.mk 98 n f sc text kids flds) = 98 :: Lib.beBytes 1 (u64 n) := by simp [encV]
    have hen : (encV (.mk 98 n f sc text kids flds)).length = 2 := by rw [he]; rfl
    rw [hen] at hav ⊢
    rw [he, List.cons_append] at hr hl hav
    simp only [List.length_cons, List.length_append] at hl
    refine (rfv_98 dep _ rest (Lib.beBytes_length 1 _) hr (by omega) (by omega) hdb).mono ?_
    rintro e w' ⟨rfl, a1, a2⟩
    refine ⟨_, rfl, pv_leaf c1 c2 ?_, a1, a2⟩
    have := w8_u64 n hb.1 hb.2
    unfold leafV
    rw [this]
    simp
  · have hb := inBits_115 hb
    have he : encV (.mk 115 n f sc text kids flds) = 115 :: Lib.beBytes 2 (u64 n) := by simp [encV]
    have hen : (encV (.mk 115 n f sc text kids flds)).length = 3 := by rw [he]; rfl
    rw [hen] at hav ⊢
    rw [he, List.cons_append] at hr hl hav
    simp only [List.length_cons, List.length_append] at hl
    refine (rfv_115 dep _ rest (Lib.beBytes_length 2 _) hr (by omega) (by omega) hdb).mono ?_
    rintro e w' ⟨rfl, a1, a2⟩
    refine ⟨_, rfl, pv_leaf c1 c2 ?_, a1, a2⟩
    have := w16_u64 n hb.1 hb.2
    unfold leafV
    rw [this]
    simp
  · have hb := inBits_73 hb
    have he : encV (.mk 73 n f sc text kids flds) = 73 :: Lib.beBytes 4 (u64 n) := by simp [encV]
    have hen : (encV (.mk 73 n f sc text kids flds)).length = 5 := by rw [he]; rfl
    rw [hen] at hav ⊢
    rw [he, List.cons_append] at hr hl hav
    simp only [List.length_cons, List.length_append] at hl
    refine (rfv_73 dep _ rest (Lib.beBytes_length 4 _) hr (by omega) (by omega) hdb).mono ?_
    rintro e w' ⟨rfl, a1, a2⟩
    refine ⟨_, rfl, pv_leaf c1 c2 ?_, a1, a2⟩
    have := w32_be n hb.1 hb.2
    unfold leafV
    rw [this]
    simp
  · have he : encV (.mk 108 n f sc text kids flds) = 108 :: Lib.beBytes 8 (u64 n) := by simp [encV]
    have hen : (encV (.mk 108 n f sc text kids flds)).length = 9 := by rw [he]; rfl
    rw [hen] at hav ⊢
    rw [he, List.cons_append] at hr hl hav
    simp only [List.length_cons, List.length_append] at hl
    refine (rfv_108 dep _ rest (Lib.beBytes_length 8 _) hr (by omega) (by omega) hdb).mono ?_
    rintro e w' ⟨rfl, a1, a2⟩
    refine ⟨_, rfl, pv_leaf c1 c2 ?_, a1, a2⟩
    have := w64_be n n1 n2
    unfold leafV
    rw [this]
    simp
  · have he : encV (.mk 83 n f sc text kids flds) = 83 :: (Lib.beBytes 4 text.length ++ text) := by simp [encV]
    have hen : (encV (.mk 83 n f sc text kids flds)).length = 1 + (4 + text.length) := by rw [he, List.length_cons, List.length_append, Lib.beBytes_length]; omega
    rw [hen] at hav ⊢
    rw [he, List.cons_append, List.append_assoc] at hr hl hav
    simp only [List.length_cons, List.length_append, Lib.beBytes_length] at hl
    have ha := avail_map Ns [83] (Lib.beBytes 4 text.length ++ (text ++ rest))
    simp only [List.cons_append, List.nil_append, List.length_cons, List.length_nil, Nat.zero_add] at ha
    refine (rfv_83 dep h0 (by omega) _ hr (by simp only [List.length_append, Lib.beBytes_length]; omega) (by omega) hdb (fun x w' => x = .string ⟨text.toArray⟩ ∧ Rd w' r ps db (Ns.map (· - (1 + (4 + text.length)))) rest ∧ Kept ps w w') ?_).mono ?_
    · intro W hkW hrW
      refine (rlong text rest hrW (by omega) (by omega) (by omega) (Nat.lt_of_lt_of_le hdb hkW.size)).mono ?_
      rintro e w' ⟨rfl, a1, a2⟩
      rw [map_sub_sub] at a1
      exact ⟨_, rfl, rfl, a1, hkW.trans a2 (fun x hx => .inl hx)⟩
    · rintro e w' ⟨x, rfl, rfl, a1, a2⟩
      exact ⟨_, rfl, pv_leaf c1 c2 (by unfold leafV; simp), a1, a2⟩
  · have he : encV (.mk 120 n f sc text kids flds) = 120 :: (Lib.beBytes 4 text.length ++ text) := by simp [encV]
    have hen : (encV (.mk 120 n f sc text kids flds)).length = 5 + text.length := by rw [he, List.length_cons, List.length_append, Lib.beBytes_length]; omega
    rw [hen] at hav ⊢
    rw [he, List.cons_append, List.append_assoc] at hr hl hav
    simp only [List.length_cons, List.length_append, Lib.beBytes_length] at hl
    refine (rfv_120 dep text rest _ rfl (by omega) hr (by simp only [List.length_append, Lib.beBytes_length]; omega) (by omega) hdb).mono ?_
    rintro e w' ⟨g, rfl, a0, a1, a2, a3⟩
    refine ⟨_, rfl, pv_leaf c1 c2 ?_, a2, a3⟩
    unfold leafV
    simp (config := { decide := true }) only [if_false, if_true]
    exact ⟨g, rfl, a0, a1⟩
  · have he : encV (.mk 86 n f sc text kids flds) = [86] := by simp [encV]
    have hen : (encV (.mk 86 n f sc text kids flds)).length = 1 := by rw [he]; rfl
    rw [hen] at hav ⊢
    rw [he, List.cons_append, List.nil_append] at hr hl hav
    simp only [List.length_cons] at hl
    refine (rfv_86 dep rest hr (by omega) (by omega) hdb).mono ?_
    rintro e w' ⟨rfl, a1, a2⟩
    exact ⟨_, rfl, pv_leaf c1 c2 (by unfold leafV; simp), a1, a2⟩
/-- Every value is read as it is. -/
theorem rdv_all (v : Val) : RdVC v := Val.held RdVC (fun k n f sc t kids flds hk hf => rdv_of k n f sc t kids flds hk hf) v
/-- Every table is read as it is. -/
theorem rtable_all (fs : List Fld) (p : Option (List UInt8)) (d : Nat) (w : World) (r : Value) (ps : List Nat) (db : Nat) (Ns : List Nat) (rest : List UInt8) (hwf : WfFs fs) (hok : OkFs fs p d) (hcost : costFs fs ≤ 2000) (hd : d ≤ 30)
    (hr : Rd w r ps db Ns (encT fs ++ rest)) (hl : (encT fs ++ rest).length ≤ 900000000) (hav : (encT fs).length ≤ avail Ns (encT fs ++ rest)) (hdb : db < w.heap.size) :
    Calls Tryz.prog 145 #[r] w fun e w' => ∃ b es, e = .returned (.tuple #[.map (some b), .nilIface]) ∧ w.heap.size ≤ b ∧ MapAt w' b es ∧ PF (fun b => w.heap.size ≤ b) w' es fs ∧ Rd w' r ps db (Ns.map (· - (encT fs).length)) rest ∧ Kept ps w w' :=
  rtable_of fs (rtab_of fs fun x _ => rdv_all x.val) p d w r ps db Ns rest hwf hok hcost hd hr hl hav hdb
theorem ta_meth_meth (a : Addr) (w : World) : (Instr.typeAssert (.iface 124 (.pointer (some a))) 65 124 true).run Tryz.prog w = .ok (.tuple #[.pointer (some a), .bool true]) w := by kernel_rfl
theorem build_frame1 (v : Int) (w : World) : (Instr.build 35 #[(1, .int .i64 v)]).run Tryz.prog w = .ok (.agg (frame0.set 1 (.int .i64 v)).toArray) w := by kernel_rfl
theorem Blk.setCell_list {w : World} {b : Nat} {l : List Value} {t : TypeId} (h : Blk w b l.toArray t) (i : Nat) (u : Value) : Blk (w.setCell ⟨b, i, none⟩ u) b (l.set i u).toArray t := by
  have := h.setCell i u
  rwa [List.setIfInBounds_toArray] at this
theorem frame1_one (ch : Nat) : ∀ u ∈ frame0.set 1 (.int .i64 (ch : Int)), u.oneCell' = true := by
  intro u hu
  rcases List.mem_or_eq_of_mem_set hu with h | h
  · exact frame0_one u h
  · subst h; rfl
theorem results_frame {tmps : Array Value} {f : Nat} {cs : Array Value} {b : Bool} {w : World} (h1 : tmps.getD 2 undef = .pointer (some ⟨f, 0, none⟩)) (h2 : tmps.getD 3 undef = .bool b) (hf : Blk w f cs 35)
    (hs : (Tryz.prog.info? 35).map (·.size) = some cs.size) :
    (results Tryz.f25 tmps).run Tryz.prog w = .ok (.tuple #[.agg cs, .bool b]) w := by
  have hl := run_loadVar_row (P := Tryz.prog) w f 35 35 cs (0, 0) _ hf Tryz.underlying35 rfl hs
  simp only [Array.getD_eq_getD_getElem?] at h1 h2
  simp [results, Tryz.results25, h1, h2, asAddr, hl]
/-- The buffer at b as a reader. -/
abbrev bufR (b : Nat) : Value := .iface 111 (.pointer (some ⟨b, 0, none⟩))
/-- v is the table fs, in blocks of B. -/
def TabAt (B : Nat → Prop) (w : World) (v : Value) (fs : List Fld) : Prop := ∃ tb es, v = .map (some tb) ∧ B tb ∧ MapAt w tb es ∧ PF B w es fs
theorem TabAt.kept {B : Nat → Prop} {S : List Nat} {w w' : World} {v : Value} {fs : List Fld} (h : TabAt B w v fs) (hk : Kept S w w') (hS : ∀ x, B x → x ∉ S) : TabAt B w' v fs := by
  obtain ⟨tb, es, h1, h2, h3, h4⟩ := h
  exact ⟨tb, es, h1, h2, h3.kept hk (hS tb h2), PF.kept hk hS fs h4⟩
theorem TabAt.mono {B B' : Nat → Prop} {w : World} {v : Value} {fs : List Fld} (h : TabAt B w v fs) (hB : ∀ x, B x → x < w.heap.size → B' x) : TabAt B' w v fs := by
  obtain ⟨tb, es, h1, h2, h3, h4⟩ := h
  exact ⟨tb, es, h1, hB tb h2 h3.lt, h3, PF.mono hB fs h4⟩
/-- While a message is read. -/
structure MS (w0 : World) (b d msg : Nat) (T : TypeId) (loc : List (Nat × Value)) (tabs : List (Value × List Fld)) (cells : List Value) (bs : List UInt8) (w : World) : Prop where
  rd : Rd w (bufR b) [b] d [] bs
  blk : Blk w msg cells.toArray T
  kept : Kept [b, msg] w0 w
  nb : msg ≠ b
  nd : msg ≠ d
  blt : b < w0.heap.size
  dlt : d < w0.heap.size
  mlt : msg < w0.heap.size
  sz : bs.length ≤ 900000000
  loc : ∀ p ∈ loc, w0.heap.size ≤ p.1 ∧ Blk w p.1 #[p.2] 5
  tabs : ∀ e ∈ tabs, TabAt (fun x => w0.heap.size ≤ x) w e.1 e.2
section
variable {w0 : World} {b d msg : Nat} {T : TypeId} {loc : List (Nat × Value)} {tabs : List (Value × List Fld)} {cells : List Value} {bs bs' : List UInt8} {w w' : World}
theorem MS.call (h : MS w0 b d msg T loc tabs cells bs w) (hk : Kept [b] w w') (hr : Rd w' (bufR b) [b] d [] bs') (hl : bs'.length ≤ bs.length) : MS w0 b d msg T loc tabs cells bs' w' :=
  ⟨hr, h.blk.kept hk (by simpa using h.nb), h.kept.trans hk (fun x hx => .inl (by simp at hx; simp [hx])), h.nb, h.nd, h.blt, h.dlt, h.mlt, Nat.le_trans hl h.sz,
    fun p hp => ⟨(h.loc p hp).1, (h.loc p hp).2.kept hk (by have := (h.loc p hp).1; have := h.blt; simp; omega)⟩,
    fun e he => (h.tabs e he).kept hk (fun x hx => by have := h.blt; simp; omega)⟩
theorem MS.set (h : MS w0 b d msg T loc tabs cells bs w) (i : Nat) (v : Value) : MS w0 b d msg T loc tabs (cells.set i v) bs (w.setCell ⟨msg, i, none⟩ v) := by
  have hk : Kept [msg] w (w.setCell ⟨msg, i, none⟩ v) := (Kept.refl _ w).setCell (by simp) _
  refine ⟨h.rd.kept hk (by simpa using Ne.symm h.nb) (by simpa using Ne.symm h.nd), ?_, h.kept.trans hk (fun x hx => .inl (by simp at hx; simp [hx])), h.nb, h.nd, h.blt, h.dlt, h.mlt, h.sz,
    fun p hp => ⟨(h.loc p hp).1, (h.loc p hp).2.kept hk (by have := (h.loc p hp).1; have := h.mlt; simp; omega)⟩,
    fun e he => (h.tabs e he).kept hk (fun x hx => by have := h.mlt; simp; omega)⟩
  have := h.blk.setCell i v
  simpa using this
theorem MS.setLoc {lb : Nat} {v0 : Value} (h : MS w0 b d msg T [(lb, v0)] [] cells bs w) (v : Value) : MS w0 b d msg T [(lb, v)] [] cells bs (w.setCell ⟨lb, 0, none⟩ v) := by
  obtain ⟨h1, h2⟩ := h.loc (lb, v0) (by simp)
  have hk : Kept [lb] w (w.setCell ⟨lb, 0, none⟩ v) := (Kept.refl _ w).setCell (by simp) _
  have a1 := h.blt; have a2 := h.dlt; have a3 := h.mlt
  simp only at h1
  refine ⟨h.rd.kept hk (by simp; omega) (by simp; omega), h.blk.kept hk (by simp; omega), h.kept.trans hk (fun x hx => .inr (by simp at hx; omega)), h.nb, h.nd, h.blt, h.dlt, h.mlt, h.sz, fun p hp => ?_, by simp⟩
  simp at hp
  subst hp
  exact ⟨h1, h2.setCell 0 v⟩
theorem MS.cell (h : MS w0 b d msg T loc tabs cells bs w) {i : Nat} {v : Value} (hi : cells[i]? = some v) : w.cell? ⟨msg, i, none⟩ = some v := by rw [h.blk.cell i]; simpa using hi
theorem MS.free (h : MS w0 b d msg T loc tabs cells bs w) (i : Nat) : w.frozen? ⟨msg, i, none⟩ = false := h.blk.free i
theorem MS.mem {lb : Nat} {v : Value} (h : MS w0 b d msg T [(lb, v)] tabs cells bs w) : w.cell? ⟨lb, 0, none⟩ = some v := (h.loc (lb, v) (by simp)).2.cell 0
theorem MS.nlb {lb : Nat} {v : Value} (h : MS w0 b d msg T [(lb, v)] tabs cells bs w) : lb ≠ msg := by have := (h.loc (lb, v) (by simp)).1; have := h.mlt; omega
/-- A method's own world: a local variable laid ahead. -/
theorem MS.push (h : MS w0 b d msg T [] tabs cells bs w0) (v : Value) : MS w0 b d msg T [(w0.heap.size, v)] tabs cells bs (w0.alloc (.cells #[v] 5)) := by
  have hk : Kept [] w0 (w0.alloc (.cells #[v] 5)) := (Kept.refl _ w0).alloc _
  refine ⟨h.rd.kept hk (by simp) (by simp), h.blk.kept hk (by simp), hk.mono (by simp), h.nb, h.nd, h.blt, h.dlt, h.mlt, h.sz, fun p hp => ?_, fun e he => (h.tabs e he).kept hk (by simp)⟩
  simp at hp
  subst hp
  exact ⟨Nat.le_refl _, Blk.new w0 _ _⟩
theorem MS.start (hr : Rd w (bufR b) [b] d [] bs) (hb : Blk w msg cells.toArray T) (h1 : msg ≠ b) (h2 : msg ≠ d) (hd : d < w.heap.size) (hl : bs.length ≤ 900000000) : MS w b d msg T [] [] cells bs w :=
  ⟨hr, hb, Kept.refl _ _, h1, h2, hr.mem_lt b (by simp), hd, hb.lt, hl, by simp, by simp⟩
theorem MS.dlt' (h : MS w0 b d msg T loc tabs cells bs w) : d < w.heap.size := Nat.lt_of_lt_of_le h.dlt h.kept.size
theorem ms_u8 (n : Nat) (hn : n < 256) (rest : List UInt8) (h : MS w0 b d msg T loc tabs cells (Lib.beBytes 1 n ++ rest) w) (i : Nat) (v0 : Value) (hi : cells[i]? = some v0) :
    Calls Tryz.prog 77 #[bufR b, .iface 375 (.pointer (some ⟨msg, i, none⟩))] w fun e w' => e = .returned .nilIface ∧ MS w0 b d msg T loc tabs (cells.set i (.int .u8 (n : Int))) rest w' := by
  have hs := h.sz
  simp only [List.length_append, Lib.beBytes_length] at hs
  refine (rfix_u8 (Lib.beBytes 1 n) rest (Lib.beBytes_length 1 n) h.rd (by omega) (by simp [avail, Lib.beBytes_length]) h.dlt' msg i v0 (h.cell hi) (h.free i) (by simpa using h.nb) h.nd).mono ?_
  rintro e w' ⟨rfl, w1, k1, r1, rfl⟩
  rw [be_one n hn]
  exact ⟨rfl, (h.call k1 r1 (by simp)).set i _⟩
theorem ms_u16 (n : Nat) (hn : n < 65536) (rest : List UInt8) (h : MS w0 b d msg T loc tabs cells (Lib.beBytes 2 n ++ rest) w) (i : Nat) (v0 : Value) (hi : cells[i]? = some v0) :
    Calls Tryz.prog 77 #[bufR b, .iface 199 (.pointer (some ⟨msg, i, none⟩))] w fun e w' => e = .returned .nilIface ∧ MS w0 b d msg T loc tabs (cells.set i (.int .u16 (n : Int))) rest w' := by
  have hs := h.sz
  simp only [List.length_append, Lib.beBytes_length] at hs
  refine (rfix_u16 (Lib.beBytes 2 n) rest (Lib.beBytes_length 2 n) h.rd (by omega) (by simp [avail, Lib.beBytes_length]) h.dlt' msg i v0 (h.cell hi) (h.free i) (by simpa using h.nb) h.nd).mono ?_
  rintro e w' ⟨rfl, w1, k1, r1, rfl⟩
  rw [be_two n hn]
  exact ⟨rfl, (h.call k1 r1 (by simp)).set i _⟩
theorem ms_u32 (n : Nat) (hn : n < 4294967296) (rest : List UInt8) (h : MS w0 b d msg T loc tabs cells (Lib.beBytes 4 n ++ rest) w) (i : Nat) (v0 : Value) (hi : cells[i]? = some v0) :
    Calls Tryz.prog 77 #[bufR b, .iface 115 (.pointer (some ⟨msg, i, none⟩))] w fun e w' => e = .returned .nilIface ∧ MS w0 b d msg T loc tabs (cells.set i (.int .u32 (n : Int))) rest w' := by
  have hs := h.sz
  simp only [List.length_append, Lib.beBytes_length] at hs
  refine (rfix_u32 (Lib.beBytes 4 n) rest (Lib.beBytes_length 4 n) h.rd (by omega) (by simp [avail, Lib.beBytes_length]) h.dlt' msg i v0 (h.cell hi) (h.free i) (by simpa using h.nb) h.nd).mono ?_
  rintro e w' ⟨rfl, w1, k1, r1, rfl⟩
  rw [be_four n hn]
  exact ⟨rfl, (h.call k1 r1 (by simp)).set i _⟩
theorem ms_u64 (n : Nat) (hn : n < 18446744073709551616) (rest : List UInt8) (h : MS w0 b d msg T loc tabs cells (Lib.beBytes 8 n ++ rest) w) (i : Nat) (v0 : Value) (hi : cells[i]? = some v0) :
    Calls Tryz.prog 77 #[bufR b, .iface 369 (.pointer (some ⟨msg, i, none⟩))] w fun e w' => e = .returned .nilIface ∧ MS w0 b d msg T loc tabs (cells.set i (.int .u64 (n : Int))) rest w' := by
  have hs := h.sz
  simp only [List.length_append, Lib.beBytes_length] at hs
  refine (rfix_u64 (Lib.beBytes 8 n) rest (Lib.beBytes_length 8 n) h.rd (by omega) (by simp [avail, Lib.beBytes_length]) h.dlt' msg i v0 (h.cell hi) (h.free i) (by simpa using h.nb) h.nd).mono ?_
  rintro e w' ⟨rfl, w1, k1, r1, rfl⟩
  rw [be_eight n hn]
  exact ⟨rfl, (h.call k1 r1 (by simp)).set i _⟩
theorem ms_bits (n : Nat) (hn : n < 256) (rest : List UInt8) {lb : Nat} {v0 : Value} (h : MS w0 b d msg T [(lb, v0)] [] cells (Lib.beBytes 1 n ++ rest) w) :
    Calls Tryz.prog 77 #[bufR b, .iface 375 (.pointer (some ⟨lb, 0, none⟩))] w fun e w' => e = .returned .nilIface ∧ MS w0 b d msg T [(lb, .int .u8 (n : Int))] [] cells rest w' := by
  have hs := h.sz
  simp only [List.length_append, Lib.beBytes_length] at hs
  obtain ⟨h1, h2⟩ := h.loc (lb, v0) (by simp)
  have a1 := h.blt; have a2 := h.dlt
  simp only at h1
  refine (rfix_u8 (Lib.beBytes 1 n) rest (Lib.beBytes_length 1 n) h.rd (by omega) (by simp [avail, Lib.beBytes_length]) h.dlt' lb 0 v0 (h2.cell 0) (h2.free 0) (by simp; omega) (by omega)).mono ?_
  rintro e w' ⟨rfl, w1, k1, r1, rfl⟩
  rw [be_one n hn]
  exact ⟨rfl, (h.call k1 r1 (by simp)).setLoc _⟩
theorem ms_short (s : List UInt8) (hs : s.length ≤ 255) (rest : List UInt8) (h : MS w0 b d msg T loc tabs cells (Lib.beBytes 1 s.length ++ (s ++ rest)) w) :
    Calls Tryz.prog 144 #[bufR b] w fun e w' => e = .returned (.tuple #[.string ⟨s.toArray⟩, .nilIface]) ∧ MS w0 b d msg T loc tabs cells rest w' := by
  have hz := h.sz
  simp only [List.length_append, Lib.beBytes_length] at hz
  refine (rshort s rest h.rd hs (by omega) (by simp only [avail, List.length_append, Lib.beBytes_length]; omega) h.dlt').mono ?_
  rintro e w' ⟨rfl, r1, k1⟩
  exact ⟨rfl, h.call k1 r1 (by simp; omega)⟩
theorem ms_long (s : List UInt8) (hs : s.length ≤ 65536) (rest : List UInt8) (h : MS w0 b d msg T loc tabs cells (Lib.beBytes 4 s.length ++ (s ++ rest)) w) :
    Calls Tryz.prog 157 #[bufR b] w fun e w' => e = .returned (.tuple #[.string ⟨s.toArray⟩, .nilIface]) ∧ MS w0 b d msg T loc tabs cells rest w' := by
  have hz := h.sz
  simp only [List.length_append, Lib.beBytes_length] at hz
  refine (rlong s rest h.rd hs (by omega) (by simp only [avail, List.length_append, Lib.beBytes_length]; omega) h.dlt').mono ?_
  rintro e w' ⟨rfl, r1, k1⟩
  exact ⟨rfl, h.call k1 r1 (by simp; omega)⟩
theorem ms_table (fs : List Fld) (hwf : WfFs fs) (hf : fitsB fs = true) (rest : List UInt8) (h : MS w0 b d msg T loc [] cells (encT fs ++ rest) w) :
    Calls Tryz.prog 145 #[bufR b] w fun e w' => ∃ tb, e = .returned (.tuple #[.map (some tb), .nilIface]) ∧ MS w0 b d msg T loc [(.map (some tb), fs)] cells rest w' := by
  have hz := h.sz
  obtain ⟨f1, f2⟩ := (fitsB_iff fs).1 hf
  refine (rtable_all fs none 6 w (bufR b) [b] d [] rest hwf f1 f2 (by omega) h.rd hz (by simp [avail]) h.dlt').mono ?_
  rintro e w' ⟨tb, es, rfl, a0, a1, a2, r1, k1⟩
  have hc := h.call k1 r1 (by simp)
  exact ⟨tb, rfl, hc.rd, hc.blk, hc.kept, hc.nb, hc.nd, hc.blt, hc.dlt, hc.mlt, hc.sz, hc.loc, fun e he => by
    simp at he
    subst he
    exact ⟨tb, es, rfl, Nat.le_trans h.kept.size a0, a1, PF.mono (fun x hx _ => Nat.le_trans h.kept.size hx) _ a2⟩⟩
end
end Go.Proofs.YtkcdakohmfodjaaGreat
namespace Go.Proofs.YtkcdakohmfodjaaGreat
open Go.Shelf Go.RowKit Go.Lib Go.Sort
set_option linter.unusedVariables false
set_option linter.unusedSimpArgs false
/-- A field's cells: its name and its value's seven cells. -/
structure FEl where
  name : List UInt8
  cells : List Value
  len : cells.length = 7
  one : ∀ v ∈ cells, v.oneCell' = true
def FEl.enc (x : FEl) : List Value := .string (bstr x.name) :: x.cells
instance : Inhabited FEl := ⟨⟨[], List.replicate 7 (.int .u8 0), rfl, fun v hv => by rw [List.eq_of_mem_replicate hv]; rfl⟩⟩
theorem FEl.enc_len (x : FEl) : x.enc.length = 8 := by simp [FEl.enc, x.len]
theorem FEl.enc_one (x : FEl) : ∀ v ∈ x.enc, v.oneCell' = true := fun v hv => by
  rcases List.mem_cons.1 hv with rfl | hv
  · rfl
  · exact x.one v hv
/-- The order of impl.fields. -/
def cfF (x y : FEl) : Int := if Op.bytesLess x.name y.name then -1 else 1
theorem ltF (x y : FEl) : ltOf cfF x y = Op.bytesLess x.name y.name := by
  unfold ltOf cfF
  cases Op.bytesLess x.name y.name <;> simp
theorem swoF : SWO (ltOf cfF) where
  irrefl x := by rw [ltF]; exact bytesLess_irrefl _
  trans x y z h1 h2 := by rw [ltF] at *; exact bytesLess_trans _ _ _ h1 h2
  ntrans x y z h1 h2 := by
    rw [ltF] at *
    cases h : Op.bytesLess x.name z.name with
    | false => rfl
    | true =>
      exfalso
      cases h' : Op.bytesLess y.name x.name with
      | true => have := bytesLess_trans _ _ _ h' h; rw [h2] at this; cases this
      | false => rw [bytesLess_tri _ _ h1 h', h2] at h; cases h
/-- A list of pairs: the cells of each as the sort has them, and the field that it is. -/
def PF8 (B : Nat → Prop) (w : World) (cs : List Value) (p : FEl × Fld) : Prop := cs = p.1.enc ∧ p.2.name = p.1.name ∧ VHeld B w p.1.cells p.2.val
theorem bears_pf8 : Bears 8 PF8 := ⟨fun ⟨h1, h2, h3⟩ hk hB => ⟨h1, h2, VHeld.kept hk hB _ h3⟩, fun ⟨h1, h2, h3⟩ hB => ⟨h1, h2, VHeld.mono hB _ h3⟩, fun ⟨h1, _, _⟩ => by rw [h1, FEl.enc_len], fun ⟨h1, _, _⟩ u hu => by rw [h1] at hu; exact FEl.enc_one _ u hu⟩
theorem flat_get (l : List FEl) : ∀ (j : Nat) (u : Value), (l.flatMap FEl.enc)[j]? = some u → j < l.length * 8 ∧ (FEl.enc l[j / 8]!)[j % 8]! = u := by
  induction l with
  | nil => intro j u h; simp at h
  | cons x l ih =>
    intro j u h
    rw [List.flatMap_cons] at h
    by_cases hj : j < 8
    · rw [List.getElem?_append_left (by rw [FEl.enc_len]; exact hj)] at h
      refine ⟨by simp; omega, ?_⟩
      rw [show j / 8 = 0 by omega, show j % 8 = j by omega]
      simp [h]
    · rw [List.getElem?_append_right (by rw [FEl.enc_len]; omega), FEl.enc_len] at h
      obtain ⟨h1, h2⟩ := ih (j - 8) u h
      refine ⟨by simp; omega, ?_⟩
      rw [show j / 8 = (j - 8) / 8 + 1 by omega, show j % 8 = (j - 8) % 8 by omega]
      simpa using h2
theorem flat_len : ∀ (l : List FEl), (l.flatMap FEl.enc).length = l.length * 8
  | [] => rfl
  | x :: l => by rw [List.flatMap_cons, List.length_append, FEl.enc_len, flat_len l, List.length_cons]; omega
theorem flat_some (l : List FEl) (j : Nat) (hj : j < l.length * 8) : (l.flatMap FEl.enc)[j]? = some ((FEl.enc l[j / 8]!)[j % 8]!) := by
  cases h : (l.flatMap FEl.enc)[j]? with
  | none => rw [List.getElem?_eq_none_iff, flat_len] at h; omega
  | some u => rw [(flat_get l j u h).2]
theorem ecells_flat {B : Nat → Prop} {w : World} : ∀ (xs : List (FEl × Fld)) (cells : List Value), ECells 8 (PF8 B w) cells xs → cells = (xs.map Prod.fst).flatMap FEl.enc
  | [], cells, h => h
  | x :: xs, cells, h => by
    obtain ⟨cs, rest, rfl, h2, ⟨h3, _⟩, h5⟩ := h
    rw [ecells_flat xs rest h5, h3]
    simp
theorem flat_ecells {B : Nat → Prop} {w : World} : ∀ (xs : List (FEl × Fld)), (∀ p ∈ xs, PF8 B w p.1.enc p) → ECells 8 (FHeld B w) ((xs.map Prod.fst).flatMap FEl.enc) (xs.map Prod.snd)
  | [], _ => rfl
  | x :: xs, h => by
    obtain ⟨_, h2, h3⟩ := h x (by simp)
    refine ⟨x.1.enc, (xs.map Prod.fst).flatMap FEl.enc, by simp, FEl.enc_len _, ⟨x.1.cells, by rw [h2]; rfl, h3⟩, flat_ecells xs (fun p hp => h p (by simp [hp]))⟩
theorem ecells_all {B : Nat → Prop} {w : World} : ∀ (xs : List (FEl × Fld)) (cells : List Value), ECells 8 (PF8 B w) cells xs → ∀ p ∈ xs, PF8 B w p.1.enc p
  | [], _, _, p, hp => by cases hp
  | x :: xs, cells, h, p, hp => by
    obtain ⟨cs, rest, rfl, h2, h3, h5⟩ := h
    rcases List.mem_cons.1 hp with rfl | hp
    · rw [← h3.1]; exact h3
    · exact ecells_all xs rest h5 p hp
def Tryz.sortFld_ren : Go.Shelf.Ren := ⟨fun | 6 => 151 | 15 => 162 | 14 => 161 | 28 => 174 | 29 => 175 | 20 => 166 | 21 => 167 | 22 => 168 | 23 => 169 | 24 => 170 | 25 => 171 | 26 => 172 | 27 => 173 | 46 => 178 | 47 => 179 | 48 => 180 | 49 => 181 | 50 => 182 | 57 => 183 | n => n, fun | 22 => 31 | 24 => 153 | 25 => 386 | 3 => 3 | 39 => 195 | 0 => 0 | 53 => 70 | 55 => 28 | 4 => 4 | 46 => 411 | 45 => 410 | 50 => 415 | 5 => 5 | 9 => 9 | 66 => 424 | 70 => 134 | 76 => 429 | 77 => 430 | n => n, fun | n => n⟩
theorem Tryz.sortFld : Go.Proofs.SlLaysF0.n6 Tryz.prog Tryz.sortFld_ren := {
  mixed := by kernel_rfl
  f6 := ⟨Tryz.f151.name, by decide, Tryz.func151.trans (congrArg some (by kernel_rfl))⟩
  f14 := ⟨Tryz.f161.name, by decide, Tryz.func161.trans (congrArg some (by kernel_rfl))⟩
  f15 := Tryz.func162.trans (congrArg some (by kernel_rfl))
  f20 := ⟨Tryz.f166.name, by decide, Tryz.func166.trans (congrArg some (by kernel_rfl))⟩
  f21 := ⟨Tryz.f167.name, by decide, Tryz.func167.trans (congrArg some (by kernel_rfl))⟩
  f22 := ⟨Tryz.f168.name, by decide, Tryz.func168.trans (congrArg some (by kernel_rfl))⟩
  f23 := ⟨Tryz.f169.name, by decide, Tryz.func169.trans (congrArg some (by kernel_rfl))⟩
  f24 := ⟨Tryz.f170.name, by decide, Tryz.func170.trans (congrArg some (by kernel_rfl))⟩
  f25 := ⟨Tryz.f171.name, by decide, Tryz.func171.trans (congrArg some (by kernel_rfl))⟩
  f26 := ⟨Tryz.f172.name, by decide, Tryz.func172.trans (congrArg some (by kernel_rfl))⟩
  f27 := ⟨Tryz.f173.name, by decide, Tryz.func173.trans (congrArg some (by kernel_rfl))⟩
  f28 := Tryz.func174.trans (congrArg some (by kernel_rfl))
  f29 := Tryz.func175.trans (congrArg some (by kernel_rfl))
  f46 := ⟨Tryz.f178.name, by decide, Tryz.func178.trans (congrArg some (by kernel_rfl))⟩
  f47 := Tryz.func179.trans (congrArg some (by kernel_rfl))
  f48 := Tryz.func180.trans (congrArg some (by kernel_rfl))
  f49 := ⟨Tryz.f181.name, by decide, Tryz.func181.trans (congrArg some (by kernel_rfl))⟩
  f50 := ⟨Tryz.f182.name, by decide, Tryz.func182.trans (congrArg some (by kernel_rfl))⟩
  f57 := ⟨Tryz.f183.name, by decide, Tryz.func183.trans (congrArg some (by kernel_rfl))⟩
  t0 := Tryz.underlying0
  a0 := Tryz.isAgg0
  z0 := Tryz.sizeOf0
  v0 := Tryz.zeroValue0
  t3 := Tryz.underlying3
  a3 := Tryz.isAgg3
  z3 := Tryz.sizeOf3
  v3 := Tryz.zeroValue3
  t4 := Tryz.underlying4
  a4 := Tryz.isAgg4
  z4 := Tryz.sizeOf4
  v4 := Tryz.zeroValue4
  t5 := Tryz.underlying5
  a5 := Tryz.isAgg5
  z5 := Tryz.sizeOf5
  v5 := Tryz.zeroValue5
  t9 := Tryz.underlying9
  a9 := Tryz.isAgg9
  z9 := Tryz.sizeOf9
  v9 := Tryz.zeroValue9
  t22 := Tryz.underlying31
  a22 := Tryz.isAgg31
  z22 := Tryz.sizeOf31
  v22 := Tryz.zeroValue31
  t25 := Tryz.underlying386
  a25 := Tryz.isAgg386
  z25 := Tryz.sizeOf386
  v25 := Tryz.zeroValue386
  t39 := Tryz.underlying195
  a39 := Tryz.isAgg195
  z39 := Tryz.sizeOf195
  v39 := Tryz.zeroValue195
  t45 := Tryz.underlying410
  a45 := Tryz.isAgg410
  z45 := Tryz.sizeOf410
  v45 := Tryz.zeroValue410
  t46 := Tryz.underlying411
  a46 := Tryz.isAgg411
  z46 := Tryz.sizeOf411
  v46 := Tryz.zeroValue411
  t50 := Tryz.underlying415
  a50 := Tryz.isAgg415
  z50 := Tryz.sizeOf415
  v50 := Tryz.zeroValue415
  t53 := Tryz.underlying70
  a53 := Tryz.isAgg70
  z53 := Tryz.sizeOf70
  v53 := Tryz.zeroValue70
  t55 := Tryz.underlying28
  a55 := Tryz.isAgg28
  z55 := Tryz.sizeOf28
  v55 := Tryz.zeroValue28
  t66 := Tryz.underlying424
  a66 := Tryz.isAgg424
  z66 := Tryz.sizeOf424
  v66 := Tryz.zeroValue424
  t70 := Tryz.underlying134
  a70 := Tryz.isAgg134
  z70 := Tryz.sizeOf134
  v70 := Tryz.zeroValue134
  t76 := Tryz.underlying429
  a76 := Tryz.isAgg429
  z76 := Tryz.sizeOf429
  v76 := Tryz.zeroValue429
  t77 := Tryz.underlying430
  a77 := Tryz.isAgg430
  z77 := Tryz.sizeOf430
  v77 := Tryz.zeroValue430 }
theorem fld_agg : ∀ w, (isAgg 153).run Tryz.prog w = .ok true w := fun w => by kernel_rfl
theorem fld_size : ∀ w, (Go.sizeOf 153).run Tryz.prog w = .ok 8 w := fun w => by kernel_rfl
set_option maxHeartbeats 1000000 in
set_option maxRecDepth 100000 in
/-- The closure of impl.fields. -/
theorem cmp_fld (x y : FEl) (W : World) : Calls Tryz.prog 152 #[.agg x.enc.toArray, .agg y.enc.toArray] W fun e w' => e = .returned (.int .i64 (cfF x y)) ∧ ∃ q os', w' = grow (W.drewN q) os' := by
  obtain ⟨nx, cx, lx, ox⟩ := x
  obtain ⟨ny, cy, ly, oy⟩ := y
  match cx, lx with
  | [a0, a1, a2, a3, a4, a5, a6], _ =>
  match cy, ly with
  | [b0, b1, b2, b3, b4, b5, b6], _ =>
  change Calls Tryz.prog 152 #[.agg #[.string (bstr nx), a0, a1, a2, a3, a4, a5, a6], .agg #[.string (bstr ny), b0, b1, b2, b3, b4, b5, b6]] W fun e w' => e = .returned (.int .i64 (if Op.bytesLess nx ny then -1 else 1)) ∧ ∃ q os', w' = grow (W.drewN q) os'
  clear ox oy lx ly
  cases hb : Op.bytesLess nx ny
  · simp only [Bool.false_eq_true, if_false]
    go_enter Tryz.func152, Tryz.ntmps152
    go_wp2
    go_ret
    exact ⟨rfl, 0, _, by rw [alloc_eq_grow, alloc_eq_grow, grow_grow]; rfl⟩
  · simp only [if_true]
    go_enter Tryz.func152, Tryz.ntmps152
    go_wp2
    go_ret
    exact ⟨rfl, 0, _, by rw [alloc_eq_grow, alloc_eq_grow, grow_grow]; rfl⟩
theorem cmpLays_fld (blk off size : Nat) (w : World) : CmpLays Tryz.prog 152 #[] FEl.enc 8 cfF blk off size w := fun _ _ _ _ x y => cmp_fld x y _
theorem sortWorld_kept (w : World) (g n : Nat) (d : Array FEl) (os : Array Obj) : Kept [g] w (sortWorldK FEl.enc 8 w g 0 n d os) := by
  refine ⟨rfl, rfl, rfl, size_sortWorldK_c FEl.enc 8 w g 0 n d os, fun k hk hn => ?_⟩
  have hgk : g ≠ k := fun e => hn (by simp [e])
  unfold sortWorldK grow
  have hsz : (putRowK FEl.enc 8 (Sort.ahead w n) g 0 d).heap.size = w.heap.size := size_putRowK FEl.enc 8 (Sort.ahead w n) g 0 d
  show ((putRowK FEl.enc 8 (Sort.ahead w n) g 0 d).heap ++ os)[k]? = _
  rw [Array.getElem?_append_left (by rw [hsz]; exact hk)]
  show (w.heap.modify g _)[k]? = _
  rw [Array.getElem?_modify]
  simp [hgk]
/-- The fields of an own row, sorted by their names. -/
theorem sort_any (xs : List (FEl × Fld)) (base : Nat) (w : World) (out : Value) (g : Nat) (hg : out.ownBlock = some g) (h : OwnE 153 8 PF8 base w out xs) (hlen : xs.length ≤ 140737488355328) :
    Calls Tryz.prog 151 #[out, .func (.func 152) #[] #[]] w fun e w' => e = .returned (.tuple #[]) ∧
      ∃ ys : List (FEl × Fld), ys.Perm xs ∧ (ys.map Prod.snd).Pairwise (fun x y => Op.bytesLess y.name x.name = false) ∧ FSl (fun b => base ≤ b) w' out (ys.map Prod.snd) ∧ Kept [g] w w' := by
  obtain ⟨cells, o1, o2, o3⟩ := h
  have hcells := ecells_flat xs cells o2
  have hall := ecells_all xs cells o2
  have hglt := own_lt o1 hg
  obtain ⟨ao, c, rfl, hc, hh⟩ := own_slice o1
  rcases hh with ⟨_, _, _, hn⟩ | ⟨g', rfl, hg', hcell⟩
  · rw [hn] at hg; cases hg
  obtain rfl : g = g' := by rw [hg'] at hg; simpa using hg.symm
  have hfr : ∀ i, w.frozen? ⟨g, i, none⟩ = false := by
    rcases o1.2 with ⟨h2, _⟩ | ⟨g2, cap, cur, h2, h3, h4, h5⟩
    · cases h2
    · obtain rfl : g = g2 := by simpa using (by injection h2 with h2; exact congrArg (fun a => (a.getD ⟨0, 0, none⟩).block) h2 : g = g2)
      intro i
      exact Blk.free (cs := cur) (t := 153) h4 i
  have hH : HoldsK FEl.enc 8 w g 0 (xs.map Prod.fst).toArray := by
    intro j hj
    simp only [size_flatK, List.size_toArray, List.length_map] at hj
    have hs := flat_some (xs.map Prod.fst) j (by simpa using hj)
    rw [← hcells] at hs
    refine ⟨?_, hfr _⟩
    rw [hcell j _ hs, get_flatK _ _ _ _ (by simpa using hj)]
    simp
  have hcon := AnyQ.slices_SortFunc Tryz.sortFld 8 fld_agg fld_size FEl.enc FEl.enc_len FEl.enc_one cfF swoF 152 #[] g 0 c (xs.map Prod.fst).toArray w (enters_of Tryz.func152 (by kernel_rfl) rfl) (cmpLays_fld g 0 _ w) hH hglt (by simp; omega)
  simp only [List.size_toArray, List.length_map] at hcon
  refine Calls.mono hcon ?_
  rintro e w' ⟨rfl, d', n, os, hp, hs, rfl⟩
  have hk := sortWorld_kept w g n d' os
  have hsz : d'.size = xs.length := by have := hp.1; simpa using this
  have hperm : d'.toList.Perm (xs.map Prod.fst) := by
    have := hp.2.2
    rw [show (d'.extract 0 xs.length) = d' by rw [← hsz]; simp, show ((xs.map Prod.fst).toArray.extract 0 xs.length) = (xs.map Prod.fst).toArray by simp [List.take_of_length_le]] at this
    simpa using this
  obtain ⟨ys, y1, y2⟩ := perm_lift Prod.fst hperm.symm xs rfl
  have hH' := holdsK_sortWorldK FEl.enc 8 w g 0 n (xs.map Prod.fst).toArray d' os hglt hH (by simpa using hsz)
  refine ⟨rfl, ys, y1, ?_, ?_, hk⟩
  · rw [List.pairwise_map]
    have hname : ∀ p ∈ ys, p.2.name = p.1.name := fun p hp => (hall p (y1.subset hp)).2.1
    rw [List.pairwise_iff_getElem]
    intro i j hi hj hij
    rw [hname _ (List.getElem_mem hi), hname _ (List.getElem_mem hj)]
    have hyl : ys.length = xs.length := y1.length_eq
    have := hs i j (Nat.zero_le _) hij (by omega)
    rw [ltF] at this
    have e1 : ∀ k (hk : k < ys.length), d'[k]! = ys[k].1 := fun k hk => by
      have : (ys.map Prod.fst)[k]? = some ys[k].1 := by simp [hk]
      rw [y2] at this
      rw [getElem!_pos d' k (by omega)]
      simpa [hsz, show k < xs.length by omega] using this
    rw [e1 i hi, e1 j hj] at this
    exact this
  · have hyl : ys.length = xs.length := y1.length_eq
    refine ⟨some ⟨g, 0, none⟩, c, by simp [hyl], by simpa [hyl] using hc, fun _ => rfl, ?_⟩
    refine fat_of (o3 g rfl) _ 0 ((ys.map Prod.fst).flatMap FEl.enc) (flat_ecells ys fun p hp => ?_) fun j u hj => ?_
    · have h0 := hall p (y1.subset hp)
      have h1 := bears_pf8.kept h0 hk (fun b hb => by simpa using fun e => hb.2 (by rw [e]; rfl))
      exact bears_pf8.mono h1 (fun b hb _ => hb.1)
    · rw [y2] at hj
      obtain ⟨j1, j2⟩ := flat_get d'.toList j u hj
      have := hH' j (by simpa using j1)
      rw [this.1, get_flatK _ _ _ _ (by simpa using j1)]
      simp only [id_eq, Option.some.injEq]
      rw [← j2]
      simp [Array.getElem!_eq_getD]
set_option maxHeartbeats 400000 in
theorem ins_nil (cmp : Value) (w : World) : Calls Tryz.prog 166 #[.slice none 0 0, .int .i64 0, .int .i64 0, cmp] w fun e w' => e = .returned (.tuple #[]) ∧ Kept [] w w' := by
  go_enter Tryz.func166, Tryz.ntmps166
  go_wp2
  refine wp_loop_rounds 1 ?_
  rw [rounds_succ]
  go_wp2
  go_end0
  exact ⟨rfl, Kept.refl _ _⟩
set_option maxHeartbeats 400000 in
theorem pdq_nil (lim : Int) (cmp : Value) (w : World) : Calls Tryz.prog 161 #[.slice none 0 0, .int .i64 0, .int .i64 0, .int .i64 lim, cmp] w fun e w' => e = .returned (.tuple #[]) ∧ Kept [] w w' := by
  have hc := ins_nil cmp w
  have HC := Lib.hid hc; clear hc
  go_enter Tryz.func161, Tryz.ntmps161
  go_wp2
  refine wp_loop_rounds 1 ?_
  rw [rounds_succ]
  go_wp2_with (go_at_call 166; refine HC.out.mono ?_; rintro e w1 ⟨rfl, hk⟩; have HK := Lib.hid hk; clear hk)
  (try simp only [Exit.inBlock, Exit.then]); refine bodyPost_ret (results_none rfl _ _ _) rfl ?_
  exact ⟨rfl, HK.out⟩
set_option maxHeartbeats 400000 in
theorem sort_nil (cmp : Value) (w : World) : Calls Tryz.prog 151 #[.slice none 0 0, cmp] w fun e w' => e = .returned (.tuple #[]) ∧ Kept [] w w' := by
  have hl : Calls Tryz.prog 162 #[.int .u64 0] w fun e w' => e = .returned (.int .i64 0) ∧ w' = w := Any.bits_Len (SlLaysF0.n15.bits (P := Tryz.prog) (ρ := Tryz.sortFld_ren) { Tryz.sortFld with }) 0 w (by decide) (by decide)
  have hp := pdq_nil 0 cmp w
  have HC := Lib.hid (And.intro hl hp); clear hl hp
  go_enter Tryz.func151, Tryz.ntmps151
  go_wp2_with (first | (go_at_call 162; refine HC.out.1.mono ?_; rintro e w' ⟨rfl, rfl⟩) | (go_at_call 161; refine HC.out.2.mono ?_; rintro e w1 ⟨rfl, hk⟩; have HK := Lib.hid hk; clear hk))
  go_end0
  exact ⟨rfl, HK.out⟩
end Go.Proofs.YtkcdakohmfodjaaGreat
namespace Go.Proofs.YtkcdakohmfodjaaGreat
open Go.RowKit
set_option linter.unusedVariables false
set_option linter.unusedSimpArgs false
theorem tn_mk {T : TypeId} (e : ∀ (u : TypeId) (v : Value) (w : World), (Instr.typeAssert (.iface u v) 128 T true).run Tryz.prog w = (if u = T then (pure (Value.tuple #[v, .bool true]) : Sem Value) else (do pure (Value.tuple #[← zeroValue T, .bool false]))).run Tryz.prog w)
    (z : ∀ w : World, (do pure (Value.tuple #[← zeroValue T, .bool false]) : Sem Value).run Tryz.prog w = .ok (.tuple #[.pointer none, .bool false]) w) {u : TypeId} (h : u ≠ T) : (∀ (v : Value) (w : World), (Instr.typeAssert (.iface u v) 128 T true).run Tryz.prog w = .ok (.tuple #[.pointer none, .bool false]) w) := fun v w => by
  rw [e, if_neg h]
  exact z w
theorem ty_mk {T : TypeId} (h : ∀ (v : Value) (w : World), (Instr.typeAssert (.iface T v) 128 T true).run Tryz.prog w = .ok (.tuple #[v, .bool true]) w) : ∀ (v : Value) (w : World), (Instr.typeAssert (.iface T v) 128 T true).run Tryz.prog w = .ok (.tuple #[v, .bool true]) w := h
def TN (T u : TypeId) : Prop := (∀ (v : Value) (w : World), (Instr.typeAssert (.iface u v) 128 T true).run Tryz.prog w = .ok (.tuple #[.pointer none, .bool false]) w)
theorem tn_0 {u : TypeId} (h : u ≠ 200) : TN 200 u := tn_mk (fun _ _ _ => by kernel_rfl) (fun _ => by kernel_rfl) h
theorem tn_1 {u : TypeId} (h : u ≠ 204) : TN 204 u := tn_mk (fun _ _ _ => by kernel_rfl) (fun _ => by kernel_rfl) h
theorem tn_2 {u : TypeId} (h : u ≠ 207) : TN 207 u := tn_mk (fun _ _ _ => by kernel_rfl) (fun _ => by kernel_rfl) h
theorem tn_3 {u : TypeId} (h : u ≠ 210) : TN 210 u := tn_mk (fun _ _ _ => by kernel_rfl) (fun _ => by kernel_rfl) h
theorem tn_4 {u : TypeId} (h : u ≠ 213) : TN 213 u := tn_mk (fun _ _ _ => by kernel_rfl) (fun _ => by kernel_rfl) h
theorem tn_5 {u : TypeId} (h : u ≠ 216) : TN 216 u := tn_mk (fun _ _ _ => by kernel_rfl) (fun _ => by kernel_rfl) h
theorem tn_6 {u : TypeId} (h : u ≠ 218) : TN 218 u := tn_mk (fun _ _ _ => by kernel_rfl) (fun _ => by kernel_rfl) h
theorem tn_7 {u : TypeId} (h : u ≠ 221) : TN 221 u := tn_mk (fun _ _ _ => by kernel_rfl) (fun _ => by kernel_rfl) h
theorem tn_8 {u : TypeId} (h : u ≠ 224) : TN 224 u := tn_mk (fun _ _ _ => by kernel_rfl) (fun _ => by kernel_rfl) h
theorem tn_9 {u : TypeId} (h : u ≠ 227) : TN 227 u := tn_mk (fun _ _ _ => by kernel_rfl) (fun _ => by kernel_rfl) h
theorem tn_10 {u : TypeId} (h : u ≠ 230) : TN 230 u := tn_mk (fun _ _ _ => by kernel_rfl) (fun _ => by kernel_rfl) h
theorem tn_11 {u : TypeId} (h : u ≠ 233) : TN 233 u := tn_mk (fun _ _ _ => by kernel_rfl) (fun _ => by kernel_rfl) h
theorem tn_12 {u : TypeId} (h : u ≠ 235) : TN 235 u := tn_mk (fun _ _ _ => by kernel_rfl) (fun _ => by kernel_rfl) h
theorem tn_13 {u : TypeId} (h : u ≠ 238) : TN 238 u := tn_mk (fun _ _ _ => by kernel_rfl) (fun _ => by kernel_rfl) h
theorem tn_14 {u : TypeId} (h : u ≠ 241) : TN 241 u := tn_mk (fun _ _ _ => by kernel_rfl) (fun _ => by kernel_rfl) h
theorem tn_15 {u : TypeId} (h : u ≠ 243) : TN 243 u := tn_mk (fun _ _ _ => by kernel_rfl) (fun _ => by kernel_rfl) h
theorem tn_16 {u : TypeId} (h : u ≠ 245) : TN 245 u := tn_mk (fun _ _ _ => by kernel_rfl) (fun _ => by kernel_rfl) h
theorem tn_17 {u : TypeId} (h : u ≠ 248) : TN 248 u := tn_mk (fun _ _ _ => by kernel_rfl) (fun _ => by kernel_rfl) h
theorem tn_18 {u : TypeId} (h : u ≠ 250) : TN 250 u := tn_mk (fun _ _ _ => by kernel_rfl) (fun _ => by kernel_rfl) h
theorem tn_19 {u : TypeId} (h : u ≠ 252) : TN 252 u := tn_mk (fun _ _ _ => by kernel_rfl) (fun _ => by kernel_rfl) h
theorem tn_20 {u : TypeId} (h : u ≠ 254) : TN 254 u := tn_mk (fun _ _ _ => by kernel_rfl) (fun _ => by kernel_rfl) h
theorem tn_21 {u : TypeId} (h : u ≠ 257) : TN 257 u := tn_mk (fun _ _ _ => by kernel_rfl) (fun _ => by kernel_rfl) h
theorem tn_22 {u : TypeId} (h : u ≠ 259) : TN 259 u := tn_mk (fun _ _ _ => by kernel_rfl) (fun _ => by kernel_rfl) h
theorem tn_23 {u : TypeId} (h : u ≠ 262) : TN 262 u := tn_mk (fun _ _ _ => by kernel_rfl) (fun _ => by kernel_rfl) h
theorem tn_24 {u : TypeId} (h : u ≠ 264) : TN 264 u := tn_mk (fun _ _ _ => by kernel_rfl) (fun _ => by kernel_rfl) h
theorem tn_25 {u : TypeId} (h : u ≠ 267) : TN 267 u := tn_mk (fun _ _ _ => by kernel_rfl) (fun _ => by kernel_rfl) h
theorem tn_26 {u : TypeId} (h : u ≠ 269) : TN 269 u := tn_mk (fun _ _ _ => by kernel_rfl) (fun _ => by kernel_rfl) h
theorem tn_27 {u : TypeId} (h : u ≠ 271) : TN 271 u := tn_mk (fun _ _ _ => by kernel_rfl) (fun _ => by kernel_rfl) h
theorem tn_28 {u : TypeId} (h : u ≠ 273) : TN 273 u := tn_mk (fun _ _ _ => by kernel_rfl) (fun _ => by kernel_rfl) h
theorem tn_29 {u : TypeId} (h : u ≠ 276) : TN 276 u := tn_mk (fun _ _ _ => by kernel_rfl) (fun _ => by kernel_rfl) h
theorem tn_30 {u : TypeId} (h : u ≠ 279) : TN 279 u := tn_mk (fun _ _ _ => by kernel_rfl) (fun _ => by kernel_rfl) h
theorem tn_31 {u : TypeId} (h : u ≠ 282) : TN 282 u := tn_mk (fun _ _ _ => by kernel_rfl) (fun _ => by kernel_rfl) h
theorem tn_32 {u : TypeId} (h : u ≠ 284) : TN 284 u := tn_mk (fun _ _ _ => by kernel_rfl) (fun _ => by kernel_rfl) h
theorem tn_33 {u : TypeId} (h : u ≠ 287) : TN 287 u := tn_mk (fun _ _ _ => by kernel_rfl) (fun _ => by kernel_rfl) h
theorem tn_34 {u : TypeId} (h : u ≠ 289) : TN 289 u := tn_mk (fun _ _ _ => by kernel_rfl) (fun _ => by kernel_rfl) h
theorem tn_35 {u : TypeId} (h : u ≠ 292) : TN 292 u := tn_mk (fun _ _ _ => by kernel_rfl) (fun _ => by kernel_rfl) h
theorem tn_36 {u : TypeId} (h : u ≠ 295) : TN 295 u := tn_mk (fun _ _ _ => by kernel_rfl) (fun _ => by kernel_rfl) h
theorem tn_37 {u : TypeId} (h : u ≠ 298) : TN 298 u := tn_mk (fun _ _ _ => by kernel_rfl) (fun _ => by kernel_rfl) h
theorem tn_38 {u : TypeId} (h : u ≠ 300) : TN 300 u := tn_mk (fun _ _ _ => by kernel_rfl) (fun _ => by kernel_rfl) h
theorem tn_39 {u : TypeId} (h : u ≠ 303) : TN 303 u := tn_mk (fun _ _ _ => by kernel_rfl) (fun _ => by kernel_rfl) h
theorem tn_40 {u : TypeId} (h : u ≠ 305) : TN 305 u := tn_mk (fun _ _ _ => by kernel_rfl) (fun _ => by kernel_rfl) h
theorem tn_41 {u : TypeId} (h : u ≠ 308) : TN 308 u := tn_mk (fun _ _ _ => by kernel_rfl) (fun _ => by kernel_rfl) h
theorem tn_42 {u : TypeId} (h : u ≠ 311) : TN 311 u := tn_mk (fun _ _ _ => by kernel_rfl) (fun _ => by kernel_rfl) h
theorem tn_43 {u : TypeId} (h : u ≠ 314) : TN 314 u := tn_mk (fun _ _ _ => by kernel_rfl) (fun _ => by kernel_rfl) h
theorem tn_44 {u : TypeId} (h : u ≠ 316) : TN 316 u := tn_mk (fun _ _ _ => by kernel_rfl) (fun _ => by kernel_rfl) h
theorem tn_45 {u : TypeId} (h : u ≠ 319) : TN 319 u := tn_mk (fun _ _ _ => by kernel_rfl) (fun _ => by kernel_rfl) h
theorem tn_46 {u : TypeId} (h : u ≠ 322) : TN 322 u := tn_mk (fun _ _ _ => by kernel_rfl) (fun _ => by kernel_rfl) h
theorem tn_47 {u : TypeId} (h : u ≠ 325) : TN 325 u := tn_mk (fun _ _ _ => by kernel_rfl) (fun _ => by kernel_rfl) h
theorem tn_48 {u : TypeId} (h : u ≠ 328) : TN 328 u := tn_mk (fun _ _ _ => by kernel_rfl) (fun _ => by kernel_rfl) h
theorem tn_49 {u : TypeId} (h : u ≠ 331) : TN 331 u := tn_mk (fun _ _ _ => by kernel_rfl) (fun _ => by kernel_rfl) h
theorem tn_50 {u : TypeId} (h : u ≠ 333) : TN 333 u := tn_mk (fun _ _ _ => by kernel_rfl) (fun _ => by kernel_rfl) h
theorem tn_51 {u : TypeId} (h : u ≠ 336) : TN 336 u := tn_mk (fun _ _ _ => by kernel_rfl) (fun _ => by kernel_rfl) h
theorem tn_52 {u : TypeId} (h : u ≠ 339) : TN 339 u := tn_mk (fun _ _ _ => by kernel_rfl) (fun _ => by kernel_rfl) h
theorem tn_53 {u : TypeId} (h : u ≠ 342) : TN 342 u := tn_mk (fun _ _ _ => by kernel_rfl) (fun _ => by kernel_rfl) h
theorem tn_54 {u : TypeId} (h : u ≠ 344) : TN 344 u := tn_mk (fun _ _ _ => by kernel_rfl) (fun _ => by kernel_rfl) h
theorem tn_55 {u : TypeId} (h : u ≠ 346) : TN 346 u := tn_mk (fun _ _ _ => by kernel_rfl) (fun _ => by kernel_rfl) h
theorem tn_56 {u : TypeId} (h : u ≠ 349) : TN 349 u := tn_mk (fun _ _ _ => by kernel_rfl) (fun _ => by kernel_rfl) h
theorem tn_57 {u : TypeId} (h : u ≠ 351) : TN 351 u := tn_mk (fun _ _ _ => by kernel_rfl) (fun _ => by kernel_rfl) h
theorem tn_58 {u : TypeId} (h : u ≠ 353) : TN 353 u := tn_mk (fun _ _ _ => by kernel_rfl) (fun _ => by kernel_rfl) h
theorem tn_59 {u : TypeId} (h : u ≠ 355) : TN 355 u := tn_mk (fun _ _ _ => by kernel_rfl) (fun _ => by kernel_rfl) h
theorem tn_60 {u : TypeId} (h : u ≠ 357) : TN 357 u := tn_mk (fun _ _ _ => by kernel_rfl) (fun _ => by kernel_rfl) h
theorem tn_61 {u : TypeId} (h : u ≠ 359) : TN 359 u := tn_mk (fun _ _ _ => by kernel_rfl) (fun _ => by kernel_rfl) h
theorem tn_62 {u : TypeId} (h : u ≠ 361) : TN 361 u := tn_mk (fun _ _ _ => by kernel_rfl) (fun _ => by kernel_rfl) h
theorem tng_0 {u : TypeId} (h : u ≠ 200 ∧ u ≠ 204 ∧ u ≠ 207 ∧ u ≠ 210 ∧ u ≠ 213 ∧ u ≠ 216 ∧ u ≠ 218 ∧ u ≠ 221) : (∀ (v : Value) (w : World), (Instr.typeAssert (.iface u v) 128 200 true).run Tryz.prog w = .ok (.tuple #[.pointer none, .bool false]) w) ∧ (∀ (v : Value) (w : World), (Instr.typeAssert (.iface u v) 128 204 true).run Tryz.prog w = .ok (.tuple #[.pointer none, .bool false]) w) ∧ (∀ (v : Value) (w : World), (Instr.typeAssert (.iface u v) 128 207 true).run Tryz.prog w = .ok (.tuple #[.pointer none, .bool false]) w) ∧ (∀ (v : Value) (w : World), (Instr.typeAssert (.iface u v) 128 210 true).run Tryz.prog w = .ok (.tuple #[.pointer none, .bool false]) w) ∧ (∀ (v : Value) (w : World), (Instr.typeAssert (.iface u v) 128 213 true).run Tryz.prog w = .ok (.tuple #[.pointer none, .bool false]) w) ∧ (∀ (v : Value) (w : World), (Instr.typeAssert (.iface u v) 128 216 true).run Tryz.prog w = .ok (.tuple #[.pointer none, .bool false]) w) ∧ (∀ (v : Value) (w : World), (Instr.typeAssert (.iface u v) 128 218 true).run Tryz.prog w = .ok (.tuple #[.pointer none, .bool false]) w) ∧ (∀ (v : Value) (w : World), (Instr.typeAssert (.iface u v) 128 221 true).run Tryz.prog w = .ok (.tuple #[.pointer none, .bool false]) w) :=
  ⟨tn_0 h.1, tn_1 h.2.1, tn_2 h.2.2.1, tn_3 h.2.2.2.1, tn_4 h.2.2.2.2.1, tn_5 h.2.2.2.2.2.1, tn_6 h.2.2.2.2.2.2.1, tn_7 h.2.2.2.2.2.2.2⟩
theorem tng_1 {u : TypeId} (h : u ≠ 224 ∧ u ≠ 227 ∧ u ≠ 230 ∧ u ≠ 233 ∧ u ≠ 235 ∧ u ≠ 238 ∧ u ≠ 241 ∧ u ≠ 243) : (∀ (v : Value) (w : World), (Instr.typeAssert (.iface u v) 128 224 true).run Tryz.prog w = .ok (.tuple #[.pointer none, .bool false]) w) ∧ (∀ (v : Value) (w : World), (Instr.typeAssert (.iface u v) 128 227 true).run Tryz.prog w = .ok (.tuple #[.pointer none, .bool false]) w) ∧ (∀ (v : Value) (w : World), (Instr.typeAssert (.iface u v) 128 230 true).run Tryz.prog w = .ok (.tuple #[.pointer none, .bool false]) w) ∧ (∀ (v : Value) (w : World), (Instr.typeAssert (.iface u v) 128 233 true).run Tryz.prog w = .ok (.tuple #[.pointer none, .bool false]) w) ∧ (∀ (v : Value) (w : World), (Instr.typeAssert (.iface u v) 128 235 true).run Tryz.prog w = .ok (.tuple #[.pointer none, .bool false]) w) ∧ (∀ (v : Value) (w : World), (Instr.typeAssert (.iface u v) 128 238 true).run Tryz.prog w = .ok (.tuple #[.pointer none, .bool false]) w) ∧ (∀ (v : Value) (w : World), (Instr.typeAssert (.iface u v) 128 241 true).run Tryz.prog w = .ok (.tuple #[.pointer none, .bool false]) w) ∧ (∀ (v : Value) (w : World), (Instr.typeAssert (.iface u v) 128 243 true).run Tryz.prog w = .ok (.tuple #[.pointer none, .bool false]) w) :=
  ⟨tn_8 h.1, tn_9 h.2.1, tn_10 h.2.2.1, tn_11 h.2.2.2.1, tn_12 h.2.2.2.2.1, tn_13 h.2.2.2.2.2.1, tn_14 h.2.2.2.2.2.2.1, tn_15 h.2.2.2.2.2.2.2⟩
theorem tng_2 {u : TypeId} (h : u ≠ 245 ∧ u ≠ 248 ∧ u ≠ 250 ∧ u ≠ 252 ∧ u ≠ 254 ∧ u ≠ 257 ∧ u ≠ 259 ∧ u ≠ 262) : (∀ (v : Value) (w : World), (Instr.typeAssert (.iface u v) 128 245 true).run Tryz.prog w = .ok (.tuple #[.pointer none, .bool false]) w) ∧ (∀ (v : Value) (w : World), (Instr.typeAssert (.iface u v) 128 248 true).run Tryz.prog w = .ok (.tuple #[.pointer none, .bool false]) w) ∧ (∀ (v : Value) (w : World), (Instr.typeAssert (.iface u v) 128 250 true).run Tryz.prog w = .ok (.tuple #[.pointer none, .bool false]) w) ∧ (∀ (v : Value) (w : World), (Instr.typeAssert (.iface u v) 128 252 true).run Tryz.prog w = .ok (.tuple #[.pointer none, .bool false]) w) ∧ (∀ (v : Value) (w : World), (Instr.typeAssert (.iface u v) 128 254 true).run Tryz.prog w = .ok (.tuple #[.pointer none, .bool false]) w) ∧ (∀ (v : Value) (w : World), (Instr.typeAssert (.iface u v) 128 257 true).run Tryz.prog w = .ok (.tuple #[.pointer none, .bool false]) w) ∧ (∀ (v : Value) (w : World), (Instr.typeAssert (.iface u v) 128 259 true).run Tryz.prog w = .ok (.tuple #[.pointer none, .bool false]) w) ∧ (∀ (v : Value) (w : World), (Instr.typeAssert (.iface u v) 128 262 true).run Tryz.prog w = .ok (.tuple #[.pointer none, .bool false]) w) :=
  ⟨tn_16 h.1, tn_17 h.2.1, tn_18 h.2.2.1, tn_19 h.2.2.2.1, tn_20 h.2.2.2.2.1, tn_21 h.2.2.2.2.2.1, tn_22 h.2.2.2.2.2.2.1, tn_23 h.2.2.2.2.2.2.2⟩
theorem tng_3 {u : TypeId} (h : u ≠ 264 ∧ u ≠ 267 ∧ u ≠ 269 ∧ u ≠ 271 ∧ u ≠ 273 ∧ u ≠ 276 ∧ u ≠ 279 ∧ u ≠ 282) : (∀ (v : Value) (w : World), (Instr.typeAssert (.iface u v) 128 264 true).run Tryz.prog w = .ok (.tuple #[.pointer none, .bool false]) w) ∧ (∀ (v : Value) (w : World), (Instr.typeAssert (.iface u v) 128 267 true).run Tryz.prog w = .ok (.tuple #[.pointer none, .bool false]) w) ∧ (∀ (v : Value) (w : World), (Instr.typeAssert (.iface u v) 128 269 true).run Tryz.prog w = .ok (.tuple #[.pointer none, .bool false]) w) ∧ (∀ (v : Value) (w : World), (Instr.typeAssert (.iface u v) 128 271 true).run Tryz.prog w = .ok (.tuple #[.pointer none, .bool false]) w) ∧ (∀ (v : Value) (w : World), (Instr.typeAssert (.iface u v) 128 273 true).run Tryz.prog w = .ok (.tuple #[.pointer none, .bool false]) w) ∧ (∀ (v : Value) (w : World), (Instr.typeAssert (.iface u v) 128 276 true).run Tryz.prog w = .ok (.tuple #[.pointer none, .bool false]) w) ∧ (∀ (v : Value) (w : World), (Instr.typeAssert (.iface u v) 128 279 true).run Tryz.prog w = .ok (.tuple #[.pointer none, .bool false]) w) ∧ (∀ (v : Value) (w : World), (Instr.typeAssert (.iface u v) 128 282 true).run Tryz.prog w = .ok (.tuple #[.pointer none, .bool false]) w) :=
  ⟨tn_24 h.1, tn_25 h.2.1, tn_26 h.2.2.1, tn_27 h.2.2.2.1, tn_28 h.2.2.2.2.1, tn_29 h.2.2.2.2.2.1, tn_30 h.2.2.2.2.2.2.1, tn_31 h.2.2.2.2.2.2.2⟩
theorem tng_4 {u : TypeId} (h : u ≠ 284 ∧ u ≠ 287 ∧ u ≠ 289 ∧ u ≠ 292 ∧ u ≠ 295 ∧ u ≠ 298 ∧ u ≠ 300 ∧ u ≠ 303) : (∀ (v : Value) (w : World), (Instr.typeAssert (.iface u v) 128 284 true).run Tryz.prog w = .ok (.tuple #[.pointer none, .bool false]) w) ∧ (∀ (v : Value) (w : World), (Instr.typeAssert (.iface u v) 128 287 true).run Tryz.prog w = .ok (.tuple #[.pointer none, .bool false]) w) ∧ (∀ (v : Value) (w : World), (Instr.typeAssert (.iface u v) 128 289 true).run Tryz.prog w = .ok (.tuple #[.pointer none, .bool false]) w) ∧ (∀ (v : Value) (w : World), (Instr.typeAssert (.iface u v) 128 292 true).run Tryz.prog w = .ok (.tuple #[.pointer none, .bool false]) w) ∧ (∀ (v : Value) (w : World), (Instr.typeAssert (.iface u v) 128 295 true).run Tryz.prog w = .ok (.tuple #[.pointer none, .bool false]) w) ∧ (∀ (v : Value) (w : World), (Instr.typeAssert (.iface u v) 128 298 true).run Tryz.prog w = .ok (.tuple #[.pointer none, .bool false]) w) ∧ (∀ (v : Value) (w : World), (Instr.typeAssert (.iface u v) 128 300 true).run Tryz.prog w = .ok (.tuple #[.pointer none, .bool false]) w) ∧ (∀ (v : Value) (w : World), (Instr.typeAssert (.iface u v) 128 303 true).run Tryz.prog w = .ok (.tuple #[.pointer none, .bool false]) w) :=
  ⟨tn_32 h.1, tn_33 h.2.1, tn_34 h.2.2.1, tn_35 h.2.2.2.1, tn_36 h.2.2.2.2.1, tn_37 h.2.2.2.2.2.1, tn_38 h.2.2.2.2.2.2.1, tn_39 h.2.2.2.2.2.2.2⟩
theorem tng_5 {u : TypeId} (h : u ≠ 305 ∧ u ≠ 308 ∧ u ≠ 311 ∧ u ≠ 314 ∧ u ≠ 316 ∧ u ≠ 319 ∧ u ≠ 322 ∧ u ≠ 325) : (∀ (v : Value) (w : World), (Instr.typeAssert (.iface u v) 128 305 true).run Tryz.prog w = .ok (.tuple #[.pointer none, .bool false]) w) ∧ (∀ (v : Value) (w : World), (Instr.typeAssert (.iface u v) 128 308 true).run Tryz.prog w = .ok (.tuple #[.pointer none, .bool false]) w) ∧ (∀ (v : Value) (w : World), (Instr.typeAssert (.iface u v) 128 311 true).run Tryz.prog w = .ok (.tuple #[.pointer none, .bool false]) w) ∧ (∀ (v : Value) (w : World), (Instr.typeAssert (.iface u v) 128 314 true).run Tryz.prog w = .ok (.tuple #[.pointer none, .bool false]) w) ∧ (∀ (v : Value) (w : World), (Instr.typeAssert (.iface u v) 128 316 true).run Tryz.prog w = .ok (.tuple #[.pointer none, .bool false]) w) ∧ (∀ (v : Value) (w : World), (Instr.typeAssert (.iface u v) 128 319 true).run Tryz.prog w = .ok (.tuple #[.pointer none, .bool false]) w) ∧ (∀ (v : Value) (w : World), (Instr.typeAssert (.iface u v) 128 322 true).run Tryz.prog w = .ok (.tuple #[.pointer none, .bool false]) w) ∧ (∀ (v : Value) (w : World), (Instr.typeAssert (.iface u v) 128 325 true).run Tryz.prog w = .ok (.tuple #[.pointer none, .bool false]) w) :=
  ⟨tn_40 h.1, tn_41 h.2.1, tn_42 h.2.2.1, tn_43 h.2.2.2.1, tn_44 h.2.2.2.2.1, tn_45 h.2.2.2.2.2.1, tn_46 h.2.2.2.2.2.2.1, tn_47 h.2.2.2.2.2.2.2⟩
theorem tng_6 {u : TypeId} (h : u ≠ 328 ∧ u ≠ 331 ∧ u ≠ 333 ∧ u ≠ 336 ∧ u ≠ 339 ∧ u ≠ 342 ∧ u ≠ 344 ∧ u ≠ 346) : (∀ (v : Value) (w : World), (Instr.typeAssert (.iface u v) 128 328 true).run Tryz.prog w = .ok (.tuple #[.pointer none, .bool false]) w) ∧ (∀ (v : Value) (w : World), (Instr.typeAssert (.iface u v) 128 331 true).run Tryz.prog w = .ok (.tuple #[.pointer none, .bool false]) w) ∧ (∀ (v : Value) (w : World), (Instr.typeAssert (.iface u v) 128 333 true).run Tryz.prog w = .ok (.tuple #[.pointer none, .bool false]) w) ∧ (∀ (v : Value) (w : World), (Instr.typeAssert (.iface u v) 128 336 true).run Tryz.prog w = .ok (.tuple #[.pointer none, .bool false]) w) ∧ (∀ (v : Value) (w : World), (Instr.typeAssert (.iface u v) 128 339 true).run Tryz.prog w = .ok (.tuple #[.pointer none, .bool false]) w) ∧ (∀ (v : Value) (w : World), (Instr.typeAssert (.iface u v) 128 342 true).run Tryz.prog w = .ok (.tuple #[.pointer none, .bool false]) w) ∧ (∀ (v : Value) (w : World), (Instr.typeAssert (.iface u v) 128 344 true).run Tryz.prog w = .ok (.tuple #[.pointer none, .bool false]) w) ∧ (∀ (v : Value) (w : World), (Instr.typeAssert (.iface u v) 128 346 true).run Tryz.prog w = .ok (.tuple #[.pointer none, .bool false]) w) :=
  ⟨tn_48 h.1, tn_49 h.2.1, tn_50 h.2.2.1, tn_51 h.2.2.2.1, tn_52 h.2.2.2.2.1, tn_53 h.2.2.2.2.2.1, tn_54 h.2.2.2.2.2.2.1, tn_55 h.2.2.2.2.2.2.2⟩
end Go.Proofs.YtkcdakohmfodjaaGreat
