/-
  Lemmas on the way to the statement of YtkcdakohmfodjaaGreatHeader, joined out of these texts: HpW, Pg, Pv, Hprop. No condition.
-/
import Derived.Test.YtkcdakohmfodjaaGreatNConvV
import Derived.Test.YtkcdakohmfodjaaGreatNLim
import Derived.Test.YtkcdakohmfodjaaGreatNOwn
import Derived.Test.YtkcdakohmfodjaaGreatNRstr
import Derived.Test.YtkcdakohmfodjaaGreatNValLaw
namespace Go.Proofs.YtkcdakohmfodjaaGreat
open Go.RowKit
set_option linter.unusedVariables false
set_option linter.unusedSimpArgs false
def hpB (p : HP) : List Value := [.bool (p.has 0), .bool (p.has 1), .bool (p.has 2), .bool (p.has 3), .bool (p.has 4), .bool (p.has 5), .bool (p.has 6), .bool (p.has 7), .bool (p.has 8), .bool (p.has 9), .bool (p.has 10), .bool (p.has 11), .bool (p.has 12), .bool (p.has 13)]
def hpT (p : HP) : List Value := [.string (bstr (p.txt 0)), .string (bstr (p.txt 1)), .string (bstr (p.txt 2)), .string (bstr (p.txt 3)), .string (bstr (p.txt 4)), .string (bstr (p.txt 5)), .string (bstr (p.txt 6)), .string (bstr (p.txt 7)), .string (bstr (p.txt 8)), .string (bstr (p.txt 9)), .string (bstr (p.txt 10)), .string (bstr (p.txt 11)), .string (bstr (p.txt 12)), .string (bstr (p.txt 13))]
/-- The 32 cells of properties; hv: the slice of the headers. -/
def hpC (p : HP) (hv : Value) : List Value := hpB p ++ (hpT p ++ [.int .i64 p.mode, .int .i64 p.prio, .int .i64 p.time, hv])
/-- Sizes that the machine bears. -/
structure WfP (p : HP) : Prop where
  txt : ∀ i, i < 14 → (p.txt i).length ≤ 140737488355328
  hdr : WfFs p.hdr
  hlen : p.hdr.length ≤ 140737488355328
  mode : -9223372036854775808 ≤ p.mode ∧ p.mode ≤ 9223372036854775807
  prio : -9223372036854775808 ≤ p.prio ∧ p.prio ≤ 9223372036854775807
  time : -9223372036854775808 ≤ p.time ∧ p.time ≤ 9223372036854775807
theorem size_14b : (Tryz.prog.info? 29).map (·.size) = some 14 := by kernel_rfl
theorem size_14s : (Tryz.prog.info? 30).map (·.size) = some 14 := by kernel_rfl
theorem size_iPr : (Tryz.prog.info? 33).map (·.size) = some 32 := by kernel_rfl
theorem size_sPr : (Tryz.prog.info? 54).map (·.size) = some 32 := by kernel_rfl
theorem hpC_len (p : HP) (hv : Value) : (hpC p hv).length = 32 := rfl
theorem hpB_get (p : HP) (hv : Value) (j : Nat) (u : Value) (h : (hpB p)[j]? = some u) : (hpC p hv)[j]? = some u := by
  unfold hpC
  rw [List.getElem?_append_left (List.getElem?_eq_some_iff.1 h).1]; exact h
theorem hpT_get (p : HP) (hv : Value) (j : Nat) (u : Value) (h : (hpT p)[j]? = some u) : (hpC p hv)[14 + j]? = some u := by
  have hl := (List.getElem?_eq_some_iff.1 h).1
  have hb : (hpB p).length = 14 := rfl
  unfold hpC
  rw [List.getElem?_append_right (by omega), hb, Nat.add_sub_cancel_left, List.getElem?_append_left hl]; exact h
theorem hpT_at (p : HP) (i : Nat) (hi : i < 14) : (hpT p)[i]? = some (.string (bstr (p.txt i))) := by
  have : i = 0 ∨ i = 1 ∨ i = 2 ∨ i = 3 ∨ i = 4 ∨ i = 5 ∨ i = 6 ∨ i = 7 ∨ i = 8 ∨ i = 9 ∨ i = 10 ∨ i = 11 ∨ i = 12 ∨ i = 13 := by omega
  rcases this with rfl | rfl | rfl | rfl | rfl | rfl | rfl | rfl | rfl | rfl | rfl | rfl | rfl | rfl <;> rfl
theorem hpB_at (p : HP) (i : Nat) (hi : i < 14) : (hpB p)[i]? = some (.bool (p.has i)) := by
  have : i = 0 ∨ i = 1 ∨ i = 2 ∨ i = 3 ∨ i = 4 ∨ i = 5 ∨ i = 6 ∨ i = 7 ∨ i = 8 ∨ i = 9 ∨ i = 10 ∨ i = 11 ∨ i = 12 ∨ i = 13 := by omega
  rcases this with rfl | rfl | rfl | rfl | rfl | rfl | rfl | rfl | rfl | rfl | rfl | rfl | rfl | rfl <;> rfl
theorem hpC_one (p : HP) (hv : Value) (h : hv.oneCell' = true) : ∀ u ∈ hpC p hv, u.oneCell' = true := by
  intro u hu
  simp only [hpC, hpB, hpT, List.cons_append, List.nil_append, List.mem_cons, List.mem_nil_iff, or_false] at hu
  rcases hu with rfl | rfl | rfl | rfl | rfl | rfl | rfl | rfl | rfl | rfl | rfl | rfl | rfl | rfl | rfl | rfl | rfl | rfl | rfl | rfl | rfl | rfl | rfl | rfl | rfl | rfl | rfl | rfl | rfl | rfl | rfl | rfl <;> first | rfl | exact h
section
variable {w : World} {g : Nat} {T : TypeId} {p : HP} {hv : Value}
/-- Parts of the row of properties. -/
theorem hp_bools (h : Blk w g (hpC p hv).toArray T) : ∀ j u, (hpB p)[j]? = some u → w.cell? ((⟨g, 0, none⟩ : Addr).add j) = some u := fun j u hj => by
  rw [addr_add, Nat.zero_add, h.cell j]; simpa using hpB_get p hv j u hj
theorem hp_texts (h : Blk w g (hpC p hv).toArray T) : ∀ j u, (hpT p)[j]? = some u → w.cell? ((⟨g, 14, none⟩ : Addr).add j) = some u := fun j u hj => by
  rw [addr_add, h.cell (14 + j)]; simpa using hpT_get p hv j u hj
theorem hp_mode (h : Blk w g (hpC p hv).toArray T) : w.cell? ⟨g, 28, none⟩ = some (.int .i64 p.mode) := h.cell 28
theorem hp_prio (h : Blk w g (hpC p hv).toArray T) : w.cell? ⟨g, 29, none⟩ = some (.int .i64 p.prio) := h.cell 29
theorem hp_time (h : Blk w g (hpC p hv).toArray T) : w.cell? ⟨g, 30, none⟩ = some (.int .i64 p.time) := h.cell 30
theorem hp_hdr (h : Blk w g (hpC p hv).toArray T) : w.cell? ⟨g, 31, none⟩ = some hv := h.cell 31
theorem hp_txt (h : Blk w g (hpC p hv).toArray T) (i : Nat) (hi : i < 14) : w.cell? ⟨g, 14 + i, none⟩ = some (.string (bstr (p.txt i))) := by
  rw [h.cell (14 + i)]; simpa using hpT_get p hv i _ (hpT_at p i hi)
theorem hp_has (h : Blk w g (hpC p hv).toArray T) (i : Nat) (hi : i < 14) : w.cell? ⟨g, i, none⟩ = some (.bool (p.has i)) := by
  rw [h.cell i]; simpa using hpB_get p hv i _ (hpB_at p i hi)
end
section
variable {P : Program} {ops : Array Oper} {rest : List Oper} {o : Oper} {a : Act} {w : World} {Q : Exit → Act → World → Prop}
theorem wpList_index_arr (hgd : o.guard = none) (ty : TypeId) (x i : Operand) (ho : o.op = .index ty x i) (cs : Array Value) (hx : a.eval x = .agg cs) (k : Nat) (hi : a.eval i = .int .i64 (k : Int)) (v : Value) (hr : (Instr.index ty (.agg cs) (.int .i64 (k : Int))).run P w = .ok v w)
    (h : wpList P ops Q rest (a.put o.dst v) w) : wpList P ops Q (o :: rest) a w :=
  wpList_run hgd v w (by simp only [execOp, ho, hx, hi, Sem.run_bind, hr, Result.andThen_ok, Sem.run_pure]) h
end
theorem run_index_txt (p : HP) : ∀ (k : Nat) (hk : k < 14) (w : World), (Instr.index 30 (.agg (hpT p).toArray) (.int .i64 (k : Int))).run Tryz.prog w = .ok (.string (bstr (p.txt k))) w
  | 0, _, w => by kernel_rfl
  | 1, _, w => by kernel_rfl
  | 2, _, w => by kernel_rfl
  | 3, _, w => by kernel_rfl
  | 4, _, w => by kernel_rfl
  | 5, _, w => by kernel_rfl
  | 6, _, w => by kernel_rfl
  | 7, _, w => by kernel_rfl
  | 8, _, w => by kernel_rfl
  | 9, _, w => by kernel_rfl
  | 10, _, w => by kernel_rfl
  | 11, _, w => by kernel_rfl
  | 12, _, w => by kernel_rfl
  | 13, _, w => by kernel_rfl
  | k + 14, h, w => absurd h (by omega)
theorem run_index_has (p : HP) : ∀ (k : Nat) (hk : k < 14) (w : World), (Instr.index 29 (.agg (hpB p).toArray) (.int .i64 (k : Int))).run Tryz.prog w = .ok (.bool (p.has k)) w
  | 0, _, w => by kernel_rfl
  | 1, _, w => by kernel_rfl
  | 2, _, w => by kernel_rfl
  | 3, _, w => by kernel_rfl
  | 4, _, w => by kernel_rfl
  | 5, _, w => by kernel_rfl
  | 6, _, w => by kernel_rfl
  | 7, _, w => by kernel_rfl
  | 8, _, w => by kernel_rfl
  | 9, _, w => by kernel_rfl
  | 10, _, w => by kernel_rfl
  | 11, _, w => by kernel_rfl
  | 12, _, w => by kernel_rfl
  | 13, _, w => by kernel_rfl
  | k + 14, h, w => absurd h (by omega)
/-- The texts are none of great length. -/
def fits3 (p : HP) : Bool := (List.range 14).all fun i => decide ((p.txt i).length ≤ 2147483647)
set_option maxHeartbeats 2000000 in
set_option maxRecDepth 100000 in
theorem zzFits3_any (p : HP) (hwf : WfP p) (w : World) : Calls Tryz.prog 36 #[.agg (hpT p).toArray] w fun e w' => e = .returned (.bool (fits3 p)) ∧ Kept [] w w' := by
  obtain ⟨fb, hfb⟩ : ∃ fb, fb = fits3 p := ⟨_, rfl⟩
  rw [← hfb]
  have HFB := Lib.hid hfb; clear hfb
  obtain ⟨ts, hts⟩ : ∃ ts, ts = (hpT p).toArray := ⟨_, rfl⟩
  have hix := run_index_txt p
  obtain ⟨wA, hwA⟩ : ∃ wA, wA = w.alloc (.cells ts 30) := ⟨_, rfl⟩
  have hbA : Blk wA w.heap.size (hpT p).toArray 30 := by rw [hwA, hts]; exact Blk.new w _ _
  have hkA : Kept [] w wA := by rw [hwA]; exact (Kept.refl [] w).alloc _
  have hcA : ∀ j u, (hpT p)[j]? = some u → wA.cell? ((⟨w.heap.size, 0, none⟩ : Addr).add j) = some u := fun j u hj => by
    rw [addr_add, Nat.zero_add, hbA.cell j]; simpa using hj
  rw [← hts] at hix ⊢
  have HA := Lib.hid (And.intro hcA (And.intro hkA (And.intro hwf.txt (And.intro hix hts)))); clear hbA hkA hcA hwf hix hts
  go_enter Tryz.func36, Tryz.ntmps36
  go_upto_region 1 with fail
  rw [← hwA]
  clear hwA
  go_wp2_with (refine wpList_load_cells rfl 30 (.tmp 1) rfl _ rfl (hpT p) HA.out.1 _ Tryz.underlying30 rfl size_14s ?_; rw [← HA.out.2.2.2.2])
  go_loopw [6] (fun i W => ∃ k : Nat, i = .int .i64 (k : Int) ∧ k ≤ 14 ∧ Hid ((∀ j, j < k → (p.txt j).length ≤ 2147483647) ∧ W = wA)) (fun i _ => 14 - (intOf i).toNat)
  case atStart => exact ⟨0, rfl, Nat.zero_le _, Lib.hid ⟨fun j hj => absurd hj (by omega), rfl⟩⟩
  case round =>
    obtain ⟨k, rfl, hk, HR⟩ := hrel
    obtain rfl := HR.out.2
    by_cases hlt : k < 14
    · have htx := HA.out.2.2.1 k hlt
      have hlt' : (k : Int) < 14 := by omega
      have htn : ((p.txt k).length : Int) ≤ 140737488355328 := by omega
      have hwk : IntKind.i64.wrap ((k : Int) + 1) = (k : Int) + 1 := by rw [IntKind.wrap_i64]; omega
      by_cases hl : (p.txt k).length ≤ 2147483647
      · have hd : decide ((2147483647 : Int) < (p.txt k).length) = false := decide_eq_false (by omega)
        have HN := Lib.hid (fun j (hj : j < k + 1) => show (p.txt j).length ≤ 2147483647 from by
          rcases Nat.lt_or_ge j k with h | h
          · exact HR.out.1 j h
          · obtain rfl : j = k := by omega
            exact hl)
        clear htx hl HR
        go_wp2_with (refine wpList_index_arr rfl 30 (.tmp 5) (.tmp 6) rfl ts rfl k rfl _ (HA.out.2.2.2.1 k hlt _) ?_)
        go_roundw
        case rel => exact ⟨k + 1, rfl, by omega, Lib.hid ⟨HN.out, by trivial⟩⟩
        case measure => simp [intOf]; omega
      · have hd : decide ((2147483647 : Int) < (p.txt k).length) = true := decide_eq_true (by omega)
        have hf : fits3 p = false := by
          unfold fits3
          rw [List.all_eq_false]
          exact ⟨k, List.mem_range.2 hlt, by simpa using hl⟩
        have HF := Lib.hid hf
        clear htx hl hf HR
        go_wp2_with (refine wpList_index_arr rfl 30 (.tmp 5) (.tmp 6) rfl ts rfl k rfl _ (HA.out.2.2.2.1 k hlt _) ?_)
        go_ret
        exact ⟨by rw [HFB.out, HF.out]; rfl, HA.out.2.1⟩
    · obtain rfl : k = 14 := by omega
      have hf : fits3 p = true := by
        unfold fits3
        rw [List.all_eq_true]
        exact fun j hj => by simpa using HR.out.1 j (List.mem_range.1 hj)
      have HF := Lib.hid hf
      clear hf HR
      go_wp2_with fail
      go_ret
      exact ⟨by rw [HFB.out, HF.out]; rfl, HA.out.2.1⟩
def fits2 (p : HP) : Bool := fits3 p && decide (p.hdr.length ≤ 2147483647)
set_option maxHeartbeats 1000000 in
set_option maxRecDepth 100000 in
theorem zzFits2_any (p : HP) (hwf : WfP p) (ha : Option Addr) (hc : Nat) (w : World) : Calls Tryz.prog 16 #[.agg (hpC p (.slice ha p.hdr.length hc)).toArray] w fun e w' => e = .returned (.bool (fits2 p)) ∧ Kept [] w w' := by
  have h3 := zzFits3_any p hwf
  obtain ⟨wA, hwA⟩ : ∃ wA, wA = w.alloc (.cells (hpC p (.slice ha p.hdr.length hc)).toArray 33) := ⟨_, rfl⟩
  have hbA : Blk wA w.heap.size (hpC p (.slice ha p.hdr.length hc)).toArray 33 := by rw [hwA]; exact Blk.new w _ _
  have hkA : Kept [] w wA := by rw [hwA]; exact (Kept.refl [] w).alloc _
  have hhl : (p.hdr.length : Int) ≤ 140737488355328 := by have := hwf.hlen; omega
  unfold fits2
  cases hf : fits3 p with
  | false =>
    rw [hf] at h3
    have HA := Lib.hid (And.intro hbA (And.intro hkA h3)); clear hbA hkA h3 hwf hf
    go_enter Tryz.func16, Tryz.ntmps16
    go_upto_region 1 with fail
    rw [← hwA]
    clear hwA
    go_wp2_with (first
      | (refine wpList_load_cells rfl 30 (.tmp 3) rfl ⟨w.heap.size, 14, none⟩ rfl (hpT p) (hp_texts HA.out.1) _ Tryz.underlying30 rfl size_14s ?_)
      | (go_at_call 36; (with_reducible refine (HA.out.2.2 _).mono ?_); rintro e w1 ⟨rfl, hk⟩; have HK := Lib.hid hk; clear hk))
    go_ret
    exact ⟨rfl, HA.out.2.1.trans HK.out (by simp)⟩
  | true =>
    rw [Bool.true_and]
    rw [hf] at h3
    by_cases hl : p.hdr.length ≤ 2147483647
    · have hd : decide ((2147483647 : Int) < p.hdr.length) = false := decide_eq_false (by omega)
      rw [decide_eq_true hl]
      have HA := Lib.hid (And.intro hbA (And.intro hkA h3)); clear hbA hkA h3 hwf hf hl
      go_enter Tryz.func16, Tryz.ntmps16
      go_upto_region 1 with fail
      rw [← hwA]
      clear hwA
      go_wp2_with (first
        | (refine wpList_load_cells rfl 30 (.tmp 3) rfl ⟨w.heap.size, 14, none⟩ rfl (hpT p) (hp_texts HA.out.1) _ Tryz.underlying30 rfl size_14s ?_)
        | (go_at_call 36; (with_reducible refine (HA.out.2.2 _).mono ?_); rintro e w1 ⟨rfl, hk⟩; have ch := hp_hdr (HA.out.1.kept hk (by simp)); have HK := Lib.hid hk; clear hk))
      go_ret
      exact ⟨rfl, HA.out.2.1.trans HK.out (by simp)⟩
    · have hd : decide ((2147483647 : Int) < p.hdr.length) = true := decide_eq_true (by omega)
      rw [decide_eq_false hl]
      have HA := Lib.hid (And.intro hbA (And.intro hkA h3)); clear hbA hkA h3 hwf hf hl
      go_enter Tryz.func16, Tryz.ntmps16
      go_upto_region 1 with fail
      rw [← hwA]
      clear hwA
      go_wp2_with (first
        | (refine wpList_load_cells rfl 30 (.tmp 3) rfl ⟨w.heap.size, 14, none⟩ rfl (hpT p) (hp_texts HA.out.1) _ Tryz.underlying30 rfl size_14s ?_)
        | (go_at_call 36; (with_reducible refine (HA.out.2.2 _).mono ?_); rintro e w1 ⟨rfl, hk⟩; have ch := hp_hdr (HA.out.1.kept hk (by simp)); have HK := Lib.hid hk; clear hk))
      go_ret
      exact ⟨rfl, HA.out.2.1.trans HK.out (by simp)⟩
/-- What a letter without kids is read as; a text of bytes has its own row, in B. -/
def leafG (B : Nat → Prop) (w : World) (k : UInt8) (n : Int) (f : Nat) (scale : Int) (text : List UInt8) (x : Value) : Prop :=
  if k = 116 then x = .iface 4 (.bool (decide (n ≠ 0)))
  else if k = 66 then x = .iface 5 (.int .u8 n)
  else if k = 98 then x = .iface 188 (.int .i8 n)
  else if k = 115 then x = .iface 189 (.int .i16 n)
  else if k = 73 then x = .iface 21 (.int .i32 n)
  else if k = 108 then x = .iface 2 (.int .i64 n)
  else if k = 102 then x = .iface 178 (.float .f32 (Flt.toS f))
  else if k = 100 then x = .iface 138 (.float .f64 f)
  else if k = 68 then x = .iface 191 (.agg #[.int .u8 scale, .int .i32 n])
  else if k = 83 then x = .iface 9 (.string ⟨text.toArray⟩)
  else if k = 84 then x = .iface 99 (timeV n)
  else if k = 120 then ∃ (ao : Option Addr) (c : Nat), x = .iface 22 (.slice ao text.length c) ∧ (text ≠ [] → ∃ g, ao = some ⟨g, 0, none⟩ ∧ B g ∧ g < w.heap.size ∧ ∀ j u, (u8s text)[j]? = some u → w.cell? ⟨g, j, none⟩ = some u)
  else x = .nilIface
mutual
/-- x is the value v as the package has it; its blocks are in B. -/
def GV (B : Nat → Prop) (w : World) (x : Value) : Val → Prop
  | .mk k n f scale text kids flds =>
    if k = 65 then ∃ ao c, x = .iface 192 (.slice ao kids.length c) ∧ kids.length ≤ c ∧ (kids ≠ [] → ∃ g, ao = some ⟨g, 0, none⟩ ∧ B g ∧ g < w.heap.size ∧ GL B w g 0 kids)
    else if k = 70 then ∃ b es, x = .iface 96 (.map (some b)) ∧ B b ∧ MapAt w b es ∧ GF B w es flds
    else leafG B w k n f scale text x
/-- The cells of block g from o on are these values. -/
def GL (B : Nat → Prop) (w : World) (g o : Nat) : List Val → Prop
  | [] => True
  | v :: l => (∃ x, w.cell? ⟨g, o, none⟩ = some x ∧ GV B w x v) ∧ GL B w g (o + 1) l
/-- The entries are these fields. -/
def GF (B : Nat → Prop) (w : World) (es : List (Value × Value)) : List Fld → Prop
  | [] => es = []
  | .mk name v :: l => ∃ x fs, es = (.string ⟨name.toArray⟩, x) :: fs ∧ GV B w x v ∧ GF B w fs l
end
theorem leafG.kept {B : Nat → Prop} {S : List Nat} {w w' : World} (hk : Kept S w w') (hS : ∀ b, B b → b ∉ S) {k : UInt8} {n : Int} {f : Nat} {scale : Int} {text : List UInt8} {x : Value} (h : leafG B w k n f scale text x) : leafG B w' k n f scale text x := by
  unfold leafG at h ⊢
  by_cases h1 : k = 120
  · subst h1
    simp (config := { decide := true }) only [if_false, if_true] at h ⊢
    obtain ⟨ao, c, h1, h2⟩ := h
    exact ⟨ao, c, h1, fun hn => by obtain ⟨g, g1, g2, g3, g4⟩ := h2 hn; exact ⟨g, g1, g2, Nat.lt_of_lt_of_le g3 hk.size, fun j u hj => hk.cell (g4 j u hj) (hS g g2)⟩⟩
  · rw [if_neg h1] at h ⊢
    exact h
theorem leafG.mono {B B' : Nat → Prop} {w : World} (hM : ∀ b, B b → b < w.heap.size → B' b) {k : UInt8} {n : Int} {f : Nat} {scale : Int} {text : List UInt8} {x : Value} (h : leafG B w k n f scale text x) : leafG B' w k n f scale text x := by
  unfold leafG at h ⊢
  by_cases h1 : k = 120
  · subst h1
    simp (config := { decide := true }) only [if_false, if_true] at h ⊢
    obtain ⟨ao, c, h1, h2⟩ := h
    exact ⟨ao, c, h1, fun hn => by obtain ⟨g, g1, g2, g3, g4⟩ := h2 hn; exact ⟨g, g1, hM g g2 g3, g3, g4⟩⟩
  · rw [if_neg h1] at h ⊢
    exact h
mutual
theorem GV.kept {B : Nat → Prop} {S : List Nat} {w w' : World} (hk : Kept S w w') (hS : ∀ b, B b → b ∉ S) (v : Val) {x : Value} (h : GV B w x v) : GV B w' x v := by
  cases v with
  | mk k n f scale text kids flds =>
    unfold GV at h ⊢
    by_cases h1 : k = 65
    · rw [if_pos h1] at h ⊢
      obtain ⟨ao, c, e1, e2, e3⟩ := h
      refine ⟨ao, c, e1, e2, fun hn => ?_⟩
      obtain ⟨g, g1, g2, g3, g4⟩ := e3 hn
      exact ⟨g, g1, g2, Nat.lt_of_lt_of_le g3 hk.size, GL.kept hk hS kids g2 g4⟩
    · rw [if_neg h1] at h ⊢
      by_cases h2 : k = 70
      · rw [if_pos h2] at h ⊢
        obtain ⟨b, es, e1, e2, e3, e4⟩ := h
        exact ⟨b, es, e1, e2, e3.kept hk (hS b e2), GF.kept hk hS flds e4⟩
      · rw [if_neg h2] at h ⊢
        exact h.kept hk hS
theorem GL.kept {B : Nat → Prop} {S : List Nat} {w w' : World} (hk : Kept S w w') (hS : ∀ b, B b → b ∉ S) (l : List Val) {g o : Nat} (hg : B g) (h : GL B w g o l) : GL B w' g o l := by
  cases l with
  | nil => trivial
  | cons v l =>
    unfold GL at h ⊢
    obtain ⟨⟨x, h1, h2⟩, h3⟩ := h
    exact ⟨⟨x, hk.cell h1 (hS g hg), GV.kept hk hS v h2⟩, GL.kept hk hS l hg h3⟩
theorem GF.kept {B : Nat → Prop} {S : List Nat} {w w' : World} (hk : Kept S w w') (hS : ∀ b, B b → b ∉ S) (l : List Fld) {es : List (Value × Value)} (h : GF B w es l) : GF B w' es l := by
  cases l with
  | nil => exact h
  | cons e l =>
    cases e with
    | mk name v =>
      unfold GF at h ⊢
      obtain ⟨x, fs, h1, h2, h3⟩ := h
      exact ⟨x, fs, h1, GV.kept hk hS v h2, GF.kept hk hS l h3⟩
end
mutual
theorem GV.mono {B B' : Nat → Prop} {w : World} (hM : ∀ b, B b → b < w.heap.size → B' b) (v : Val) {x : Value} (h : GV B w x v) : GV B' w x v := by
  cases v with
  | mk k n f scale text kids flds =>
    unfold GV at h ⊢
    by_cases h1 : k = 65
    · rw [if_pos h1] at h ⊢
      obtain ⟨ao, c, e1, e2, e3⟩ := h
      refine ⟨ao, c, e1, e2, fun hn => ?_⟩
      obtain ⟨g, g1, g2, g3, g4⟩ := e3 hn
      exact ⟨g, g1, hM g g2 g3, g3, GL.mono hM kids g4⟩
    · rw [if_neg h1] at h ⊢
      by_cases h2 : k = 70
      · rw [if_pos h2] at h ⊢
        obtain ⟨b, es, e1, e2, e3, e4⟩ := h
        exact ⟨b, es, e1, hM b e2 e3.lt, e3, GF.mono hM flds e4⟩
      · rw [if_neg h2] at h ⊢
        exact h.mono hM
theorem GL.mono {B B' : Nat → Prop} {w : World} (hM : ∀ b, B b → b < w.heap.size → B' b) (l : List Val) {g o : Nat} (h : GL B w g o l) : GL B' w g o l := by
  cases l with
  | nil => trivial
  | cons v l =>
    unfold GL at h ⊢
    obtain ⟨⟨x, h1, h2⟩, h3⟩ := h
    exact ⟨⟨x, h1, GV.mono hM v h2⟩, GL.mono hM l h3⟩
theorem GF.mono {B B' : Nat → Prop} {w : World} (hM : ∀ b, B b → b < w.heap.size → B' b) (l : List Fld) {es : List (Value × Value)} (h : GF B w es l) : GF B' w es l := by
  cases l with
  | nil => exact h
  | cons e l =>
    cases e with
    | mk name v =>
      unfold GF at h ⊢
      obtain ⟨x, fs, h1, h2, h3⟩ := h
      exact ⟨x, fs, h1, GV.mono hM v h2, GF.mono hM l h3⟩
end
theorem GF.snoc {B : Nat → Prop} {w : World} (name : List UInt8) (v : Val) (x : Value) (hx : GV B w x v) : ∀ (l : List Fld) (es : List (Value × Value)), GF B w es l → GF B w (es ++ [(.string ⟨name.toArray⟩, x)]) (l ++ [.mk name v])
  | [], es, h => by
    unfold GF at h; subst h
    show GF B w [(.string ⟨name.toArray⟩, x)] [.mk name v]
    unfold GF
    exact ⟨x, [], rfl, hx, by unfold GF; rfl⟩
  | .mk nm u :: l, es, h => by
    unfold GF at h
    obtain ⟨y, fs, h1, h2, h3⟩ := h
    subst h1
    show GF B w ((.string ⟨nm.toArray⟩, y) :: (fs ++ [(.string ⟨name.toArray⟩, x)])) (.mk nm u :: (l ++ [.mk name v]))
    unfold GF
    exact ⟨y, _, rfl, h2, GF.snoc name v x hx l fs h3⟩
/-- The entries of a read table have its names as keys. -/
theorem GF.keys {B : Nat → Prop} {w : World} : ∀ (l : List Fld) (es : List (Value × Value)), GF B w es l → es.map Prod.fst = l.map fun e => .string ⟨e.name.toArray⟩
  | [], es, h => by unfold GF at h; subst h; rfl
  | .mk nm u :: l, es, h => by
    unfold GF at h
    obtain ⟨y, fs, h1, h2, h3⟩ := h
    subst h1
    simp [GF.keys l fs h3, Fld.name]
theorem GV.one {B : Nat → Prop} {w : World} {x : Value} {v : Val} (h : GV B w x v) : x.oneCell' = true := by
  cases v with
  | mk k n f scale text kids flds =>
    unfold GV at h
    by_cases h1 : k = 65
    · rw [if_pos h1] at h
      obtain ⟨ao, c, e1, _⟩ := h
      rw [e1]; rfl
    · rw [if_neg h1] at h
      by_cases h2 : k = 70
      · rw [if_pos h2] at h
        obtain ⟨b, es, e1, _⟩ := h
        rw [e1]; rfl
      · rw [if_neg h2] at h
        unfold leafG at h
        by_cases c116 : k = 116
        · rw [if_pos c116] at h; subst h; rfl
        rw [if_neg c116] at h
        by_cases c66 : k = 66
        · rw [if_pos c66] at h; subst h; rfl
        rw [if_neg c66] at h
        by_cases c98 : k = 98
        · rw [if_pos c98] at h; subst h; rfl
        rw [if_neg c98] at h
        by_cases c115 : k = 115
        · rw [if_pos c115] at h; subst h; rfl
        rw [if_neg c115] at h
        by_cases c73 : k = 73
        · rw [if_pos c73] at h; subst h; rfl
        rw [if_neg c73] at h
        by_cases c108 : k = 108
        · rw [if_pos c108] at h; subst h; rfl
        rw [if_neg c108] at h
        by_cases c102 : k = 102
        · rw [if_pos c102] at h; subst h; rfl
        rw [if_neg c102] at h
        by_cases c100 : k = 100
        · rw [if_pos c100] at h; subst h; rfl
        rw [if_neg c100] at h
        by_cases c68 : k = 68
        · rw [if_pos c68] at h; subst h; rfl
        rw [if_neg c68] at h
        by_cases c83 : k = 83
        · rw [if_pos c83] at h; subst h; rfl
        rw [if_neg c83] at h
        by_cases c84 : k = 84
        · rw [if_pos c84] at h; subst h; rfl
        rw [if_neg c84] at h
        by_cases c120 : k = 120
        · rw [if_pos c120] at h; obtain ⟨ao, c, e1, _⟩ := h; rw [e1]; rfl
        rw [if_neg c120] at h; subst h; rfl
theorem GV.face {B : Nat → Prop} {w : World} {x : Value} {v : Val} (h : GV B w x v) : x = .nilIface ∨ ∃ t y, x = .iface t y := by
  cases v with
  | mk k n f scale text kids flds =>
    unfold GV at h
    by_cases h1 : k = 65
    · rw [if_pos h1] at h
      obtain ⟨ao, c, e1, _⟩ := h
      exact .inr ⟨_, _, e1⟩
    · rw [if_neg h1] at h
      by_cases h2 : k = 70
      · rw [if_pos h2] at h
        obtain ⟨b, es, e1, _⟩ := h
        exact .inr ⟨_, _, e1⟩
      · rw [if_neg h2] at h
        unfold leafG at h
        by_cases c116 : k = 116
        · rw [if_pos c116] at h; exact .inr ⟨_, _, h⟩
        rw [if_neg c116] at h
        by_cases c66 : k = 66
        · rw [if_pos c66] at h; exact .inr ⟨_, _, h⟩
        rw [if_neg c66] at h
        by_cases c98 : k = 98
        · rw [if_pos c98] at h; exact .inr ⟨_, _, h⟩
        rw [if_neg c98] at h
        by_cases c115 : k = 115
        · rw [if_pos c115] at h; exact .inr ⟨_, _, h⟩
        rw [if_neg c115] at h
        by_cases c73 : k = 73
        · rw [if_pos c73] at h; exact .inr ⟨_, _, h⟩
        rw [if_neg c73] at h
        by_cases c108 : k = 108
        · rw [if_pos c108] at h; exact .inr ⟨_, _, h⟩
        rw [if_neg c108] at h
        by_cases c102 : k = 102
        · rw [if_pos c102] at h; exact .inr ⟨_, _, h⟩
        rw [if_neg c102] at h
        by_cases c100 : k = 100
        · rw [if_pos c100] at h; exact .inr ⟨_, _, h⟩
        rw [if_neg c100] at h
        by_cases c68 : k = 68
        · rw [if_pos c68] at h; exact .inr ⟨_, _, h⟩
        rw [if_neg c68] at h
        by_cases c83 : k = 83
        · rw [if_pos c83] at h; exact .inr ⟨_, _, h⟩
        rw [if_neg c83] at h
        by_cases c84 : k = 84
        · rw [if_pos c84] at h; exact .inr ⟨_, _, h⟩
        rw [if_neg c84] at h
        by_cases c120 : k = 120
        · rw [if_pos c120] at h; obtain ⟨ao, c, e1, _⟩ := h; exact .inr ⟨_, _, e1⟩
        rw [if_neg c120] at h; exact .inl h
/-- One cell that is v. -/
def GVc (B : Nat → Prop) (w : World) (cs : List Value) (v : Val) : Prop := ∃ x, cs = [x] ∧ GV B w x v
theorem bears_gv : Bears 1 GVc := ⟨fun ⟨x, h1, h2⟩ hk hB => ⟨x, h1, GV.kept hk hB _ h2⟩, fun ⟨x, h1, h2⟩ hB => ⟨x, h1, GV.mono hB _ h2⟩, fun ⟨x, h1, h2⟩ => by rw [h1]; rfl,
  fun ⟨x, h1, h2⟩ u hu => by rw [h1] at hu; simp at hu; rw [hu]; exact h2.one⟩
theorem gl_of {B : Nat → Prop} {w : World} {g : Nat} : ∀ (l : List Val) (o : Nat) (cells : List Value), ECells 1 (GVc B w) cells l → (∀ j u, cells[j]? = some u → w.cell? ⟨g, o + j, none⟩ = some u) → GL B w g o l := by
  intro l
  induction l with
  | nil => intro o cells h hc; unfold GL; trivial
  | cons v l ih =>
    intro o cells h hc
    obtain ⟨cs, rest, rfl, h2, ⟨x, rfl, hx⟩, h5⟩ := h
    unfold GL
    refine ⟨⟨x, by have := hc 0 x rfl; simpa using this, hx⟩, ih (o + 1) rest h5 fun j u hj => ?_⟩
    have := hc (1 + j) u (by rw [List.getElem?_append_right (by simp)]; simpa using hj)
    rw [← Nat.add_assoc] at this
    exact this
/-- What a letter without kids is read as; a text of bytes has its own row, in B. -/
def leafV (B : Nat → Prop) (w : World) (k : UInt8) (n : Int) (f : Nat) (scale : Int) (text : List UInt8) (x : Value) : Prop :=
  if k = 116 then x = .iface 4 (.bool (decide (n ≠ 0)))
  else if k = 66 then x = .iface 5 (.int .u8 n)
  else if k = 98 then x = .iface 188 (.int .i8 n)
  else if k = 115 then x = .iface 189 (.int .i16 n)
  else if k = 73 then x = .iface 21 (.int .i32 n)
  else if k = 108 then x = .iface 2 (.int .i64 n)
  else if k = 102 then x = .iface 178 (.float .f32 (Flt.toS f))
  else if k = 100 then x = .iface 138 (.float .f64 f)
  else if k = 68 then x = .iface 191 (.agg #[.int .u8 scale, .int .i32 n])
  else if k = 83 then x = .iface 9 (.string ⟨text.toArray⟩)
  else if k = 84 then x = .iface 99 (timeV n)
  else if k = 120 then ∃ g, x = .iface 22 (.slice (some ⟨g, 0, none⟩) text.length text.length) ∧ B g ∧ Blk w g (u8s text).toArray 5
  else x = .nilIface
mutual
/-- x is the value v as the package has it; its blocks are in B. -/
def PV (B : Nat → Prop) (w : World) (x : Value) : Val → Prop
  | .mk k n f scale text kids flds =>
    if k = 65 then ∃ ao c, x = .iface 192 (.slice ao kids.length c) ∧ kids.length ≤ c ∧ (kids ≠ [] → ∃ g, ao = some ⟨g, 0, none⟩ ∧ B g ∧ g < w.heap.size ∧ PL B w g 0 kids)
    else if k = 70 then ∃ b es, x = .iface 96 (.map (some b)) ∧ B b ∧ MapAt w b es ∧ PF B w es flds
    else leafV B w k n f scale text x
/-- The cells of block g from o on are these values. -/
def PL (B : Nat → Prop) (w : World) (g o : Nat) : List Val → Prop
  | [] => True
  | v :: l => (∃ x, w.cell? ⟨g, o, none⟩ = some x ∧ PV B w x v) ∧ PL B w g (o + 1) l
/-- The entries are these fields. -/
def PF (B : Nat → Prop) (w : World) (es : List (Value × Value)) : List Fld → Prop
  | [] => es = []
  | .mk name v :: l => ∃ x fs, es = (.string ⟨name.toArray⟩, x) :: fs ∧ PV B w x v ∧ PF B w fs l
end
theorem leafV.kept {B : Nat → Prop} {S : List Nat} {w w' : World} (hk : Kept S w w') (hS : ∀ b, B b → b ∉ S) {k : UInt8} {n : Int} {f : Nat} {scale : Int} {text : List UInt8} {x : Value} (h : leafV B w k n f scale text x) : leafV B w' k n f scale text x := by
  unfold leafV at h ⊢
  by_cases h1 : k = 120
  · subst h1
    simp (config := { decide := true }) only [if_false, if_true] at h ⊢
    obtain ⟨g, h1, h2, h3⟩ := h
    exact ⟨g, h1, h2, h3.kept hk (hS g h2)⟩
  · rw [if_neg h1] at h ⊢
    exact h
theorem leafV.mono {B B' : Nat → Prop} {w : World} (hM : ∀ b, B b → b < w.heap.size → B' b) {k : UInt8} {n : Int} {f : Nat} {scale : Int} {text : List UInt8} {x : Value} (h : leafV B w k n f scale text x) : leafV B' w k n f scale text x := by
  unfold leafV at h ⊢
  by_cases h1 : k = 120
  · subst h1
    simp (config := { decide := true }) only [if_false, if_true] at h ⊢
    obtain ⟨g, h1, h2, h3⟩ := h
    exact ⟨g, h1, hM g h2 h3.lt, h3⟩
  · rw [if_neg h1] at h ⊢
    exact h
mutual
theorem PV.kept {B : Nat → Prop} {S : List Nat} {w w' : World} (hk : Kept S w w') (hS : ∀ b, B b → b ∉ S) (v : Val) {x : Value} (h : PV B w x v) : PV B w' x v := by
  cases v with
  | mk k n f scale text kids flds =>
    unfold PV at h ⊢
    by_cases h1 : k = 65
    · rw [if_pos h1] at h ⊢
      obtain ⟨ao, c, e1, e2, e3⟩ := h
      refine ⟨ao, c, e1, e2, fun hn => ?_⟩
      obtain ⟨g, g1, g2, g3, g4⟩ := e3 hn
      exact ⟨g, g1, g2, Nat.lt_of_lt_of_le g3 hk.size, PL.kept hk hS kids g2 g4⟩
    · rw [if_neg h1] at h ⊢
      by_cases h2 : k = 70
      · rw [if_pos h2] at h ⊢
        obtain ⟨b, es, e1, e2, e3, e4⟩ := h
        exact ⟨b, es, e1, e2, e3.kept hk (hS b e2), PF.kept hk hS flds e4⟩
      · rw [if_neg h2] at h ⊢
        exact h.kept hk hS
theorem PL.kept {B : Nat → Prop} {S : List Nat} {w w' : World} (hk : Kept S w w') (hS : ∀ b, B b → b ∉ S) (l : List Val) {g o : Nat} (hg : B g) (h : PL B w g o l) : PL B w' g o l := by
  cases l with
  | nil => trivial
  | cons v l =>
    unfold PL at h ⊢
    obtain ⟨⟨x, h1, h2⟩, h3⟩ := h
    exact ⟨⟨x, hk.cell h1 (hS g hg), PV.kept hk hS v h2⟩, PL.kept hk hS l hg h3⟩
theorem PF.kept {B : Nat → Prop} {S : List Nat} {w w' : World} (hk : Kept S w w') (hS : ∀ b, B b → b ∉ S) (l : List Fld) {es : List (Value × Value)} (h : PF B w es l) : PF B w' es l := by
  cases l with
  | nil => exact h
  | cons e l =>
    cases e with
    | mk name v =>
      unfold PF at h ⊢
      obtain ⟨x, fs, h1, h2, h3⟩ := h
      exact ⟨x, fs, h1, PV.kept hk hS v h2, PF.kept hk hS l h3⟩
end
mutual
theorem PV.mono {B B' : Nat → Prop} {w : World} (hM : ∀ b, B b → b < w.heap.size → B' b) (v : Val) {x : Value} (h : PV B w x v) : PV B' w x v := by
  cases v with
  | mk k n f scale text kids flds =>
    unfold PV at h ⊢
    by_cases h1 : k = 65
    · rw [if_pos h1] at h ⊢
      obtain ⟨ao, c, e1, e2, e3⟩ := h
      refine ⟨ao, c, e1, e2, fun hn => ?_⟩
      obtain ⟨g, g1, g2, g3, g4⟩ := e3 hn
      exact ⟨g, g1, hM g g2 g3, g3, PL.mono hM kids g4⟩
    · rw [if_neg h1] at h ⊢
      by_cases h2 : k = 70
      · rw [if_pos h2] at h ⊢
        obtain ⟨b, es, e1, e2, e3, e4⟩ := h
        exact ⟨b, es, e1, hM b e2 e3.lt, e3, PF.mono hM flds e4⟩
      · rw [if_neg h2] at h ⊢
        exact h.mono hM
theorem PL.mono {B B' : Nat → Prop} {w : World} (hM : ∀ b, B b → b < w.heap.size → B' b) (l : List Val) {g o : Nat} (h : PL B w g o l) : PL B' w g o l := by
  cases l with
  | nil => trivial
  | cons v l =>
    unfold PL at h ⊢
    obtain ⟨⟨x, h1, h2⟩, h3⟩ := h
    exact ⟨⟨x, h1, PV.mono hM v h2⟩, PL.mono hM l h3⟩
theorem PF.mono {B B' : Nat → Prop} {w : World} (hM : ∀ b, B b → b < w.heap.size → B' b) (l : List Fld) {es : List (Value × Value)} (h : PF B w es l) : PF B' w es l := by
  cases l with
  | nil => exact h
  | cons e l =>
    cases e with
    | mk name v =>
      unfold PF at h ⊢
      obtain ⟨x, fs, h1, h2, h3⟩ := h
      exact ⟨x, fs, h1, PV.mono hM v h2, PF.mono hM l h3⟩
end
theorem PF.snoc {B : Nat → Prop} {w : World} (name : List UInt8) (v : Val) (x : Value) (hx : PV B w x v) : ∀ (l : List Fld) (es : List (Value × Value)), PF B w es l → PF B w (es ++ [(.string ⟨name.toArray⟩, x)]) (l ++ [.mk name v])
  | [], es, h => by
    unfold PF at h; subst h
    show PF B w [(.string ⟨name.toArray⟩, x)] [.mk name v]
    unfold PF
    exact ⟨x, [], rfl, hx, by unfold PF; rfl⟩
  | .mk nm u :: l, es, h => by
    unfold PF at h
    obtain ⟨y, fs, h1, h2, h3⟩ := h
    subst h1
    show PF B w ((.string ⟨nm.toArray⟩, y) :: (fs ++ [(.string ⟨name.toArray⟩, x)])) (.mk nm u :: (l ++ [.mk name v]))
    unfold PF
    exact ⟨y, _, rfl, h2, PF.snoc name v x hx l fs h3⟩
/-- The entries of a read table have its names as keys. -/
theorem PF.keys {B : Nat → Prop} {w : World} : ∀ (l : List Fld) (es : List (Value × Value)), PF B w es l → es.map Prod.fst = l.map fun e => .string ⟨e.name.toArray⟩
  | [], es, h => by unfold PF at h; subst h; rfl
  | .mk nm u :: l, es, h => by
    unfold PF at h
    obtain ⟨y, fs, h1, h2, h3⟩ := h
    subst h1
    simp [PF.keys l fs h3, Fld.name]
theorem PV.one {B : Nat → Prop} {w : World} {x : Value} {v : Val} (h : PV B w x v) : x.oneCell' = true := by
  cases v with
  | mk k n f scale text kids flds =>
    unfold PV at h
    by_cases h1 : k = 65
    · rw [if_pos h1] at h
      obtain ⟨ao, c, e1, _⟩ := h
      rw [e1]; rfl
    · rw [if_neg h1] at h
      by_cases h2 : k = 70
      · rw [if_pos h2] at h
        obtain ⟨b, es, e1, _⟩ := h
        rw [e1]; rfl
      · rw [if_neg h2] at h
        unfold leafV at h
        by_cases c116 : k = 116
        · rw [if_pos c116] at h; subst h; rfl
        rw [if_neg c116] at h
        by_cases c66 : k = 66
        · rw [if_pos c66] at h; subst h; rfl
        rw [if_neg c66] at h
        by_cases c98 : k = 98
        · rw [if_pos c98] at h; subst h; rfl
        rw [if_neg c98] at h
        by_cases c115 : k = 115
        · rw [if_pos c115] at h; subst h; rfl
        rw [if_neg c115] at h
        by_cases c73 : k = 73
        · rw [if_pos c73] at h; subst h; rfl
        rw [if_neg c73] at h
        by_cases c108 : k = 108
        · rw [if_pos c108] at h; subst h; rfl
        rw [if_neg c108] at h
        by_cases c102 : k = 102
        · rw [if_pos c102] at h; subst h; rfl
        rw [if_neg c102] at h
        by_cases c100 : k = 100
        · rw [if_pos c100] at h; subst h; rfl
        rw [if_neg c100] at h
        by_cases c68 : k = 68
        · rw [if_pos c68] at h; subst h; rfl
        rw [if_neg c68] at h
        by_cases c83 : k = 83
        · rw [if_pos c83] at h; subst h; rfl
        rw [if_neg c83] at h
        by_cases c84 : k = 84
        · rw [if_pos c84] at h; subst h; rfl
        rw [if_neg c84] at h
        by_cases c120 : k = 120
        · rw [if_pos c120] at h; obtain ⟨g, e1, _⟩ := h; rw [e1]; rfl
        rw [if_neg c120] at h; subst h; rfl
theorem PV.face {B : Nat → Prop} {w : World} {x : Value} {v : Val} (h : PV B w x v) : x = .nilIface ∨ ∃ t y, x = .iface t y := by
  cases v with
  | mk k n f scale text kids flds =>
    unfold PV at h
    by_cases h1 : k = 65
    · rw [if_pos h1] at h
      obtain ⟨ao, c, e1, _⟩ := h
      exact .inr ⟨_, _, e1⟩
    · rw [if_neg h1] at h
      by_cases h2 : k = 70
      · rw [if_pos h2] at h
        obtain ⟨b, es, e1, _⟩ := h
        exact .inr ⟨_, _, e1⟩
      · rw [if_neg h2] at h
        unfold leafV at h
        by_cases c116 : k = 116
        · rw [if_pos c116] at h; exact .inr ⟨_, _, h⟩
        rw [if_neg c116] at h
        by_cases c66 : k = 66
        · rw [if_pos c66] at h; exact .inr ⟨_, _, h⟩
        rw [if_neg c66] at h
        by_cases c98 : k = 98
        · rw [if_pos c98] at h; exact .inr ⟨_, _, h⟩
        rw [if_neg c98] at h
        by_cases c115 : k = 115
        · rw [if_pos c115] at h; exact .inr ⟨_, _, h⟩
        rw [if_neg c115] at h
        by_cases c73 : k = 73
        · rw [if_pos c73] at h; exact .inr ⟨_, _, h⟩
        rw [if_neg c73] at h
        by_cases c108 : k = 108
        · rw [if_pos c108] at h; exact .inr ⟨_, _, h⟩
        rw [if_neg c108] at h
        by_cases c102 : k = 102
        · rw [if_pos c102] at h; exact .inr ⟨_, _, h⟩
        rw [if_neg c102] at h
        by_cases c100 : k = 100
        · rw [if_pos c100] at h; exact .inr ⟨_, _, h⟩
        rw [if_neg c100] at h
        by_cases c68 : k = 68
        · rw [if_pos c68] at h; exact .inr ⟨_, _, h⟩
        rw [if_neg c68] at h
        by_cases c83 : k = 83
        · rw [if_pos c83] at h; exact .inr ⟨_, _, h⟩
        rw [if_neg c83] at h
        by_cases c84 : k = 84
        · rw [if_pos c84] at h; exact .inr ⟨_, _, h⟩
        rw [if_neg c84] at h
        by_cases c120 : k = 120
        · rw [if_pos c120] at h; obtain ⟨g, e1, _⟩ := h; exact .inr ⟨_, _, e1⟩
        rw [if_neg c120] at h; exact .inl h
/-- One cell that is v. -/
def PVc (B : Nat → Prop) (w : World) (cs : List Value) (v : Val) : Prop := ∃ x, cs = [x] ∧ PV B w x v
theorem bears_pv : Bears 1 PVc := ⟨fun ⟨x, h1, h2⟩ hk hB => ⟨x, h1, PV.kept hk hB _ h2⟩, fun ⟨x, h1, h2⟩ hB => ⟨x, h1, PV.mono hB _ h2⟩, fun ⟨x, h1, h2⟩ => by rw [h1]; rfl,
  fun ⟨x, h1, h2⟩ u hu => by rw [h1] at hu; simp at hu; rw [hu]; exact h2.one⟩
theorem pl_of {B : Nat → Prop} {w : World} {g : Nat} : ∀ (l : List Val) (o : Nat) (cells : List Value), ECells 1 (PVc B w) cells l → (∀ j u, cells[j]? = some u → w.cell? ⟨g, o + j, none⟩ = some u) → PL B w g o l := by
  intro l
  induction l with
  | nil => intro o cells h hc; unfold PL; trivial
  | cons v l ih =>
    intro o cells h hc
    obtain ⟨cs, rest, rfl, h2, ⟨x, rfl, hx⟩, h5⟩ := h
    unfold PL
    refine ⟨⟨x, by have := hc 0 x rfl; simpa using this, hx⟩, ih (o + 1) rest h5 fun j u hj => ?_⟩
    have := hc (1 + j) u (by rw [List.getElem?_append_right (by simp)]; simpa using hj)
    rw [← Nat.add_assoc] at this
    exact this
/-- Properties without anything. -/
def HP.zero : HP := ⟨fun _ => false, fun _ => [], 0, 0, 0, []⟩
theorem build_sPr (p : HP) (ha : Option Addr) (hn hc : Nat) (w : World) : (Instr.build 54 #[(0, .agg (hpB p).toArray), (1, .agg (hpT p).toArray), (2, .int .i64 p.mode), (3, .int .i64 p.prio), (4, .int .i64 p.time), (5, .slice ha hn hc)]).run Tryz.prog w = .ok (.agg (hpC p (.slice ha hn hc)).toArray) w := by kernel_rfl
theorem alloc_sPr (w : World) : (Instr.alloc 54 true (.tuple #[])).run Tryz.prog w = .ok (.pointer (some ⟨w.heap.size, 0, none⟩)) (w.alloc (.cells (hpC .zero (.slice none 0 0)).toArray 54)) := by kernel_rfl
theorem results_prop {tmps : Array Value} {g : Nat} {cs : Array Value} {w : World} (h : tmps.getD 2 undef = .pointer (some ⟨g, 0, none⟩)) (hg : Blk w g cs 54) (hs : cs.size = 32) :
    (results Tryz.f17 tmps).run Tryz.prog w = .ok (.agg cs) w := by
  have hl := run_loadVar_row (P := Tryz.prog) w g 54 54 cs (0, 0) _ hg Tryz.underlying54 rfl (by rw [hs]; exact size_sPr)
  simp only [Array.getD_eq_getD_getElem?] at h
  simp [results, Tryz.results17, h, asAddr, hl]
set_option maxHeartbeats 2000000 in
set_option maxRecDepth 100000 in
theorem hprop_any (B : Nat → Prop) (p : HP) (hwf : WfP p) (hv : Value) (w : World) (h : FSl B w hv p.hdr) :
    Calls Tryz.prog 17 #[.agg (hpC p hv).toArray] w fun e w' => ∃ hv', e = .returned (.agg (hpC p.conv hv').toArray) ∧ FSl (fun b => w.heap.size ≤ b) w' hv' p.conv.hdr ∧ Kept [] w w' := by
  obtain ⟨wA, hwA⟩ : ∃ wA, wA = w.alloc (.cells (hpC p hv).toArray 33) := ⟨_, rfl⟩
  have hbA : Blk wA w.heap.size (hpC p hv).toArray 33 := by rw [hwA]; exact Blk.new w _ _
  have hkA : Kept [] w wA := by rw [hwA]; exact (Kept.refl [] w).alloc _
  obtain ⟨g, hg⟩ : ∃ g, g = w.heap.size := ⟨_, rfl⟩
  have hgl : g < wA.heap.size := by rw [hg]; exact hbA.lt
  rw [← hg] at hbA
  obtain ⟨cs, hcs⟩ : ∃ cs, cs = (hpC p hv).toArray := ⟨_, rfl⟩
  have hall := alloc_sPr
  obtain ⟨zs, hzs⟩ : ∃ zs, zs = (hpC .zero (.slice none 0 0)) := ⟨_, rfl⟩
  have hzl : zs.length = 32 := by rw [hzs]; rfl
  rw [← hzs] at hall
  have HA := Lib.hid (And.intro hbA (And.intro hkA (And.intro h (And.intro hwf (And.intro hg (And.intro hgl (And.intro hall hzl))))))); clear hbA hkA h hwf hgl hall hzl hzs
  rw [← hcs]
  rw [← hcs] at hwA
  have HCS := Lib.hid hcs; clear hcs
  go_enter Tryz.func17, Tryz.ntmps17
  go_upto_region 1 with (refine wpList_alloc rfl 2 rfl 54 rfl zs.toArray (HA.out.2.2.2.2.2.2.1 _) ?_; rw [← hwA]; intro w1 h1 h2 h3; have H1 := Lib.hid (And.intro h1 (And.intro h2 h3)); clear h1 h2 h3)
  rw [← hg]
  obtain ⟨r, hr⟩ : ∃ r, r = wA.heap.size := ⟨_, rfl⟩
  rw [← hr] at H1 ⊢
  have hb1 : Blk w1.drew g (hpC p hv).toArray 33 := (HA.out.1.kept H1.out.2.1 (by simp)).drew
  have hr1 : Blk w1.drew r zs.toArray 54 := H1.out.1.drew
  have hfs : FSl B w1.drew hv p.hdr := HA.out.2.2.1.kept ((HA.out.2.1.trans H1.out.2.1 (by simp)).drew) (by simp)
  have htb := table_any B hv p.hdr w1.drew hfs HA.out.2.2.2.1.hdr HA.out.2.2.2.1.hlen
  have hgr : g ≠ r := by have := HA.out.2.2.2.2.2.1; omega
  have hrl : w.heap.size ≤ r := by rw [hr]; exact HA.out.2.1.size
  have hk1 : Kept [] w w1.drew := (HA.out.2.1.trans H1.out.2.1 (by simp)).drew
  have H2 := Lib.hid (And.intro hb1 (And.intro hr1 (And.intro htb (And.intro hgr (And.intro hrl hk1))))); clear hb1 hr1 hfs htb hgr hrl hk1 hwA hg hr
  refine wp_region_noPanic ?_
  refine wp_region_held_drew (S := (fun w' : World => Blk w' g (hpC p hv).toArray 33)) (by kernel_rfl) (by (try dsimp only); exact H2.out.1) (fun hHeld => ?_)
  refine wpAnyH_take (i := 0) (oi := { dst := some 3, op := Op.fieldAddr 33 (Operand.tmp 1) 0, type := 0, pos := "laws.go:58", after := #[], guard := none }) (v := ?_) rfl (by kernel_rfl) (by kernel_rfl) (by kernel_rfl) (fun _ _ _ h => h) (Or.inl ⟨by rfl, ?_⟩) (by assumption) ?_
  rotate_left
  · intro w hSw; (try dsimp only at hSw); go_simp; try with_reducible rfl
  try simp only [Act.put, List.setIfInBounds_toArray, List.set_cons_zero, List.set_cons_succ]
  refine wpAnyH_take (i := 1) (oi := { dst := some 4, op := Op.load 29 (Operand.tmp 3), type := 29, pos := "laws.go:58", after := #[{ on := 0, ground := Ground.data }], guard := none }) (v := .agg (hpB p).toArray) rfl (by kernel_rfl) (by kernel_rfl) (by kernel_rfl) (fun _ _ _ h => h) (Or.inl ⟨by rfl, ?_⟩) (by assumption) ?_
  · intro w hSw; exact t_load 29 (.tmp 3) rfl ⟨g, 0, none⟩ rfl (run_loadAt_cells w ⟨g, 0, none⟩ 29 (hpB p) _ (hp_bools hSw) Tryz.underlying29 rfl size_14b)
  try simp only [Act.put, List.setIfInBounds_toArray, List.set_cons_zero, List.set_cons_succ]
  refine wpAnyH_take (i := 2) (oi := { dst := some 5, op := Op.fieldAddr 33 (Operand.tmp 1) 1, type := 0, pos := "laws.go:58", after := #[], guard := none }) (v := ?_) rfl (by kernel_rfl) (by kernel_rfl) (by kernel_rfl) (fun _ _ _ h => h) (Or.inl ⟨by rfl, ?_⟩) (by assumption) ?_
  rotate_left
  · intro w hSw; (try dsimp only at hSw); go_simp; try with_reducible rfl
  try simp only [Act.put, List.setIfInBounds_toArray, List.set_cons_zero, List.set_cons_succ]
  refine wpAnyH_take (i := 3) (oi := { dst := some 6, op := Op.load 30 (Operand.tmp 5), type := 30, pos := "laws.go:58", after := #[{ on := 2, ground := Ground.data }], guard := none }) (v := .agg (hpT p).toArray) rfl (by kernel_rfl) (by kernel_rfl) (by kernel_rfl) (fun _ _ _ h => h) (Or.inl ⟨by rfl, ?_⟩) (by assumption) ?_
  · intro w hSw; exact t_load 30 (.tmp 5) rfl ⟨g, 14, none⟩ rfl (run_loadAt_cells w ⟨g, 14, none⟩ 30 (hpT p) _ (hp_texts hSw) Tryz.underlying30 rfl size_14s)
  try simp only [Act.put, List.setIfInBounds_toArray, List.set_cons_zero, List.set_cons_succ]
  refine wpAnyH_take (i := 4) (oi := { dst := some 7, op := Op.fieldAddr 33 (Operand.tmp 1) 2, type := 0, pos := "laws.go:58", after := #[], guard := none }) (v := ?_) rfl (by kernel_rfl) (by kernel_rfl) (by kernel_rfl) (fun _ _ _ h => h) (Or.inl ⟨by rfl, ?_⟩) (by assumption) ?_
  rotate_left
  · intro w hSw; (try dsimp only at hSw); go_simp; try with_reducible rfl
  try simp only [Act.put, List.setIfInBounds_toArray, List.set_cons_zero, List.set_cons_succ]
  refine wpAnyH_take (i := 5) (oi := { dst := some 8, op := Op.load 3 (Operand.tmp 7), type := 3, pos := "laws.go:58", after := #[{ on := 4, ground := Ground.data }], guard := none }) (v := ?_) rfl (by kernel_rfl) (by kernel_rfl) (by kernel_rfl) (fun _ _ _ h => h) (Or.inl ⟨by rfl, ?_⟩) (by assumption) ?_
  rotate_left
  · intro w hSw; have hc := hp_mode hSw; clear hSw; go_simp; try with_reducible rfl
  try simp only [Act.put, List.setIfInBounds_toArray, List.set_cons_zero, List.set_cons_succ]
  refine wpAnyH_take (i := 6) (oi := { dst := some 9, op := Op.fieldAddr 33 (Operand.tmp 1) 3, type := 0, pos := "laws.go:58", after := #[], guard := none }) (v := ?_) rfl (by kernel_rfl) (by kernel_rfl) (by kernel_rfl) (fun _ _ _ h => h) (Or.inl ⟨by rfl, ?_⟩) (by assumption) ?_
  rotate_left
  · intro w hSw; (try dsimp only at hSw); go_simp; try with_reducible rfl
  try simp only [Act.put, List.setIfInBounds_toArray, List.set_cons_zero, List.set_cons_succ]
  refine wpAnyH_take (i := 7) (oi := { dst := some 10, op := Op.load 3 (Operand.tmp 9), type := 3, pos := "laws.go:58", after := #[{ on := 6, ground := Ground.data }], guard := none }) (v := ?_) rfl (by kernel_rfl) (by kernel_rfl) (by kernel_rfl) (fun _ _ _ h => h) (Or.inl ⟨by rfl, ?_⟩) (by assumption) ?_
  rotate_left
  · intro w hSw; have hc := hp_prio hSw; clear hSw; go_simp; try with_reducible rfl
  try simp only [Act.put, List.setIfInBounds_toArray, List.set_cons_zero, List.set_cons_succ]
  refine wpAnyH_take (i := 8) (oi := { dst := some 11, op := Op.fieldAddr 33 (Operand.tmp 1) 4, type := 0, pos := "laws.go:58", after := #[], guard := none }) (v := ?_) rfl (by kernel_rfl) (by kernel_rfl) (by kernel_rfl) (fun _ _ _ h => h) (Or.inl ⟨by rfl, ?_⟩) (by assumption) ?_
  rotate_left
  · intro w hSw; (try dsimp only at hSw); go_simp; try with_reducible rfl
  try simp only [Act.put, List.setIfInBounds_toArray, List.set_cons_zero, List.set_cons_succ]
  refine wpAnyH_take (i := 9) (oi := { dst := some 12, op := Op.load 2 (Operand.tmp 11), type := 2, pos := "laws.go:58", after := #[{ on := 8, ground := Ground.data }], guard := none }) (v := ?_) rfl (by kernel_rfl) (by kernel_rfl) (by kernel_rfl) (fun _ _ _ h => h) (Or.inl ⟨by rfl, ?_⟩) (by assumption) ?_
  rotate_left
  · intro w hSw; have hc := hp_time hSw; clear hSw; go_simp; try with_reducible rfl
  try simp only [Act.put, List.setIfInBounds_toArray, List.set_cons_zero, List.set_cons_succ]
  refine wpAnyH_take (i := 10) (oi := { dst := some 13, op := Op.fieldAddr 33 (Operand.tmp 1) 5, type := 0, pos := "laws.go:58", after := #[], guard := none }) (v := ?_) rfl (by kernel_rfl) (by kernel_rfl) (by kernel_rfl) (fun _ _ _ h => h) (Or.inl ⟨by rfl, ?_⟩) (by assumption) ?_
  rotate_left
  · intro w hSw; (try dsimp only at hSw); go_simp; try with_reducible rfl
  try simp only [Act.put, List.setIfInBounds_toArray, List.set_cons_zero, List.set_cons_succ]
  refine wpAnyH_take (i := 11) (oi := { dst := some 14, op := Op.load 31 (Operand.tmp 13), type := 31, pos := "laws.go:58", after := #[{ on := 10, ground := Ground.data }], guard := none }) (v := ?_) rfl (by kernel_rfl) (by kernel_rfl) (by kernel_rfl) (fun _ _ _ h => h) (Or.inl ⟨by rfl, ?_⟩) (by assumption) ?_
  rotate_left
  · intro w hSw; have hc := hp_hdr hSw; clear hSw; go_simp; try with_reducible rfl
  try simp only [Act.put, List.setIfInBounds_toArray, List.set_cons_zero, List.set_cons_succ]
  refine wpAnyH_ready (rs := [12]) (by kernel_rfl) (by simp) ?_
  refine AllReadyH.cons (o := { dst := some 15, op := Op.call { callee := Callee.value (Operand.func 26), args := #[Operand.tmp 14], argTypes := #[31] }, type := 52, pos := "laws.go:58", after := #[{ on := 11, ground := Ground.data }], guard := none }) rfl (fun K hK => ?_) AllReadyH.nil
  go_simp
  go_at_call 26; (with_reducible refine H2.out.2.2.1.mono ?_); rintro e w2 ⟨hv2, rfl, hf2, hk2⟩; obtain ⟨ha2, hc2, rfl, _⟩ := id hf2; have hb2 := H2.out.1.kept hk2 (by simp); have H3 := Lib.hid (And.intro hb2 (And.intro hf2 hk2)); clear hb2 hf2 hk2
  go_wp2_with fail
  refine hK.out _ _ (by (try dsimp only); exact H3.out.1) (fun hHeld => ?_)
  clear hK K
  try simp only [Act.put, List.setIfInBounds_toArray, List.set_cons_zero, List.set_cons_succ]
  refine wpAnyH_take (i := 13) (oi := { dst := some 16, op := Op.build 54 #[(0, Operand.tmp 4), (1, Operand.tmp 6), (2, Operand.tmp 8), (3, Operand.tmp 10), (4, Operand.tmp 12), (5, Operand.tmp 15)], type := 54, pos := "laws.go:58", after := #[{ on := 1, ground := Ground.data }, { on := 3, ground := Ground.data }, { on := 5, ground := Ground.data }, { on := 7, ground := Ground.data }, { on := 9, ground := Ground.data }, { on := 12, ground := Ground.data }], guard := none }) (v := .agg (hpC p.conv (.slice ha2 (convT p.hdr).length hc2)).toArray) rfl (by kernel_rfl) (by kernel_rfl) (by kernel_rfl) (fun _ _ _ h => h) (Or.inl ⟨by rfl, ?_⟩) (by assumption) ?_
  · intro w hSw; exact t_build 54 #[(0, .tmp 4), (1, .tmp 6), (2, .tmp 8), (3, .tmp 10), (4, .tmp 12), (5, .tmp 15)] rfl #[(0, .agg (hpB p.conv).toArray), (1, .agg (hpT p.conv).toArray), (2, .int .i64 p.conv.mode), (3, .int .i64 p.conv.prio), (4, .int .i64 p.conv.time), (5, .slice ha2 (convT p.hdr).length hc2)] (by simp [Act.eval, HP.conv, hpB, hpT]) (build_sPr p.conv ha2 _ hc2 w)
  try simp only [Act.put, List.setIfInBounds_toArray, List.set_cons_zero, List.set_cons_succ]
  refine wpAnyH_ready (rs := [14]) (by kernel_rfl) (by simp) ?_
  refine AllReadyH.cons (o := { dst := none, op := Op.store 54 (Operand.tmp 2) (Operand.tmp 16), type := 0, pos := "laws.go:58", after := #[{ on := 13, ground := Ground.data }, { on := 12, ground := Ground.chain }, { on := 0, ground := Ground.phase }, { on := 1, ground := Ground.phase }, { on := 2, ground := Ground.phase }, { on := 3, ground := Ground.phase }, { on := 4, ground := Ground.phase }, { on := 5, ground := Ground.phase }, { on := 6, ground := Ground.phase }, { on := 7, ground := Ground.phase }, { on := 8, ground := Ground.phase }, { on := 9, ground := Ground.phase }, { on := 10, ground := Ground.phase }, { on := 11, ground := Ground.phase }, { on := 12, ground := Ground.phase }, { on := 13, ground := Ground.phase }], guard := none }) rfl (fun K hK => ?_) AllReadyH.nil
  refine b_store_row (by rfl) rfl 54 (.tmp 2) (.tmp 16) rfl r rfl 54 zs (hpC p.conv (.slice ha2 (convT p.hdr).length hc2)) (H2.out.2.1.kept H3.out.2.2 (by simp)) rfl (by rw [HA.out.2.2.2.2.2.2.2]; rfl) (hpC_one _ _ H3.out.2.1.one) size_sPr (fun w4 hb4 hk4 => ?_)
  have hb5 := H3.out.1.kept hk4 (by have := H2.out.2.2.2.1; simpa using this)
  have H4 := Lib.hid (And.intro hb4 (And.intro hk4 hb5)); clear hb4 hk4 hb5
  refine hK.out _ _ (by (try dsimp only); exact H4.out.2.2) (fun hHeld => ?_)
  clear hK K
  try simp only [Act.put, List.setIfInBounds_toArray, List.set_cons_zero, List.set_cons_succ]
  refine wpAnyH_done (by kernel_rfl) ?_ _
  refine NoPanic.normal ?_
  go_wp2_with fail
  refine bodyPost_ret (v := .agg (hpC p.conv (.slice ha2 (convT p.hdr).length hc2)).toArray) (results_prop rfl H4.out.1 rfl) rfl ⟨_, rfl, ?_, ?_⟩
  · exact (H3.out.2.1.kept H4.out.2.1 (fun b hb => by have hb : w1.drew.heap.size ≤ b := hb; have := H2.out.2.1.lt; simp; omega)).mono (fun b hb _ => by have hb : w1.drew.heap.size ≤ b := hb; have := H2.out.2.2.2.2.2.size; omega)
  · exact (H2.out.2.2.2.2.2.trans H3.out.2.2 (by simp)).trans H4.out.2.1 (fun x hx => .inr (by have := H2.out.2.2.2.2.1; simp at hx; omega))
end Go.Proofs.YtkcdakohmfodjaaGreat
