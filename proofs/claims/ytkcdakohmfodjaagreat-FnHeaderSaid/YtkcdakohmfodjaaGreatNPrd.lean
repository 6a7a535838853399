/-
  Lemmas on the way to the statement of YtkcdakohmfodjaaGreatHeader, joined out of these texts: Prd. No condition.
-/
import Derived.Test.YtkcdakohmfodjaaGreatNHpW
import Derived.Test.YtkcdakohmfodjaaGreatNPh
import Derived.Test.YtkcdakohmfodjaaGreatNToldV
namespace Go.Proofs.YtkcdakohmfodjaaGreat
open Go.RowKit
set_option linter.unusedVariables false
set_option linter.unusedSimpArgs false
/-- The package's properties in a header's frame. -/
def prOf (p : HP) (hd : Value) : Array Value := #[.string (bstr (p.heldT 0)), .string (bstr (p.heldT 1)), hd, .int .u8 p.mode, .int .u8 p.prio, .string (bstr (p.heldT 5)), .string (bstr (p.heldT 6)), .string (bstr (p.heldT 7)), .string (bstr (p.heldT 8)), .int .u64 0, .int .i64 p.moment, .pointer none, .string (bstr (p.heldT 10)), .string (bstr (p.heldT 11)), .string (bstr (p.heldT 12)), .string (bstr (p.heldT 13))]
theorem prOf_cell (p : HP) (hd : Value) (j : Nat) (hj : j < 9) : (prOf p hd)[offOf j]? = some (.string (bstr (p.heldT (keyOf j)))) := by
  have h9 : j = 0 ∨ j = 1 ∨ j = 2 ∨ j = 3 ∨ j = 4 ∨ j = 5 ∨ j = 6 ∨ j = 7 ∨ j = 8 := by omega
  rcases h9 with rfl | rfl | rfl | rfl | rfl | rfl | rfl | rfl | rfl <;> rfl
/-- The texts that are told so far, as data. -/
def qT (T : Nat → List UInt8) : HP := ⟨fun k => !(T k).isEmpty, T, 0, 0, 0, []⟩
theorem qT_put (T : Nat → List UInt8) (j : Nat) (hj : j < 9) (t : List UInt8) (hv : Value) :
    ((hpC (qT T) hv).toArray.setIfInBounds (keyOf j) (.bool (!t.isEmpty))).setIfInBounds (14 + keyOf j) (.string (bstr t)) = (hpC (qT (putT T (keyOf j) t)) hv).toArray := by
  have h9 : j = 0 ∨ j = 1 ∨ j = 2 ∨ j = 3 ∨ j = 4 ∨ j = 5 ∨ j = 6 ∨ j = 7 ∨ j = 8 := by omega
  rcases h9 with rfl | rfl | rfl | rfl | rfl | rfl | rfl | rfl | rfl <;> rfl
theorem qT_congr (T T' : Nat → List UInt8) (hv : Value) (h : ∀ k, k < 14 → T k = T' k) : hpC (qT T) hv = hpC (qT T') hv := by
  simp only [hpC, hpB, hpT, qT]
  rw [h 0 (by decide), h 1 (by decide), h 2 (by decide), h 3 (by decide), h 4 (by decide), h 5 (by decide), h 6 (by decide), h 7 (by decide), h 8 (by decide), h 9 (by decide), h 10 (by decide), h 11 (by decide), h 12 (by decide), h 13 (by decide)]
theorem Put.step_any {p : HP} {f o : Nat} {es : List (Value × Value)} {is : List Nat} {T : Nat → List UInt8} (h : Put p f o es is T) {i j : Nat} (hj : j < 9) (hi : es[i]? = some (textEnt f o j)) :
    Put p f o es (is ++ [i]) (putT T (keyOf j) (p.heldT (keyOf j))) := by
  cases hp : p.has (keyOf j)
  · have hz : p.heldT (keyOf j) = [] := by unfold HP.heldT; rw [hp]; simp
    have ht : T (keyOf j) = [] := by
      by_cases hs : ∃ i', i' ∈ is ∧ es[i']? = some (textEnt f o j)
      · rw [h.seen j hj hs, hz]
      · exact h.rest j hj hs
    have e : putT T (keyOf j) (p.heldT (keyOf j)) = T := by
      funext k
      unfold putT
      by_cases hk : k = keyOf j
      · rw [if_pos hk, hz, hk, ht]
      · rw [if_neg hk]
    rw [e]
    exact h.step_no hj hi hp
  · rw [HP.held_has hp (keyOf_13 j hj)]
    exact h.step_has hj hi hp
theorem HP.held_all {p : HP} (h : properP p = true) (k : Nat) (hk : k < 14) : p.heldT k = p.txt k := by
  have hnil := (proper_fit h).2.2.2.2.2.2.2
  simp only [List.append_eq_nil_iff] at hnil
  have h13 := proper_at h 13 (by decide)
  unfold HP.okAt at h13
  simp at h13
  have hz : ∀ t, p.txt t = [] → p.heldT t = p.txt t := fun t ht => by unfold HP.heldT; split <;> simp [ht]
  by_cases h2 : k = 2
  · subst h2; exact hz 2 hnil.1.1.1
  by_cases h3 : k = 3
  · subst h3; exact hz 3 hnil.1.1.2
  by_cases h4 : k = 4
  · subst h4; exact hz 4 hnil.1.2
  by_cases h9 : k = 9
  · subst h9; exact hz 9 hnil.2
  by_cases h1 : k = 13
  · subst h1; exact hz 13 h13.2
  have ho := (HP.okText h k hk h2 h3 h4 h9 h1).1
  unfold HP.heldT
  cases hh : p.has k
  · rw [hh] at ho
    have : p.txt k = [] := by simpa using ho.symm
    simp [this]
  · rw [if_pos ⟨h1, rfl⟩]
theorem keyOf_not : ∀ j, j < 9 → keyOf j ≠ 2 ∧ keyOf j ≠ 3 ∧ keyOf j ≠ 4 ∧ keyOf j ≠ 9 ∧ keyOf j ≠ 13 := by decide
theorem size_pPr : (Tryz.prog.info? 101).map (·.size) = some 16 := by kernel_rfl
/-- The row of the data while it is filled. -/
def prR2 (p : HP) (n : Nat) (hv : Value) : Array Value := ((hpC (qT p.heldT) (.slice none 0 0)).toArray.setIfInBounds 2 (.bool (decide (0 < n)))).setIfInBounds 31 hv
def prR4 (p : HP) (n : Nat) (hv : Value) : Array Value := ((((prR2 p n hv).setIfInBounds 3 (.bool (p.mode != 0))).setIfInBounds 28 (.int .i64 p.mode)).setIfInBounds 4 (.bool (p.prio != 0))).setIfInBounds 29 (.int .i64 p.prio)
theorem prR4_eq {p : HP} (hp : properP p = true) (n : Nat) (hv : Value) (hn : n = (normFs p.hdr).length) (b9 : Bool) (tm : Int) (h9 : b9 = p.has 9) (ht : tm = p.time) :
    ((prR4 p n hv).setIfInBounds 9 (.bool b9)).setIfInBounds 30 (.int .i64 tm) = (hpC p.norm hv).toArray := by
  have e2 : decide (0 < n) = p.has 2 := by
    rw [hn, normFs_lenF, HP.okHdr hp]
    cases p.hdr <;> simp
  have hf := proper_fit hp
  have e3 : (p.mode != 0) = p.has 3 := by rw [HP.okMode hp, Bool.eq_iff_iff]; simp; omega
  have e4 : (p.prio != 0) = p.has 4 := by rw [HP.okPrio hp, Bool.eq_iff_iff]; simp; omega
  have a := HP.held_all hp
  have b := HP.held_test hp
  have a13 : (!(p.heldT 13).isEmpty) = p.has 13 := by rw [HP.ok13 hp]; rfl
  subst h9 ht
  unfold prR4 prR2
  rw [e2, e3, e4]
  simp only [hpC, hpB, hpT, qT, HP.norm, List.cons_append, List.nil_append, List.setIfInBounds_toArray, List.set_cons_zero, List.set_cons_succ]
  rw [b 0 (by decide) (by decide) (by decide) (by decide) (by decide) (by decide), b 1 (by decide) (by decide) (by decide) (by decide) (by decide) (by decide), b 5 (by decide) (by decide) (by decide) (by decide) (by decide) (by decide), b 6 (by decide) (by decide) (by decide) (by decide) (by decide) (by decide), b 7 (by decide) (by decide) (by decide) (by decide) (by decide) (by decide), b 8 (by decide) (by decide) (by decide) (by decide) (by decide) (by decide), b 10 (by decide) (by decide) (by decide) (by decide) (by decide) (by decide), b 11 (by decide) (by decide) (by decide) (by decide) (by decide) (by decide), b 12 (by decide) (by decide) (by decide) (by decide) (by decide) (by decide), a13, a 0 (by decide), a 1 (by decide), a 2 (by decide), a 3 (by decide), a 4 (by decide), a 5 (by decide), a 6 (by decide), a 7 (by decide), a 8 (by decide), a 9 (by decide), a 10 (by decide), a 11 (by decide), a 12 (by decide), a 13 (by decide)]
theorem prR4_no {p : HP} (hp : properP p = true) (h9 : p.has 9 = false) (n : Nat) (hv : Value) (hn : n = (normFs p.hdr).length) : prR4 p n hv = (hpC p.norm hv).toArray := by
  have h := prR4_eq hp n hv hn false 0 h9.symm (by have h1 := HP.okTime hp; rw [h9] at h1; have h2 := of_decide_eq_false h1.symm; have h3 := proper_fit hp; omega)
  rw [← h]
  have hz : (!(p.heldT 9).isEmpty) = false := by unfold HP.heldT; rw [h9]; simp
  unfold prR4 prR2
  simp only [hpC, hpB, hpT, qT, List.cons_append, List.nil_append, List.setIfInBounds_toArray, List.set_cons_zero, List.set_cons_succ, hz]
theorem results_prd {tmps : Array Value} {g : Nat} {cs : Array Value} {b : Bool} {w : World} (h : tmps.getD 2 undef = .pointer (some ⟨g, 0, none⟩)) (h3 : tmps.getD 3 undef = .bool b) (hg : Blk w g cs 33) (hs : cs.size = 32) :
    (results Tryz.f47 tmps).run Tryz.prog w = .ok (.tuple #[.agg cs, .bool b]) w := by
  have hl := run_loadVar_row (P := Tryz.prog) w g 33 33 cs (0, 0) _ hg Tryz.underlying33 rfl (by rw [hs]; exact size_iPr)
  simp only [Array.getD_eq_getD_getElem?] at h h3
  simp [results, Tryz.results47, h, h3, asAddr, hl]
/-- impl.fields of the headers. -/
theorem fields_hd {B : Nat → Prop} (p : HP) (hp : properP p = true) (hwf : WfP p) (hd : Value) (W : World) (h : HdP B W p hd) : Calls Tryz.prog 67 #[hd] W fun e w' => ∃ out, e = .returned (.tuple #[out, .bool true]) ∧ FSl (fun b => W.heap.size ≤ b) w' out (normFs p.hdr) ∧ Kept [] W w' := by
  have hfi := (fitsB_iff _).1 (proper_fit hp).1
  rcases h with ⟨h2, rfl⟩ | ⟨h2, b, es, rfl, hb, hm, hpf⟩
  · have hn : p.hdr = [] := by have := HP.okHdr hp; rw [h2] at this; simpa using this.symm
    rw [hn]
    refine (fieldsT_nil W).mono ?_
    rintro e w' ⟨rfl, hk⟩
    exact ⟨_, rfl, ⟨none, 0, rfl, Nat.le_refl _, fun h => absurd rfl h, by unfold normFs FAt; trivial⟩, hk⟩
  · exact fieldsT_any p.hdr none 6 B W b es hwf.hdr hfi.1 hfi.2 hm hpf
set_option maxHeartbeats 400000 in
theorem reserved_any (p : HP) (hd : Value) (w : World) : Calls Tryz.prog 68 #[.agg (prOf p hd)] w fun e w' => e = .returned (.string (bstr (p.heldT 13))) ∧ Kept [] w w' := by
  have hc : (w.alloc (.cells (prOf p hd) 101)).cell? ⟨w.heap.size, 15, none⟩ = some (.string (bstr (p.heldT 13))) := (Blk.new w (prOf p hd) 101).cell 15
  obtain ⟨cs, hcs⟩ : ∃ cs, cs = prOf p hd := ⟨_, rfl⟩
  rw [← hcs] at hc ⊢
  clear hcs
  go_enter Tryz.func68, Tryz.ntmps68
  go_wp2
  go_ret
  exact ⟨rfl, (Kept.refl [] w).alloc _⟩
set_option maxHeartbeats 8000000 in
set_option maxRecDepth 100000 in
theorem prd_any (B : Nat → Prop) (p : HP) (hp : properP p = true) (hwf : WfP p) (hd : Value) (w : World) (hhd : HdP B w p hd) :
    Calls Tryz.prog 47 #[.agg (prOf p hd)] w fun e w' => ∃ hv, e = .returned (.tuple #[.agg (hpC p.norm hv).toArray, .bool true]) ∧ FSl (fun b => w.heap.size ≤ b) w' hv (normFs p.hdr) ∧ Kept [] w w' := by
  obtain ⟨cs, hcs⟩ : ∃ cs, cs = prOf p hd := ⟨_, rfl⟩
  rw [← hcs]
  obtain ⟨wa, hwa⟩ : ∃ wa, wa = ((w.alloc (.cells cs 101)).alloc (.cells #[.bool false, .bool false, .bool false, .bool false, .bool false, .bool false, .bool false, .bool false, .bool false, .bool false, .bool false, .bool false, .bool false, .bool false, .string ⟨#[]⟩, .string ⟨#[]⟩, .string ⟨#[]⟩, .string ⟨#[]⟩, .string ⟨#[]⟩, .string ⟨#[]⟩, .string ⟨#[]⟩, .string ⟨#[]⟩, .string ⟨#[]⟩, .string ⟨#[]⟩, .string ⟨#[]⟩, .string ⟨#[]⟩, .string ⟨#[]⟩, .string ⟨#[]⟩, .int .i64 0, .int .i64 0, .int .i64 0, .slice none 0 0] 33)).alloc (.cells #[.bool false, .bool false, .bool false, .bool false, .bool false, .bool false, .bool false, .bool false, .bool false, .bool false, .bool false, .bool false, .bool false, .bool false, .string ⟨#[]⟩, .string ⟨#[]⟩, .string ⟨#[]⟩, .string ⟨#[]⟩, .string ⟨#[]⟩, .string ⟨#[]⟩, .string ⟨#[]⟩, .string ⟨#[]⟩, .string ⟨#[]⟩, .string ⟨#[]⟩, .string ⟨#[]⟩, .string ⟨#[]⟩, .string ⟨#[]⟩, .string ⟨#[]⟩, .int .i64 0, .int .i64 0, .int .i64 0, .slice none 0 0] 33) := ⟨_, rfl⟩
  have hka : Kept [] w wa := by rw [hwa]; exact (((Kept.refl [] w).alloc _).alloc _).alloc _
  have hb0 : Blk wa w.heap.size (prOf p hd) 101 := by rw [hwa, ← hcs]; exact ((Blk.new w _ _).alloc _).alloc _
  have hb1 : Blk wa (w.heap.size + 1) (hpC (qT (fun _ => [])) (.slice none 0 0)).toArray 33 := by rw [hwa]; exact (Blk.new_at (by simp)).alloc _
  have hb2 : Blk wa (w.heap.size + 1 + 1) (hpC (qT (fun _ => [])) (.slice none 0 0)).toArray 33 := by rw [hwa]; exact Blk.new_at (by simp)
  have hsz : wa.heap.size = w.heap.size + 3 := by rw [hwa]; simp
  have htx := texts_any w.heap.size 0 wa
  have HA := Lib.hid (And.intro hka (And.intro hb0 (And.intro hb1 (And.intro hb2 (And.intro hsz htx)))))
  have H := Lib.hid (And.intro hp (And.intro hwf hhd))
  have HW := Lib.hid hwa; have HC := Lib.hid hcs
  clear hka hb0 hb1 hb2 hsz htx hp hwf hhd hwa hcs
  have em : IntKind.i64.wrap p.mode = p.mode := by rw [IntKind.wrap_i64]; have := proper_fit H.out.1; omega
  have ep : IntKind.i64.wrap p.prio = p.prio := by rw [IntKind.wrap_i64]; have := proper_fit H.out.1; omega
  go_enter Tryz.func47, Tryz.ntmps47
  go_upto_region 2 with fail
  rw [← HW.out]
  go_wp2_with (first
    | (go_at_call 39; (with_reducible refine HA.out.2.2.2.2.2.mono ?_); rintro e w1 ⟨mb, es, rfl, m1, m2, m3, m4, m5⟩; have H1 := Lib.hid (And.intro m1 (And.intro m2 (And.intro m3 (And.intro m4 m5)))); clear m1 m2 m3 m4 m5)
    | (at_range; refine wpList_range_map rfl _ 104 rfl 3 107 Tryz.underlying104 mb es rfl H1.out.1 ?_; intro w2 hw2; have hk2 : Kept [] w1 w2 := by { rw [hw2]; exact (Kept.refl [] w1).alloc _ }; have hi2 : ItAt w2 w1.heap.size mb es.length [] := by { rw [hw2]; exact heap_alloc_new w1 _ }; have H2 := Lib.hid (And.intro hk2 hi2); clear hk2 hi2 hw2))
  go_frame
  go_loopw [5] (fun s5 W => ∃ (is : List Nat) (T : Nat → List UInt8), Hid (is.Nodup ∧ (∀ i ∈ is, i < es.length) ∧ ItAt W w1.heap.size mb es.length is ∧ Put p w.heap.size 0 es is T ∧ (T 2 = [] ∧ T 3 = [] ∧ T 4 = [] ∧ T 9 = []) ∧
    Blk W (w.heap.size + 1 + 1) (hpC (qT T) (.slice none 0 0)).toArray 33 ∧ MapAt W mb es ∧ Kept [w.heap.size + 1 + 1] w1 W)) (fun _ W => es.length - (W.iterSeen w1.heap.size).size)
  case atStart => exact ⟨[], fun _ => [], Lib.hid ⟨List.nodup_nil, by simp, H2.out.2, Put.start p _ _ _, ⟨rfl, rfl, rfl, rfl⟩, (HA.out.2.2.2.1.kept H1.out.2.2.2.2 (by simp)).kept H2.out.1 (by simp), H1.out.1.kept H2.out.1 (by simp), H2.out.1.mono (by simp)⟩⟩
  case round =>
    obtain ⟨is, T, HR⟩ := hrel
    go_wp2_with (at_next; refine wpList_next_map rfl _ rfl w1.heap.size mb es is rfl HR.out.2.2.1 HR.out.2.2.2.2.2.2.1 ?_ ?_)
    · intro hall
      have hT : ∀ k, k < 14 → T k = p.heldT k := fun k hk => by
        have hd9 : ∀ j, j < 9 → T (keyOf j) = p.heldT (keyOf j) := fun j hj => by
          obtain ⟨i, hi⟩ := List.mem_iff_getElem?.1 (H1.out.2.2.1 j hj)
          exact HR.out.2.2.2.1.seen j hj ⟨i, hall i (List.getElem?_eq_some_iff.1 hi).1, hi⟩
        have ha := HP.held_all H.out.1
        have hnil := (proper_fit H.out.1).2.2.2.2.2.2.2
        simp only [List.append_eq_nil_iff] at hnil
        have hr := HR.out.2.2.2.2.1
        have h14 : k = 0 ∨ k = 1 ∨ k = 2 ∨ k = 3 ∨ k = 4 ∨ k = 5 ∨ k = 6 ∨ k = 7 ∨ k = 8 ∨ k = 9 ∨ k = 10 ∨ k = 11 ∨ k = 12 ∨ k = 13 := by omega
        rcases h14 with rfl | rfl | rfl | rfl | rfl | rfl | rfl | rfl | rfl | rfl | rfl | rfl | rfl | rfl
        · exact hd9 0 (by decide)
        · exact hd9 1 (by decide)
        · rw [hr.1, ha 2 (by decide), hnil.1.1.1]
        · rw [hr.2.1, ha 3 (by decide), hnil.1.1.2]
        · rw [hr.2.2.1, ha 4 (by decide), hnil.1.2]
        · exact hd9 2 (by decide)
        · exact hd9 3 (by decide)
        · exact hd9 4 (by decide)
        · exact hd9 5 (by decide)
        · rw [hr.2.2.2, ha 9 (by decide), hnil.2]
        · exact hd9 6 (by decide)
        · exact hd9 7 (by decide)
        · exact hd9 8 (by decide)
        · rw [HR.out.2.2.2.1.last]; rfl
      have hbo := HR.out.2.2.2.2.2.1
      rw [qT_congr T p.heldT _ hT] at hbo
      have hkr := HR.out.2.2.2.2.2.2.2
      have hs1 := H1.out.2.2.2.2.size
      have hsa := HA.out.2.2.2.2.1
      have hbp := (HA.out.2.1.kept H1.out.2.2.2.2 (by simp)).kept hkr (by simp; try omega)
      have hbr := (HA.out.2.2.1.kept H1.out.2.2.2.2 (by simp)).kept hkr (by simp; try omega)
      have hkw : Kept [] w wr := (HA.out.1.trans H1.out.2.2.2.2 (by simp)).trans hkr (fun x hx => .inr (by simp at hx; omega))
      have HL := Lib.hid (And.intro hbo (And.intro hbp (And.intro hbr hkw)))
      have hhdr : HdP (fun b => B b ∧ b < w.heap.size) wr p hd := (H.out.2.2.mono (fun b hb hl => ⟨hb, hl⟩)).kept hkw (by simp)
      have hfc := fun (W : World) (hk : Kept [w.heap.size + 1 + 1] wr W) => fields_hd p H.out.1 H.out.2.1 hd W (hhdr.kept hk (by simp; omega))
      have HF := Lib.hid hfc
      have c2 : wr.cell? ⟨w.heap.size, 2, none⟩ = some hd := hbp.cell 2
      have o13 := hp_has hbo 13 (by decide)
      have o27 : wr.cell? ⟨w.heap.size + 1 + 1, 27, none⟩ = some (.string (bstr ((qT p.heldT).txt 13))) := hp_txt hbo 13 (by decide)
      have g13 := hbo.free 13
      have g27 := hbo.free 27
      clear hT hbo hkr hs1 hsa hbp hbr hkw hall hfc hhdr
      go_upto_region 8 with (first
        | (refine wpList_load_row (P := Tryz.prog) rfl 101 (.tmp 1) rfl w.heap.size rfl 101 (prOf p hd) HL.out.2.1 _ Tryz.underlying101 rfl size_pPr ?_)
        | (go_at_call 68; (with_reducible refine (reserved_any p hd _).mono ?_); rintro e w5 ⟨rfl, hk5⟩; have p13 : w5.cell? ⟨w.heap.size + 1 + 1, 13, none⟩ = some (.bool (!(p.heldT 13).isEmpty)) := (HL.out.1.kept hk5 (by simp)).cell 13; have p27 : w5.cell? ⟨w.heap.size + 1 + 1, 27, none⟩ = some (.string (bstr (p.heldT 13))) := (HL.out.1.kept hk5 (by simp)).cell 27; have q13 := (HL.out.1.kept hk5 (by simp)).free 13; have q27 := (HL.out.1.kept hk5 (by simp)).free 27; have H5 := Lib.hid hk5; clear hk5))
      have hk6 : Kept [w.heap.size + 1 + 1] wr ((w5.setCell ⟨w.heap.size + 1 + 1, 13, none⟩ (.bool (!(p.heldT 13).isEmpty))).setCell ⟨w.heap.size + 1 + 1, 27, none⟩ (.string (bstr (p.heldT 13)))) := ((H5.out.mono (by simp)).setCell (by simp) _).setCell (by simp) _
      have hb6 : Blk ((w5.setCell ⟨w.heap.size + 1 + 1, 13, none⟩ (.bool (!(p.heldT 13).isEmpty))).setCell ⟨w.heap.size + 1 + 1, 27, none⟩ (.string (bstr (p.heldT 13)))) (w.heap.size + 1 + 1) (hpC (qT p.heldT) (.slice none 0 0)).toArray 33 := ((HL.out.1.kept H5.out (by simp)).setCell 13 _).setCell 27 _
      generalize (w5.setCell ⟨w.heap.size + 1 + 1, 13, none⟩ (.bool (!(p.heldT 13).isEmpty))).setCell ⟨w.heap.size + 1 + 1, 27, none⟩ (.string (bstr (p.heldT 13))) = v6 at hk6 hb6 ⊢
      clear c2 o13 o27 g13 g27 p13 p27 q13 q27
      have hw6 : w.heap.size + 1 + 1 < v6.heap.size := hb6.lt
      have c2 : v6.cell? ⟨w.heap.size, 2, none⟩ = some hd := (HL.out.2.1.kept hk6 (by simp; try omega)).cell 2
      have H6 := Lib.hid (And.intro hk6 (And.intro hb6 hw6)); clear hk6 hb6 hw6
      go_upto_region 9 with (go_at_call 67; (with_reducible refine (HF.out _ H6.out.1).mono ?_); rintro e w7 ⟨out, rfl, f1, f2⟩; obtain ⟨oa, oc, rfl, _⟩ := id f1; have hb7 := H6.out.2.1.kept f2 (by simp); have o2 : w7.cell? ⟨w.heap.size + 1 + 1, 2, none⟩ = some (.bool (!(p.heldT 2).isEmpty)) := hb7.cell 2; have o31 : w7.cell? ⟨w.heap.size + 1 + 1, 31, none⟩ = some (.slice none 0 0) := hb7.cell 31; have g2 := hb7.free 2; have g31 := hb7.free 31; have H7 := Lib.hid (And.intro f1 (And.intro f2 hb7)); clear f1 f2 hb7)
      obtain ⟨n, hn⟩ : ∃ n, n = (normFs p.hdr).length := ⟨_, rfl⟩
      rw [← hn]
      have HNN := Lib.hid hn; clear hn
      go_upto_region 10 with fail
      have hk8 : Kept [w.heap.size + 1 + 1] wr ((w7.setCell ⟨w.heap.size + 1 + 1, 2, none⟩ (.bool (decide (0 < n)))).setCell ⟨w.heap.size + 1 + 1, 31, none⟩ (.slice oa n oc)) := ((H6.out.1.trans H7.out.2.1 (by simp)).setCell (by simp) _).setCell (by simp) _
      have hb8 : Blk ((w7.setCell ⟨w.heap.size + 1 + 1, 2, none⟩ (.bool (decide (0 < n)))).setCell ⟨w.heap.size + 1 + 1, 31, none⟩ (.slice oa n oc)) (w.heap.size + 1 + 1) (prR2 p n (.slice oa n oc)) 33 := (H7.out.2.2.setCell 2 _).setCell 31 _
      have hf8 : FSl (fun b => v6.heap.size ≤ b) ((w7.setCell ⟨w.heap.size + 1 + 1, 2, none⟩ (.bool (decide (0 < n)))).setCell ⟨w.heap.size + 1 + 1, 31, none⟩ (.slice oa n oc)) (.slice oa n oc) (normFs p.hdr) := by
        have h7 := H7.out.1
        rw [← HNN.out] at h7
        have h6 := H6.out.2.2
        exact h7.kept (((Kept.refl [w.heap.size + 1 + 1] w7).setCell (by simp) _).setCell (by simp) _) (fun b hb => by simp; omega)
      generalize (w7.setCell ⟨w.heap.size + 1 + 1, 2, none⟩ (.bool (decide (0 < n)))).setCell ⟨w.heap.size + 1 + 1, 31, none⟩ (.slice oa n oc) = v8 at hk8 hb8 hf8 ⊢
      have H8 := Lib.hid (And.intro hk8 (And.intro hb8 hf8)); clear hk8 hb8 hf8 o2 o31 g2 g31 c2
      have hbpS := (HL.out.2.1.kept H8.out.1 (by simp; try omega))
      have cs3 : v8.cell? ⟨w.heap.size, 3, none⟩ = some (.int .u8 p.mode) := hbpS.cell 3
      have o3 : v8.cell? ⟨w.heap.size + 1 + 1, 3, none⟩ = some (.bool (!(p.heldT 3).isEmpty)) := H8.out.2.1.cell 3
      have o28 : v8.cell? ⟨w.heap.size + 1 + 1, 28, none⟩ = some (.int .i64 0) := H8.out.2.1.cell 28
      have g3 := H8.out.2.1.free 3
      have g28 := H8.out.2.1.free 28
      have hkc : ∀ W, Kept [w.heap.size + 1 + 1] v8 W → W.cell? ⟨w.heap.size, 3, none⟩ = some (.int .u8 p.mode) := fun W hk => hk.cell cs3 (by simp; try omega)
      have HKC := Lib.hid hkc; clear hkc hbpS
      go_region_held3 (fun w' : World => w'.cell? ⟨w.heap.size, 3, none⟩ = some (.int .u8 p.mode)) (first
        | exact HKC.out _ ((Kept.refl _ v8).drew)
        | exact HKC.out _ (((Kept.refl _ v8).drew).setCell (by simp) _)
        | exact HKC.out _ ((((Kept.refl _ v8).drew).setCell (by simp) _).setCell (by simp) _)) (first | fail)
      have hk10 : Kept [w.heap.size + 1 + 1] wr ((v8.setCell ⟨w.heap.size + 1 + 1, 3, none⟩ (.bool (p.mode != 0))).setCell ⟨w.heap.size + 1 + 1, 28, none⟩ (.int .i64 p.mode)).drew := ((H8.out.1.setCell (by simp) _).setCell (by simp) _).drew
      have hb10 : Blk ((v8.setCell ⟨w.heap.size + 1 + 1, 3, none⟩ (.bool (p.mode != 0))).setCell ⟨w.heap.size + 1 + 1, 28, none⟩ (.int .i64 p.mode)).drew (w.heap.size + 1 + 1) (((prR2 p n (.slice oa n oc)).setIfInBounds 3 (.bool (p.mode != 0))).setIfInBounds 28 (.int .i64 p.mode)) 33 := ((H8.out.2.1.setCell 3 _).setCell 28 _).drew
      have hf10 : FSl (fun b => v6.heap.size ≤ b) ((v8.setCell ⟨w.heap.size + 1 + 1, 3, none⟩ (.bool (p.mode != 0))).setCell ⟨w.heap.size + 1 + 1, 28, none⟩ (.int .i64 p.mode)).drew (.slice oa n oc) (normFs p.hdr) := by
        have h6 := H6.out.2.2
        exact H8.out.2.2.kept (((Kept.refl [w.heap.size + 1 + 1] v8).setCell (by simp) _).setCell (by simp) _).drew (fun b hb => by simp; omega)
      generalize ((v8.setCell ⟨w.heap.size + 1 + 1, 3, none⟩ (.bool (p.mode != 0))).setCell ⟨w.heap.size + 1 + 1, 28, none⟩ (.int .i64 p.mode)).drew = v10 at hk10 hb10 hf10 ⊢
      have H10 := Lib.hid (And.intro hk10 (And.intro hb10 hf10)); clear hk10 hb10 hf10 cs3 o3 o28 g3 g28 HKC
      go_upto_region 11 with fail
      have hbpS := (HL.out.2.1.kept H10.out.1 (by simp; try omega))
      have cs3 : v10.cell? ⟨w.heap.size, 4, none⟩ = some (.int .u8 p.prio) := hbpS.cell 4
      have o3 : v10.cell? ⟨w.heap.size + 1 + 1, 4, none⟩ = some (.bool (!(p.heldT 4).isEmpty)) := H10.out.2.1.cell 4
      have o28 : v10.cell? ⟨w.heap.size + 1 + 1, 29, none⟩ = some (.int .i64 0) := H10.out.2.1.cell 29
      have g3 := H10.out.2.1.free 4
      have g28 := H10.out.2.1.free 29
      have hkc : ∀ W, Kept [w.heap.size + 1 + 1] v10 W → W.cell? ⟨w.heap.size, 4, none⟩ = some (.int .u8 p.prio) := fun W hk => hk.cell cs3 (by simp; try omega)
      have HKC := Lib.hid hkc; clear hkc hbpS
      go_region_held3 (fun w' : World => w'.cell? ⟨w.heap.size, 4, none⟩ = some (.int .u8 p.prio)) (first
        | exact HKC.out _ ((Kept.refl _ v10).drew)
        | exact HKC.out _ (((Kept.refl _ v10).drew).setCell (by simp) _)
        | exact HKC.out _ ((((Kept.refl _ v10).drew).setCell (by simp) _).setCell (by simp) _)) (first | fail)
      have hk11 : Kept [w.heap.size + 1 + 1] wr ((v10.setCell ⟨w.heap.size + 1 + 1, 4, none⟩ (.bool (p.prio != 0))).setCell ⟨w.heap.size + 1 + 1, 29, none⟩ (.int .i64 p.prio)).drew := ((H10.out.1.setCell (by simp) _).setCell (by simp) _).drew
      have hb11 : Blk ((v10.setCell ⟨w.heap.size + 1 + 1, 4, none⟩ (.bool (p.prio != 0))).setCell ⟨w.heap.size + 1 + 1, 29, none⟩ (.int .i64 p.prio)).drew (w.heap.size + 1 + 1) (prR4 p n (.slice oa n oc)) 33 := ((H10.out.2.1.setCell 4 _).setCell 29 _).drew
      have hf11 : FSl (fun b => v6.heap.size ≤ b) ((v10.setCell ⟨w.heap.size + 1 + 1, 4, none⟩ (.bool (p.prio != 0))).setCell ⟨w.heap.size + 1 + 1, 29, none⟩ (.int .i64 p.prio)).drew (.slice oa n oc) (normFs p.hdr) := by
        have h6 := H6.out.2.2
        exact H10.out.2.2.kept (((Kept.refl [w.heap.size + 1 + 1] v10).setCell (by simp) _).setCell (by simp) _).drew (fun b hb => by simp; omega)
      generalize ((v10.setCell ⟨w.heap.size + 1 + 1, 4, none⟩ (.bool (p.prio != 0))).setCell ⟨w.heap.size + 1 + 1, 29, none⟩ (.int .i64 p.prio)).drew = v11 at hk11 hb11 hf11 ⊢
      have H11 := Lib.hid (And.intro hk11 (And.intro hb11 hf11)); clear hk11 hb11 hf11 cs3 o3 o28 g3 g28 HKC
      have hbpS := (HL.out.2.1.kept H11.out.1 (by simp; try omega))
      have t0 : v11.cell? ⟨w.heap.size, 9, none⟩ = some (.int .u64 0) := hbpS.cell 9
      have t1 : v11.cell? ⟨w.heap.size, 10, none⟩ = some (.int .i64 p.moment) := hbpS.cell 10
      have t2 : v11.cell? ⟨w.heap.size, 11, none⟩ = some (.pointer none) := hbpS.cell 11
      have HIZ := Lib.hid (iszero_any p.moment (!p.has 9) (HP.moment_zero H.out.1) v11)
      clear hbpS
      go_upto_if 73 with (go_at_call 69; (with_reducible refine HIZ.out.mono ?_); rintro e w12 ⟨rfl, hk⟩; have H12 := Lib.hid hk; clear hk)
      have h12w : Kept [w.heap.size + 1 + 1] wr w12 := H11.out.1.trans H12.out (by simp)
      have hbp12 := HL.out.2.1.kept h12w (by simp; try omega)
      have hb12 := H11.out.2.1.kept H12.out (by simp)
      have hr12 := HL.out.2.2.1.kept h12w (by simp; try omega)
      have hf12 := H11.out.2.2.kept H12.out (by simp)
      have H13 := Lib.hid (And.intro h12w (And.intro hbp12 (And.intro hb12 (And.intro hr12 hf12))))
      clear h12w hbp12 hb12 hr12 hf12 t0 t1 t2
      cases hh : p.has 9
      · have HH := Lib.hid hh; clear hh
        go_wp2_with (first
          | (refine wpList_load_row (P := Tryz.prog) rfl 33 (.tmp 4) rfl (w.heap.size + 1 + 1) rfl 33 _ H13.out.2.2.1 _ Tryz.underlying33 rfl size_iPr ?_)
          | (refine wpList_store_row (P := Tryz.prog) rfl rfl 33 (.tmp 2) (.tmp 80) rfl (w.heap.size + 1) rfl 33 _ (hpC p.norm (.slice oa n oc)) H13.out.2.2.2.1 (prR4_no H.out.1 HH.out n (.slice oa n oc) (by rw [HNN.out])) rfl (hpC_one _ _ rfl) size_iPr ?_; intro w14 hb14 hk14; have H14 := Lib.hid (And.intro hb14 hk14); clear hb14 hk14))
        refine bodyPost_ret (v := .tuple #[.agg (hpC p.norm (.slice oa n oc)).toArray, .bool true]) (results_prd rfl rfl H14.out.1 rfl) rfl ⟨_, rfl, ?_, ?_⟩
        · have h6 := H6.out.2.2
          have hl := H13.out.2.2.2.2.kept H14.out.2 (fun b hb => by simp; omega)
          exact hl.mono (fun b hb _ => by have hb : v6.heap.size ≤ b := hb; omega)
        · exact (HL.out.2.2.2.trans H13.out.1 (fun x hx => .inr (by simp at hx; omega))).trans H14.out.2 (fun x hx => .inr (by simp at hx; omega))
      · have HH := Lib.hid hh; clear hh
        have t0 : w12.cell? ⟨w.heap.size, 9, none⟩ = some (.int .u64 0) := H13.out.2.1.cell 9
        have t1 : w12.cell? ⟨w.heap.size, 10, none⟩ = some (.int .i64 p.moment) := H13.out.2.1.cell 10
        have t2 : w12.cell? ⟨w.heap.size, 11, none⟩ = some (.pointer none) := H13.out.2.1.cell 11
        have hmo : p.moment = p.time + 62135596800 := by unfold HP.moment; rw [HH.out]; rfl
        have hfit := proper_fit H.out.1
        have hun : Calls Tryz.prog 70 #[.agg #[.int .u64 0, .int .i64 p.moment, .pointer none]] w12 fun e w' => e = .returned (.int .i64 p.time) ∧ Kept [] w12 w' := by rw [hmo]; exact tunix_any p.time (by omega) (by omega) w12
        have HU := Lib.hid hun
        clear hmo hfit hun
        go_upto_region 14 with (go_at_call 70; (with_reducible refine HU.out.mono ?_); rintro e w15 ⟨rfl, hk⟩; have hb15 := H13.out.2.2.1.kept hk (by simp); have o9 : ∃ u, w15.cell? ⟨w.heap.size + 1 + 1, 9, none⟩ = some u := ⟨_, hb15.cell 9⟩; have o30 : ∃ u, w15.cell? ⟨w.heap.size + 1 + 1, 30, none⟩ = some u := ⟨_, hb15.cell 30⟩; obtain ⟨u9, o9⟩ := o9; obtain ⟨u30, o30⟩ := o30; have g9 := hb15.free 9; have g30 := hb15.free 30; have H15 := Lib.hid (And.intro hk hb15); clear hk hb15)
        have hX : Kept [w.heap.size + 1 + 1] w12 ((w15.setCell ⟨w.heap.size + 1 + 1, 9, none⟩ (.bool true)).setCell ⟨w.heap.size + 1 + 1, 30, none⟩ (.int .i64 p.time)) := ((H15.out.1.mono (by simp)).setCell (by simp) _).setCell (by simp) _
        have hb16 : Blk ((w15.setCell ⟨w.heap.size + 1 + 1, 9, none⟩ (.bool true)).setCell ⟨w.heap.size + 1 + 1, 30, none⟩ (.int .i64 p.time)) (w.heap.size + 1 + 1) (hpC p.norm (.slice oa n oc)).toArray 33 := by
          rw [← prR4_eq H.out.1 n (.slice oa n oc) (by rw [HNN.out]) true p.time HH.out.symm rfl]
          exact (H15.out.2.setCell 9 _).setCell 30 _
        generalize (w15.setCell ⟨w.heap.size + 1 + 1, 9, none⟩ (.bool true)).setCell ⟨w.heap.size + 1 + 1, 30, none⟩ (.int .i64 p.time) = w16 at hX hb16 ⊢
        have h6 := H6.out.2.2
        have hf16 := H13.out.2.2.2.2.kept hX (fun b hb => by simp; omega)
        have hr16 := H13.out.2.2.2.1.kept hX (by simp; try omega)
        have H16 := Lib.hid (And.intro hX (And.intro hb16 (And.intro hr16 hf16)))
        clear hX hb16 hr16 hf16 h6 o9 o30 g9 g30 t0 t1 t2
        go_wp2_with (first
          | (refine wpList_load_row (P := Tryz.prog) rfl 33 (.tmp 4) rfl (w.heap.size + 1 + 1) rfl 33 _ H16.out.2.1 _ Tryz.underlying33 rfl size_iPr ?_)
          | (refine wpList_store_row (P := Tryz.prog) rfl rfl 33 (.tmp 2) (.tmp 80) rfl (w.heap.size + 1) rfl 33 _ (hpC p.norm (.slice oa n oc)) H16.out.2.2.1 rfl rfl (hpC_one _ _ rfl) size_iPr ?_; intro w14 hb14 hk14; have H14 := Lib.hid (And.intro hb14 hk14); clear hb14 hk14))
        refine bodyPost_ret (v := .tuple #[.agg (hpC p.norm (.slice oa n oc)).toArray, .bool true]) (results_prd rfl rfl H14.out.1 rfl) rfl ⟨_, rfl, ?_, ?_⟩
        · have h6 := H6.out.2.2
          have hl := H16.out.2.2.2.kept H14.out.2 (fun b hb => by simp; omega)
          exact hl.mono (fun b hb _ => by have hb : v6.heap.size ≤ b := hb; omega)
        · exact ((HL.out.2.2.2.trans H13.out.1 (fun x hx => .inr (by simp at hx; omega))).trans H16.out.1 (fun x hx => .inr (by simp at hx; omega))).trans H14.out.2 (fun x hx => .inr (by simp at hx; omega))
    · intro i0 k u w2' hni hei hit2 hk2 hs2 hen
      obtain ⟨j, hj, hje⟩ := H1.out.2.1 (k, u) (List.mem_of_getElem? hei)
      have hei' : es[i0]? = some (textEnt w.heap.size 0 j) := by rw [hei, hje]
      unfold textEnt at hje
      obtain ⟨rfl, rfl⟩ : k = .int .i64 (keyOf j : Int) ∧ u = .pointer (some ⟨w.heap.size, 0 + offOf j, none⟩) := by
        simp only [Prod.mk.injEq] at hje
        exact hje
      have hk14 := keyOf_lt j hj
      have hs1 := H1.out.2.2.2.2.size
      have hsa := HA.out.2.2.2.2.1
      have hne1 : w.heap.size + 1 + 1 ≠ w1.heap.size := by omega
      have hbo := HR.out.2.2.2.2.2.1.kept hk2 (by simpa using hne1)
      have hbp := ((HA.out.2.1.kept H1.out.2.2.2.2 (by simp)).kept HR.out.2.2.2.2.2.2.2 (by simp; try omega)).kept hk2 (by simp; try omega)
      have cs0 : w2'.cell? ⟨w.heap.size, offOf j, none⟩ = some (.string (bstr (p.heldT (keyOf j)))) := by rw [hbp.cell]; exact prOf_cell p hd j hj
      have ch := hp_has hbo (keyOf j) hk14
      have ct := hp_txt hbo (keyOf j) hk14
      have fh := hbo.free (keyOf j)
      have ft := hbo.free (14 + keyOf j)
      have hmb2 : MapAt w2' mb es := HR.out.2.2.2.2.2.2.1.kept hk2 (by simp; intro e; have h1 := H1.out.1.lt; omega)
      have HE := Lib.hid (And.intro hni (And.intro hei' (And.intro hj (And.intro hit2 (And.intro hk2 (And.intro hbo (And.intro hmb2 hne1)))))))
      have hk14i : (keyOf j : Int) < 14 := by omega
      have hneg : ¬ (keyOf j : Int) < 0 := by omega
      have hst := HR.out.2.2.2.1.step_any hj hei'
      have hput := fun t => qT_put T j hj t (.slice none 0 0)
      have hT4 : ∀ t, putT T (keyOf j) t 2 = [] ∧ putT T (keyOf j) t 3 = [] ∧ putT T (keyOf j) t 4 = [] ∧ putT T (keyOf j) t 9 = [] := fun t => by
        have hn := keyOf_not j hj
        have hr := HR.out.2.2.2.2.1
        unfold putT
        rw [if_neg (Ne.symm hn.1), if_neg (Ne.symm hn.2.1), if_neg (Ne.symm hn.2.2.1), if_neg (Ne.symm hn.2.2.2.1)]
        exact hr
      have HS := Lib.hid (And.intro hst (And.intro hput hT4))
      clear hst hput hT4 hei hei' hje hj hni hit2 hk2 hbo hbp hs2 hmb2 hs1 hsa hne1
      rw [Nat.zero_add] at hen
      generalize keyOf j = kk at *
      generalize offOf j = oo at *
      generalize p.heldT kk = tt at *
      have hkc : ∀ W, Kept [w.heap.size + 1 + 1] w2' W → W.cell? ⟨w.heap.size, oo, none⟩ = some (.string (bstr tt)) := fun W hk => hk.cell cs0 (by simp; try omega)
      have HKC := Lib.hid hkc; clear hkc
      go_upto_region 5 with fail
      go_region_held3 (fun w' : World => w'.cell? ⟨w.heap.size, oo, none⟩ = some (.string (bstr tt))) (first
        | exact HKC.out _ ((Kept.refl _ w2').drew)
        | exact HKC.out _ (((Kept.refl _ w2').drew).setCell (by simp) _)
        | exact HKC.out _ ((((Kept.refl _ w2').drew).setCell (by simp) _).setCell (by simp) _)) (first | fail)
      all_goals
        go_wp2
        have hin := lt_snoc HR.out.2.1 (List.getElem?_eq_some_iff.1 HE.out.2.1).1
        have hnd := nodup_snoc HR.out.1 HE.out.1
        have hks : Kept [w.heap.size + 1 + 1] w2' ((w2'.setCell ⟨w.heap.size + 1 + 1, kk, none⟩ (.bool !tt.isEmpty)).setCell ⟨w.heap.size + 1 + 1, 14 + kk, none⟩ (.string (bstr tt))).drew := ((((Kept.refl [w.heap.size + 1 + 1] w2').setCell (by simp) _).setCell (by simp) _)).drew
        have hit3 := HE.out.2.2.2.1.kept hks (by have := HE.out.2.2.2.2.2.2.2; simpa using Ne.symm this)
        have hb3 := ((HE.out.2.2.2.2.2.1.setCell kk (.bool !tt.isEmpty)).setCell (14 + kk) (.string (bstr tt))).drew
        rw [HS.out.2.1] at hb3
        have hs1 := H1.out.2.2.2.2.size
        have hsa := HA.out.2.2.2.2.1
        exact ⟨⟨is ++ [i0], _, Lib.hid ⟨hnd, hin, hit3, HS.out.1, HS.out.2.2 tt, hb3, HE.out.2.2.2.2.2.2.1.kept hks (by have h1 := H1.out.2.2.2.1; simp; omega), (HR.out.2.2.2.2.2.2.2.trans HE.out.2.2.2.2.1 (fun x hx => .inr (by simp at hx; omega))).trans hks (fun x hx => .inl hx)⟩⟩, round_meas HR.out.2.2.1 hit3 hnd hin⟩
end Go.Proofs.YtkcdakohmfodjaaGreat
