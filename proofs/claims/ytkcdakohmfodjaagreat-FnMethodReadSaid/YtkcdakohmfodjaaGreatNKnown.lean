/-
  Lemmas on the way to the statement of YtkcdakohmfodjaaGreatMethodRead, joined out of these texts: Known, Rdec, Pv, Letters. No condition.
-/
import Derived.Test.YtkcdakohmfodjaaGreatMAE
import Derived.Test.YtkcdakohmfodjaaGreatMAF
import Derived.Test.YtkcdakohmfodjaaGreatMAH
import Derived.Test.YtkcdakohmfodjaaGreatMAL
import Derived.Test.YtkcdakohmfodjaaGreatNRfix
namespace Go.Proofs.YtkcdakohmfodjaaGreat
open Go.RowKit
set_option linter.unusedVariables false
set_option linter.unusedSimpArgs false
/-- A row of the list of methods. -/
def knCells (e : Nat × Nat × List UInt8) : List Value := [.int .i64 (e.1 : Int), .int .i64 (e.2.1 : Int), .string (bstr e.2.2)]
section
variable {P : Program} {ops : Array Oper} {os : List Oper} {a : Act} {w : World} {Q : Exit → Act → World → Prop}
/-- Operations without a guard, one after the other. -/
def evalL (P : Program) : List Oper → Act → World → Option (Act × World)
  | [], a, w => some (a, w)
  | o :: os, a, w => match o.guard with
    | some _ => none
    | none => match (execOp a.eval o).run P w with
      | .ok (.value v) w' => evalL P os (a.put o.dst v) w'
      | _ => none
theorem wpList_evalL0 : ∀ (os : List Oper) (a a' : Act) (w w' : World), evalL P os a w = some (a', w') → wpList P ops Q [] a' w' → wpList P ops Q os a w
  | [], a, a', w, w', h, hq => by simp only [evalL, Option.some.injEq, Prod.mk.injEq] at h; rw [h.1, h.2]; exact hq
  | o :: os, a, a', w, w', h, hq => by
    unfold evalL at h
    split at h
    · cases h
    · rename_i hg
      split at h
      · rename_i v w1 hr
        refine wpList_plain hg fun K hK => ?_
        unfold Oper.wp
        rw [hr]
        exact hK _ _ (wpList_evalL0 os _ a' _ w' h hq)
      · cases h
theorem wpList_evalL (w' : World) (v : Value) (he : (evalL P os a w).map (fun x => (x.2, x.1.defers, x.1.tmps.getD 0 undef)) = some (w', [], v)) (h : ∀ a' : Act, a'.defers = [] → a'.tmps.getD 0 undef = v → wpList P ops Q [] a' w') : wpList P ops Q os a w := by
  cases hx : evalL P os a w with
  | none => rw [hx] at he; cases he
  | some p =>
    obtain ⟨a', w1⟩ := p
    rw [hx] at he
    simp only [Option.map_some, Option.some.injEq, Prod.mk.injEq] at he
    obtain ⟨rfl, h2, h3⟩ := he
    exact wpList_evalL0 _ _ _ _ _ hx (h a' h2 h3)
end
set_option maxHeartbeats 4000000 in
set_option maxRecDepth 100000 in
theorem known_any (w : World) : Calls Tryz.prog 49 #[] w fun e w' => e = .returned (.slice (some ⟨w.heap.size, 0, none⟩) 64 64) ∧ Blk w' w.heap.size (knownL.flatMap knCells).toArray 137 ∧ Kept [] w w' := by
  go_enter Tryz.func49, Tryz.ntmps49
  go_wp2_with (refine wpList_evalL (w.alloc (.cells (knownL.flatMap knCells).toArray 137)) (.slice (some ⟨w.heap.size, 0, none⟩) 64 64) (by kernel_rfl) ?_; intro a' hd h0)
  refine bodyPost_ret (v := .slice (some ⟨w.heap.size, 0, none⟩) 64 64) (by rw [results_tmp (t := 0) rfl, h0]) hd ⟨rfl, Blk.new w _ _, (Kept.refl [] w).alloc _⟩
/-- A time of so many seconds since 1970, as the package's struct. -/
def timeV (n : Int) : Value := .agg #[.int .u64 0, .int .i64 (n + 62135596800), .pointer none]
set_option maxHeartbeats 1000000 in
theorem unixTime_any (n : Int) (h0 : 0 ≤ n) (h1 : n ≤ 4611686018427387904) (w : World) :
    Calls Tryz.prog 55 #[.int .i64 n, .int .i32 0] w fun e w' => e = .returned (timeV n) ∧ Kept [] w w' := by
  have hw : IntKind.i64.wrap (n + 62135596800) = n + 62135596800 := by rw [IntKind.wrap_i64]; omega
  go_enter Tryz.func55, Tryz.ntmps55
  go_wp2
  refine bodyPost_ret (v := .agg #[.int .u64 0, .int .i64 (n + 62135596800), .pointer none]) (by simp [results, Tryz.results55, go_sem]) rfl ⟨rfl, (Kept.refl [] w).alloc _⟩
set_option maxHeartbeats 1000000 in
theorem unix_any (n : Int) (h0 : 0 ≤ n) (h1 : n ≤ 4611686018427387904) (w : World) :
    Calls Tryz.prog 41 #[.int .i64 n, .int .i64 0] w fun e w' => e = .returned (timeV n) ∧ Kept [] w w' := by
  have hc := fun W : World => unixTime_any n h0 h1 W
  have HC := Lib.hid hc; clear hc
  go_enter Tryz.func41, Tryz.ntmps41
  go_wp2_with (first
    | (go_at_call 55; refine (HC.out _).mono ?_; rintro e w1 ⟨rfl, k1⟩; have hb : Blk w1 w.heap.size #[.int .u64 0, .int .i64 0, .pointer none] 99 := (Blk.new w _ _).kept k1 (by simp); have HB := Lib.hid (And.intro hb (((Kept.refl [] w).alloc _).trans k1 (by simp))); clear hb k1)
    | (refine wpList_store_row (P := Tryz.prog) rfl rfl 99 (.tmp 4) (.tmp 30) rfl w.heap.size rfl 99 _ [.int .u64 0, .int .i64 (n + 62135596800), .pointer none] HB.out.1 rfl rfl (by simp [Value.oneCell']) (by kernel_rfl) ?_; intro w2 hb2 hk2; have HB2 := Lib.hid (And.intro hb2 hk2); clear hb2 hk2))
  refine bodyPost_ret (v := timeV n) (results_cell_row (P := Tryz.prog) Tryz.results41 _ _ w.heap.size 99 _ (0, 0) _ rfl HB2.out.1 Tryz.underlying99 rfl (by kernel_rfl)) rfl ⟨rfl, HB.out.2.trans HB2.out.2 (by simp)⟩
theorem results_time {tmps : Array Value} {g : Nat} {cs : Array Value} {x : Value} {w : World} (h1 : tmps.getD 2 undef = .pointer (some ⟨g, 0, none⟩)) (h2 : tmps.getD 3 undef = x) (hg : Blk w g cs 99) (hs : cs.size = 3) :
    (results Tryz.f146 tmps).run Tryz.prog w = .ok (.tuple #[.agg cs, x]) w := by
  have hl := run_loadVar_row (P := Tryz.prog) w g 99 99 cs (0, 0) _ hg Tryz.underlying99 rfl (by rw [hs]; kernel_rfl)
  simp only [Array.getD_eq_getD_getElem?] at h1 h2
  simp [results, Tryz.results146, h1, h2, asAddr, hl]
theorem results_dec {tmps : Array Value} {g : Nat} {cs : Array Value} {x : Value} {w : World} (h1 : tmps.getD 2 undef = .pointer (some ⟨g, 0, none⟩)) (h2 : tmps.getD 3 undef = x) (hg : Blk w g cs 191) (hs : cs.size = 2) :
    (results Tryz.f176 tmps).run Tryz.prog w = .ok (.tuple #[.agg cs, x]) w := by
  have hl := run_loadVar_row (P := Tryz.prog) w g 191 191 cs (0, 0) _ hg Tryz.underlying191 rfl (by rw [hs]; kernel_rfl)
  simp only [Array.getD_eq_getD_getElem?] at h1 h2
  simp [results, Tryz.results176, h1, h2, asAddr, hl]
theorem be_eight (n : Nat) (h : n < 18446744073709551616) : Lib.beNat (Lib.beBytes 8 n) = n := Lib.beNat_beBytes 8 n (by omega)
theorem be_two (n : Nat) (h : n < 65536) : Lib.beNat (Lib.beBytes 2 n) = n := Lib.beNat_beBytes 2 n (by omega)
set_option maxHeartbeats 1000000 in
set_option maxRecDepth 100000 in
theorem rtime (n : Nat) (hn : n ≤ 4611686018427387904) {w : World} {r : Value} {ps : List Nat} {d : Nat} {Ns : List Nat} (rest : List UInt8) (h : Rd w r ps d Ns (Lib.beBytes 8 n ++ rest)) (hl : rest.length ≤ 900000000) (hav : 8 ≤ avail Ns (Lib.beBytes 8 n ++ rest)) (hd : d < w.heap.size) :
    Calls Tryz.prog 146 #[r] w fun e w' => e = .returned (.tuple #[timeV n, .nilIface]) ∧ Rd w' r ps d (Ns.map (· - 8)) rest ∧ Kept ps w w' := by
  obtain ⟨wa, hwa⟩ : ∃ wa, wa = (w.alloc (.cells #[.int .u64 0, .int .i64 0, .pointer none] 99)).alloc (.cells #[.int .i64 0] 2) := ⟨_, rfl⟩
  have hka : Kept [] w wa := by rw [hwa]; exact ((Kept.refl [] w).alloc _).alloc _
  have hb0 : Blk wa w.heap.size #[.int .u64 0, .int .i64 0, .pointer none] 99 := by rw [hwa]; exact (Blk.new w _ _).alloc _
  have hb1 : Blk wa (w.heap.size + 1) #[.int .i64 0] 2 := by rw [hwa]; exact Blk.new_at (by simp)
  have hgp : ∀ b, w.heap.size ≤ b → b ∉ ps := fun b hb hm => by have := h.mem_lt _ hm; omega
  have hf := rfix_i64 (Lib.beBytes 8 n) rest (Lib.beBytes_length 8 n) (h.kept hka (by simp) (by simp)) (by omega) hav (Nat.lt_of_lt_of_le hd hka.size) (w.heap.size + 1) 0 _ hb1.cell0 (hb1.free 0) (hgp _ (by omega)) (by omega)
  have hwr : IntKind.i64.wrap ((Lib.beNat (Lib.beBytes 8 n) : Nat) : Int) = n := by rw [be_eight n (by omega), IntKind.wrap_i64]; omega
  rw [hwr] at hf
  have HF := Lib.hid hf; have H := Lib.hid (And.intro hka (And.intro hb0 (And.intro hb1 (And.intro hgp (And.intro hwa hd)))))
  have hu := fun W : World => unix_any (n : Int) (by omega) (by omega) W
  have HU := Lib.hid hu
  clear hf hka hb0 hb1 hgp hwa hd hl hav h hwr hu
  go_enter Tryz.func146, Tryz.ntmps146
  go_upto_region 2 with fail
  rw [← H.out.2.2.2.2.1]
  go_upto_region 3 with (go_at_call 77; refine HF.out.mono ?_; rintro e w2 ⟨rfl, w1, k1, r1, rfl⟩)
  obtain ⟨ka, b0, b1, gp, _, hd⟩ := H.out
  have hks : Kept [w.heap.size + 1] w1 (w1.setCell ⟨w.heap.size + 1, 0, none⟩ (.int .i64 (n : Int))) := (Kept.refl _ w1).setCell (by simp) _
  have hr2 := r1.kept hks (fun p hp e => gp (w.heap.size + 1) (by omega) (by simp at e; rw [← e]; exact hp)) (by simp; omega)
  have hb2 : Blk (w1.setCell ⟨w.heap.size + 1, 0, none⟩ (.int .i64 (n : Int))) (w.heap.size + 1) #[.int .i64 (n : Int)] 2 := (b1.kept k1 (gp (w.heap.size + 1) (by omega))).setCell 0 _
  have hb3 : Blk (w1.setCell ⟨w.heap.size + 1, 0, none⟩ (.int .i64 (n : Int))) w.heap.size #[.int .u64 0, .int .i64 0, .pointer none] 99 := (b0.kept k1 (gp _ (Nat.le_refl _))).kept hks (by simp)
  have hk2 : Kept ps w (w1.setCell ⟨w.heap.size + 1, 0, none⟩ (.int .i64 (n : Int))) := ((ka.mono (by simp)).trans k1 (fun x hx => .inl hx)).trans hks (by simp)
  generalize w1.setCell ⟨w.heap.size + 1, 0, none⟩ (.int .i64 (n : Int)) = w3 at hr2 hb2 hb3 hk2 ⊢
  have c0 := hb2.cell0
  have HK := Lib.hid (And.intro hk2 (And.intro hr2 (And.intro hb3 (And.intro gp hd))))
  clear hk2 hr2 hb2 hb3 hks r1 k1 ka b0 b1 gp hd
  go_wp2_with (first
    | (go_at_call 41; refine (HU.out _).mono ?_; rintro e w4 ⟨rfl, k4⟩; have HB := Lib.hid (And.intro (HK.out.2.2.1.kept k4 (by simp)) k4); clear k4)
    | (refine wpList_store_row (P := Tryz.prog) rfl rfl 99 (.tmp 2) (.tmp 11) rfl w.heap.size rfl 99 _ [.int .u64 0, .int .i64 ((n : Int) + 62135596800), .pointer none] HB.out.1 rfl rfl (by simp [Value.oneCell']) (by kernel_rfl) ?_; intro w5 hb5 hk5; have HB5 := Lib.hid (And.intro hb5 hk5); clear hb5 hk5))
  have hk35 : Kept [w.heap.size] w3 w5 := (HB.out.2.mono (by simp)).trans HB5.out.2 (fun x hx => .inl hx)
  refine bodyPost_ret (v := .tuple #[timeV n, .nilIface]) (results_time rfl rfl HB5.out.1 rfl) rfl ⟨rfl, ?_, ?_⟩
  · exact HK.out.2.1.kept hk35 (fun p hp e => HK.out.2.2.2.1 _ (Nat.le_refl _) (by simp at e; rw [← e]; exact hp)) (by have := HK.out.2.2.2.2; simp; omega)
  · exact HK.out.1.trans hk35 (by simp)
set_option maxHeartbeats 1000000 in
set_option maxRecDepth 100000 in
theorem rdec (sc m : Nat) (hsc : sc < 256) (hm : m < 4294967296) {w : World} {r : Value} {ps : List Nat} {d : Nat} {Ns : List Nat} (rest : List UInt8) (h : Rd w r ps d Ns (Lib.beBytes 1 sc ++ (Lib.beBytes 4 m ++ rest))) (hl : rest.length ≤ 900000000) (hav : 5 ≤ avail Ns (Lib.beBytes 1 sc ++ (Lib.beBytes 4 m ++ rest))) (hd : d < w.heap.size) :
    Calls Tryz.prog 176 #[r] w fun e w' => e = .returned (.tuple #[.agg #[.int .u8 (sc : Int), .int .i32 (wrap32 (m : Int))], .nilIface]) ∧ Rd w' r ps d (Ns.map (· - 5)) rest ∧ Kept ps w w' := by
  have hka : Kept [] w (w.alloc (.cells #[.int .u8 0, .int .i32 0] 191)) := (Kept.refl [] w).alloc _
  have hb0 : Blk (w.alloc (.cells #[.int .u8 0, .int .i32 0] 191)) w.heap.size #[.int .u8 0, .int .i32 0] 191 := Blk.new w _ _
  have hgp : w.heap.size ∉ ps := fun hm => by have := h.mem_lt _ hm; omega
  have hgd : w.heap.size ≠ d := by omega
  have hbl := Lib.beBytes_length 1 sc
  have hbl4 := Lib.beBytes_length 4 m
  have hf := rfix_u8 (Lib.beBytes 1 sc) (Lib.beBytes 4 m ++ rest) hbl (h.kept hka (by simp) (by simp)) (by simp; omega) (by omega) (Nat.lt_of_lt_of_le hd hka.size) w.heap.size 0 _ (hb0.cell 0) (hb0.free 0) hgp hgd
  rw [be_one sc hsc] at hf
  have hav1 : 4 ≤ avail (Ns.map (· - 1)) (Lib.beBytes 4 m ++ rest) := by
    have := avail_map Ns (Lib.beBytes 1 sc) (Lib.beBytes 4 m ++ rest)
    rw [hbl] at this
    omega
  have HF := Lib.hid hf; have H := Lib.hid (And.intro hka (And.intro hb0 (And.intro hgp (And.intro hgd (And.intro hav1 (And.intro hl hd))))))
  clear hf hka hb0 hgp hgd hav1 hl hav h hbl hbl4 hd
  go_enter Tryz.func176, Tryz.ntmps176
  go_upto_region 2 with (go_at_call 77; refine HF.out.mono ?_; rintro e w2 ⟨rfl, w1, k1, r1, rfl⟩)
  obtain ⟨ka, b0, gp, gd, av, hl, hd⟩ := H.out
  have hks : Kept [w.heap.size] w1 (w1.setCell ⟨w.heap.size, 0, none⟩ (.int .u8 (sc : Int))) := (Kept.refl _ w1).setCell (by simp) _
  have hr2 := r1.kept hks (fun p hp e => gp (by simp at e; rw [← e]; exact hp)) (by simpa using Ne.symm gd)
  have hb2 : Blk (w1.setCell ⟨w.heap.size, 0, none⟩ (.int .u8 (sc : Int))) w.heap.size #[.int .u8 (sc : Int), .int .i32 0] 191 := (b0.kept k1 gp).setCell 0 _
  have hk2 : Kept ps w (w1.setCell ⟨w.heap.size, 0, none⟩ (.int .u8 (sc : Int))) := ((ka.mono (by simp)).trans k1 (fun x hx => .inl hx)).trans hks (by simp)
  generalize w1.setCell ⟨w.heap.size, 0, none⟩ (.int .u8 (sc : Int)) = w3 at hr2 hb2 hk2 ⊢
  have hg := rfix_i32 (Lib.beBytes 4 m) rest (Lib.beBytes_length 4 m) hr2 (by omega) av (Nat.lt_of_lt_of_le hd hk2.size) w.heap.size 1 _ (hb2.cell 1) (hb2.free 1) gp gd
  rw [be_four m hm, i32_same] at hg
  have HR := Lib.hid hg; have HK := Lib.hid (And.intro hk2 (And.intro hb2 (And.intro gp gd)))
  clear hg hk2 hr2 hb2 hks r1 k1 ka b0 gp gd av hl hd
  go_wp2_with (go_at_call 77; refine HR.out.mono ?_; rintro e w2 ⟨rfl, w4, k4, r4, rfl⟩; have H4 := Lib.hid (And.intro k4 r4); clear k4 r4)
  have hks : Kept [w.heap.size] w4 (w4.setCell ⟨w.heap.size, 1, none⟩ (.int .i32 (wrap32 (m : Int)))) := (Kept.refl _ w4).setCell (by simp) _
  have hb5 : Blk (w4.setCell ⟨w.heap.size, 1, none⟩ (.int .i32 (wrap32 (m : Int)))) w.heap.size #[.int .u8 (sc : Int), .int .i32 (wrap32 (m : Int))] 191 := (HK.out.2.1.kept H4.out.1 HK.out.2.2.1).setCell 1 _
  refine bodyPost_ret (v := .tuple #[.agg #[.int .u8 (sc : Int), .int .i32 (wrap32 (m : Int))], .nilIface]) (results_dec rfl rfl hb5 rfl) rfl ⟨rfl, ?_, ?_⟩
  · have := H4.out.2.kept hks (fun p hp e => HK.out.2.2.1 (by simp at e; rw [← e]; exact hp)) (by simpa using Ne.symm HK.out.2.2.2)
    rwa [map_sub_sub] at this
  · exact (HK.out.1.trans H4.out.1 (fun x hx => .inl hx)).trans hks (by simp)
/-- What a letter without kids is read as; a text of bytes has its own row, in B. -/
def leafV (B : Nat → Prop) (w : World) (k : UInt8) (n : Int) (f : Nat) (scale : Int) (text : List UInt8) (x : Value) : Prop :=
  if k = 116 then x = .iface 4 (.bool (decide (n ≠ 0)))
  else if k = 66 then x = .iface 5 (.int .u8 n)
  else if k = 98 then x = .iface 188 (.int .i8 n)
  else if k = 115 then x = .iface 189 (.int .i16 n)
  else if k = 73 then x = .iface 21 (.int .i32 n)
  else if k = 108 then x = .iface 2 (.int .i64 n)
  else if k = 102 then x = .iface 178 (.float .f32 (Flt.toS f))
  else if k = 100 then x = .iface 138 (.float .f64 f)
  else if k = 68 then x = .iface 191 (.agg #[.int .u8 scale, .int .i32 n])
  else if k = 83 then x = .iface 9 (.string ⟨text.toArray⟩)
  else if k = 84 then x = .iface 99 (timeV n)
  else if k = 120 then ∃ g, x = .iface 22 (.slice (some ⟨g, 0, none⟩) text.length text.length) ∧ B g ∧ Blk w g (u8s text).toArray 5
  else x = .nilIface
mutual
/-- x is the value v as the package has it; its blocks are in B. -/
def PV (B : Nat → Prop) (w : World) (x : Value) : Val → Prop
  | .mk k n f scale text kids flds =>
    if k = 65 then ∃ ao c, x = .iface 192 (.slice ao kids.length c) ∧ kids.length ≤ c ∧ (kids ≠ [] → ∃ g, ao = some ⟨g, 0, none⟩ ∧ B g ∧ g < w.heap.size ∧ PL B w g 0 kids)
    else if k = 70 then ∃ b es, x = .iface 96 (.map (some b)) ∧ B b ∧ MapAt w b es ∧ PF B w es flds
    else leafV B w k n f scale text x
/-- The cells of block g from o on are these values. -/
def PL (B : Nat → Prop) (w : World) (g o : Nat) : List Val → Prop
  | [] => True
  | v :: l => (∃ x, w.cell? ⟨g, o, none⟩ = some x ∧ PV B w x v) ∧ PL B w g (o + 1) l
/-- The entries are these fields. -/
def PF (B : Nat → Prop) (w : World) (es : List (Value × Value)) : List Fld → Prop
  | [] => es = []
  | .mk name v :: l => ∃ x fs, es = (.string ⟨name.toArray⟩, x) :: fs ∧ PV B w x v ∧ PF B w fs l
end
theorem leafV.kept {B : Nat → Prop} {S : List Nat} {w w' : World} (hk : Kept S w w') (hS : ∀ b, B b → b ∉ S) {k : UInt8} {n : Int} {f : Nat} {scale : Int} {text : List UInt8} {x : Value} (h : leafV B w k n f scale text x) : leafV B w' k n f scale text x := by
  unfold leafV at h ⊢
  by_cases h1 : k = 120
  · subst h1
    simp (config := { decide := true }) only [if_false, if_true] at h ⊢
    obtain ⟨g, h1, h2, h3⟩ := h
    exact ⟨g, h1, h2, h3.kept hk (hS g h2)⟩
  · rw [if_neg h1] at h ⊢
    exact h
theorem leafV.mono {B B' : Nat → Prop} {w : World} (hM : ∀ b, B b → b < w.heap.size → B' b) {k : UInt8} {n : Int} {f : Nat} {scale : Int} {text : List UInt8} {x : Value} (h : leafV B w k n f scale text x) : leafV B' w k n f scale text x := by
  unfold leafV at h ⊢
  by_cases h1 : k = 120
  · subst h1
    simp (config := { decide := true }) only [if_false, if_true] at h ⊢
    obtain ⟨g, h1, h2, h3⟩ := h
    exact ⟨g, h1, hM g h2 h3.lt, h3⟩
  · rw [if_neg h1] at h ⊢
    exact h
mutual
theorem PV.kept {B : Nat → Prop} {S : List Nat} {w w' : World} (hk : Kept S w w') (hS : ∀ b, B b → b ∉ S) (v : Val) {x : Value} (h : PV B w x v) : PV B w' x v := by
  cases v with
  | mk k n f scale text kids flds =>
    unfold PV at h ⊢
    by_cases h1 : k = 65
    · rw [if_pos h1] at h ⊢
      obtain ⟨ao, c, e1, e2, e3⟩ := h
      refine ⟨ao, c, e1, e2, fun hn => ?_⟩
      obtain ⟨g, g1, g2, g3, g4⟩ := e3 hn
      exact ⟨g, g1, g2, Nat.lt_of_lt_of_le g3 hk.size, PL.kept hk hS kids g2 g4⟩
    · rw [if_neg h1] at h ⊢
      by_cases h2 : k = 70
      · rw [if_pos h2] at h ⊢
        obtain ⟨b, es, e1, e2, e3, e4⟩ := h
        exact ⟨b, es, e1, e2, e3.kept hk (hS b e2), PF.kept hk hS flds e4⟩
      · rw [if_neg h2] at h ⊢
        exact h.kept hk hS
theorem PL.kept {B : Nat → Prop} {S : List Nat} {w w' : World} (hk : Kept S w w') (hS : ∀ b, B b → b ∉ S) (l : List Val) {g o : Nat} (hg : B g) (h : PL B w g o l) : PL B w' g o l := by
  cases l with
  | nil => trivial
  | cons v l =>
    unfold PL at h ⊢
    obtain ⟨⟨x, h1, h2⟩, h3⟩ := h
    exact ⟨⟨x, hk.cell h1 (hS g hg), PV.kept hk hS v h2⟩, PL.kept hk hS l hg h3⟩
theorem PF.kept {B : Nat → Prop} {S : List Nat} {w w' : World} (hk : Kept S w w') (hS : ∀ b, B b → b ∉ S) (l : List Fld) {es : List (Value × Value)} (h : PF B w es l) : PF B w' es l := by
  cases l with
  | nil => exact h
  | cons e l =>
    cases e with
    | mk name v =>
      unfold PF at h ⊢
      obtain ⟨x, fs, h1, h2, h3⟩ := h
      exact ⟨x, fs, h1, PV.kept hk hS v h2, PF.kept hk hS l h3⟩
end
mutual
theorem PV.mono {B B' : Nat → Prop} {w : World} (hM : ∀ b, B b → b < w.heap.size → B' b) (v : Val) {x : Value} (h : PV B w x v) : PV B' w x v := by
  cases v with
  | mk k n f scale text kids flds =>
    unfold PV at h ⊢
    by_cases h1 : k = 65
    · rw [if_pos h1] at h ⊢
      obtain ⟨ao, c, e1, e2, e3⟩ := h
      refine ⟨ao, c, e1, e2, fun hn => ?_⟩
      obtain ⟨g, g1, g2, g3, g4⟩ := e3 hn
      exact ⟨g, g1, hM g g2 g3, g3, PL.mono hM kids g4⟩
    · rw [if_neg h1] at h ⊢
      by_cases h2 : k = 70
      · rw [if_pos h2] at h ⊢
        obtain ⟨b, es, e1, e2, e3, e4⟩ := h
        exact ⟨b, es, e1, hM b e2 e3.lt, e3, PF.mono hM flds e4⟩
      · rw [if_neg h2] at h ⊢
        exact h.mono hM
theorem PL.mono {B B' : Nat → Prop} {w : World} (hM : ∀ b, B b → b < w.heap.size → B' b) (l : List Val) {g o : Nat} (h : PL B w g o l) : PL B' w g o l := by
  cases l with
  | nil => trivial
  | cons v l =>
    unfold PL at h ⊢
    obtain ⟨⟨x, h1, h2⟩, h3⟩ := h
    exact ⟨⟨x, h1, PV.mono hM v h2⟩, PL.mono hM l h3⟩
theorem PF.mono {B B' : Nat → Prop} {w : World} (hM : ∀ b, B b → b < w.heap.size → B' b) (l : List Fld) {es : List (Value × Value)} (h : PF B w es l) : PF B' w es l := by
  cases l with
  | nil => exact h
  | cons e l =>
    cases e with
    | mk name v =>
      unfold PF at h ⊢
      obtain ⟨x, fs, h1, h2, h3⟩ := h
      exact ⟨x, fs, h1, PV.mono hM v h2, PF.mono hM l h3⟩
end
theorem PF.snoc {B : Nat → Prop} {w : World} (name : List UInt8) (v : Val) (x : Value) (hx : PV B w x v) : ∀ (l : List Fld) (es : List (Value × Value)), PF B w es l → PF B w (es ++ [(.string ⟨name.toArray⟩, x)]) (l ++ [.mk name v])
  | [], es, h => by
    unfold PF at h; subst h
    show PF B w [(.string ⟨name.toArray⟩, x)] [.mk name v]
    unfold PF
    exact ⟨x, [], rfl, hx, by unfold PF; rfl⟩
  | .mk nm u :: l, es, h => by
    unfold PF at h
    obtain ⟨y, fs, h1, h2, h3⟩ := h
    subst h1
    show PF B w ((.string ⟨nm.toArray⟩, y) :: (fs ++ [(.string ⟨name.toArray⟩, x)])) (.mk nm u :: (l ++ [.mk name v]))
    unfold PF
    exact ⟨y, _, rfl, h2, PF.snoc name v x hx l fs h3⟩
/-- The entries of a read table have its names as keys. -/
theorem PF.keys {B : Nat → Prop} {w : World} : ∀ (l : List Fld) (es : List (Value × Value)), PF B w es l → es.map Prod.fst = l.map fun e => .string ⟨e.name.toArray⟩
  | [], es, h => by unfold PF at h; subst h; rfl
  | .mk nm u :: l, es, h => by
    unfold PF at h
    obtain ⟨y, fs, h1, h2, h3⟩ := h
    subst h1
    simp [PF.keys l fs h3, Fld.name]
theorem PV.one {B : Nat → Prop} {w : World} {x : Value} {v : Val} (h : PV B w x v) : x.oneCell' = true := by
  cases v with
  | mk k n f scale text kids flds =>
    unfold PV at h
    by_cases h1 : k = 65
    · rw [if_pos h1] at h
      obtain ⟨ao, c, e1, _⟩ := h
      rw [e1]; rfl
    · rw [if_neg h1] at h
      by_cases h2 : k = 70
      · rw [if_pos h2] at h
        obtain ⟨b, es, e1, _⟩ := h
        rw [e1]; rfl
      · rw [if_neg h2] at h
        unfold leafV at h
        by_cases c116 : k = 116
        · rw [if_pos c116] at h; subst h; rfl
        rw [if_neg c116] at h
        by_cases c66 : k = 66
        · rw [if_pos c66] at h; subst h; rfl
        rw [if_neg c66] at h
        by_cases c98 : k = 98
        · rw [if_pos c98] at h; subst h; rfl
        rw [if_neg c98] at h
        by_cases c115 : k = 115
        · rw [if_pos c115] at h; subst h; rfl
        rw [if_neg c115] at h
        by_cases c73 : k = 73
        · rw [if_pos c73] at h; subst h; rfl
        rw [if_neg c73] at h
        by_cases c108 : k = 108
        · rw [if_pos c108] at h; subst h; rfl
        rw [if_neg c108] at h
        by_cases c102 : k = 102
        · rw [if_pos c102] at h; subst h; rfl
        rw [if_neg c102] at h
        by_cases c100 : k = 100
        · rw [if_pos c100] at h; subst h; rfl
        rw [if_neg c100] at h
        by_cases c68 : k = 68
        · rw [if_pos c68] at h; subst h; rfl
        rw [if_neg c68] at h
        by_cases c83 : k = 83
        · rw [if_pos c83] at h; subst h; rfl
        rw [if_neg c83] at h
        by_cases c84 : k = 84
        · rw [if_pos c84] at h; subst h; rfl
        rw [if_neg c84] at h
        by_cases c120 : k = 120
        · rw [if_pos c120] at h; obtain ⟨g, e1, _⟩ := h; rw [e1]; rfl
        rw [if_neg c120] at h; subst h; rfl
theorem PV.face {B : Nat → Prop} {w : World} {x : Value} {v : Val} (h : PV B w x v) : x = .nilIface ∨ ∃ t y, x = .iface t y := by
  cases v with
  | mk k n f scale text kids flds =>
    unfold PV at h
    by_cases h1 : k = 65
    · rw [if_pos h1] at h
      obtain ⟨ao, c, e1, _⟩ := h
      exact .inr ⟨_, _, e1⟩
    · rw [if_neg h1] at h
      by_cases h2 : k = 70
      · rw [if_pos h2] at h
        obtain ⟨b, es, e1, _⟩ := h
        exact .inr ⟨_, _, e1⟩
      · rw [if_neg h2] at h
        unfold leafV at h
        by_cases c116 : k = 116
        · rw [if_pos c116] at h; exact .inr ⟨_, _, h⟩
        rw [if_neg c116] at h
        by_cases c66 : k = 66
        · rw [if_pos c66] at h; exact .inr ⟨_, _, h⟩
        rw [if_neg c66] at h
        by_cases c98 : k = 98
        · rw [if_pos c98] at h; exact .inr ⟨_, _, h⟩
        rw [if_neg c98] at h
        by_cases c115 : k = 115
        · rw [if_pos c115] at h; exact .inr ⟨_, _, h⟩
        rw [if_neg c115] at h
        by_cases c73 : k = 73
        · rw [if_pos c73] at h; exact .inr ⟨_, _, h⟩
        rw [if_neg c73] at h
        by_cases c108 : k = 108
        · rw [if_pos c108] at h; exact .inr ⟨_, _, h⟩
        rw [if_neg c108] at h
        by_cases c102 : k = 102
        · rw [if_pos c102] at h; exact .inr ⟨_, _, h⟩
        rw [if_neg c102] at h
        by_cases c100 : k = 100
        · rw [if_pos c100] at h; exact .inr ⟨_, _, h⟩
        rw [if_neg c100] at h
        by_cases c68 : k = 68
        · rw [if_pos c68] at h; exact .inr ⟨_, _, h⟩
        rw [if_neg c68] at h
        by_cases c83 : k = 83
        · rw [if_pos c83] at h; exact .inr ⟨_, _, h⟩
        rw [if_neg c83] at h
        by_cases c84 : k = 84
        · rw [if_pos c84] at h; exact .inr ⟨_, _, h⟩
        rw [if_neg c84] at h
        by_cases c120 : k = 120
        · rw [if_pos c120] at h; obtain ⟨g, e1, _⟩ := h; exact .inr ⟨_, _, e1⟩
        rw [if_neg c120] at h; exact .inl h
/-- One cell that is v. -/
def PVc (B : Nat → Prop) (w : World) (cs : List Value) (v : Val) : Prop := ∃ x, cs = [x] ∧ PV B w x v
theorem bears_pv : Bears 1 PVc := ⟨fun ⟨x, h1, h2⟩ hk hB => ⟨x, h1, PV.kept hk hB _ h2⟩, fun ⟨x, h1, h2⟩ hB => ⟨x, h1, PV.mono hB _ h2⟩, fun ⟨x, h1, h2⟩ => by rw [h1]; rfl,
  fun ⟨x, h1, h2⟩ u hu => by rw [h1] at hu; simp at hu; rw [hu]; exact h2.one⟩
theorem pl_of {B : Nat → Prop} {w : World} {g : Nat} : ∀ (l : List Val) (o : Nat) (cells : List Value), ECells 1 (PVc B w) cells l → (∀ j u, cells[j]? = some u → w.cell? ⟨g, o + j, none⟩ = some u) → PL B w g o l := by
  intro l
  induction l with
  | nil => intro o cells h hc; unfold PL; trivial
  | cons v l ih =>
    intro o cells h hc
    obtain ⟨cs, rest, rfl, h2, ⟨x, rfl, hx⟩, h5⟩ := h
    unfold PL
    refine ⟨⟨x, by have := hc 0 x rfl; simpa using this, hx⟩, ih (o + 1) rest h5 fun j u hj => ?_⟩
    have := hc (1 + j) u (by rw [List.getElem?_append_right (by simp)]; simpa using hj)
    rw [← Nat.add_assoc] at this
    exact this
theorem size_kn : (Tryz.prog.info? 137).map (·.size) = some 3 := by kernel_rfl
theorem kn_get (i : Nat) (e : Nat × Nat × List UInt8) (h : knownL[i]? = some e) : ∀ j u, (knCells e)[j]? = some u → (knownL.flatMap knCells)[i * 3 + j]? = some u := by
  generalize knownL = l at h
  induction l generalizing i with
  | nil => simp at h
  | cons x l ih =>
    intro j u hu
    have h3 : (knCells x).length = 3 := rfl
    rw [List.flatMap_cons]
    cases i with
    | zero =>
      simp only [List.getElem?_cons_zero, Option.some.injEq] at h
      subst h
      have hj : j < 3 := by rw [← h3]; exact (List.getElem?_eq_some_iff.1 hu).1
      rw [Nat.zero_mul, Nat.zero_add, List.getElem?_append_left (by rw [h3]; exact hj)]
      exact hu
    | succ i =>
      rw [List.getElem?_append_right (by rw [h3]; omega), h3, show (i + 1) * 3 + j - 3 = i * 3 + j by omega]
      exact ih i (by simpa using h) j u hu
/-- The letters as a text: none where there is no such method. -/
def lettersB (c m : Int) : List UInt8 := (lettersOf c m).getD []
theorem letters_drop (c m : Int) (k : Nat) (h : ∀ i, i < k → ∀ e, knownL[i]? = some e → ¬ ((e.1 : Int) = c ∧ (e.2.1 : Int) = m)) : lettersOf c m = ((knownL.drop k).find? fun e => decide ((e.1 : Int) = c) && decide ((e.2.1 : Int) = m)).map (·.2.2) := by
  unfold lettersOf
  generalize knownL = l at h
  induction k generalizing l with
  | zero => rfl
  | succ k ih =>
    cases l with
    | nil => rfl
    | cons x l =>
      have h0 := h 0 (by omega) x rfl
      rw [List.find?_cons, List.drop_succ_cons]
      have : (decide ((x.1 : Int) = c) && decide ((x.2.1 : Int) = m)) = false := by
        rw [Bool.and_eq_false_iff]
        rcases Classical.em ((x.1 : Int) = c) with h1 | h1
        · exact .inr (decide_eq_false fun h2 => h0 ⟨h1, h2⟩)
        · exact .inl (decide_eq_false h1)
      rw [this]
      exact ih l fun i hi e he => h (i + 1) (by omega) e (by simpa using he)
set_option maxHeartbeats 1000000 in
set_option maxRecDepth 100000 in
theorem letters_any (c m : Int) (w : World) : Calls Tryz.prog 27 #[.int .i64 c, .int .i64 m] w fun e w' => e = .returned (.tuple #[.string (bstr (lettersB c m)), .bool (lettersOf c m).isSome]) ∧ Kept [] w w' := by
  have hk := known_any w
  have HK := Lib.hid hk; clear hk
  go_enter Tryz.func27, Tryz.ntmps27
  go_wp2_with (go_at_call 49; refine HK.out.mono ?_; rintro e w1 ⟨rfl, hb, hk1⟩; have H1 := Lib.hid (And.intro hb hk1); clear hb hk1)
  obtain ⟨g, hg⟩ : ∃ g, g = w.heap.size := ⟨_, rfl⟩
  rw [← hg] at H1 ⊢
  have HG := Lib.hid hg; clear hg
  have hkl : knownL.length = 64 := by decide
  have HKL := Lib.hid hkl; clear hkl
  go_loopw [10] (fun i W => ∃ k : Nat, i = .int .i64 (k : Int) ∧ k ≤ 64 ∧ Hid ((∀ i, i < k → ∀ e, knownL[i]? = some e → ¬ ((e.1 : Int) = c ∧ (e.2.1 : Int) = m)) ∧ Kept [] w1 W)) (fun i _ => 64 - (intOf i).toNat)
  case atStart => exact ⟨0, rfl, by omega, Lib.hid ⟨fun i hi => absurd hi (by omega), Kept.refl _ _⟩⟩
  case round =>
    obtain ⟨k, rfl, hk64, HR⟩ := hrel
    by_cases hlt : k < 64
    · obtain ⟨e, he⟩ : ∃ e, knownL[k]? = some e := ⟨_, List.getElem?_eq_getElem (by rw [HKL.out]; exact hlt)⟩
      obtain ⟨ec, em, el⟩ := e
      have hcs : ∀ j u, (knCells (ec, em, el))[j]? = some u → wr.cell? ((⟨g, k * 3, none⟩ : Addr).add j) = some u := fun j u hj => by
        rw [addr_add, (H1.out.1.kept HR.out.2 (by simp)).cell]
        simpa using kn_get k _ he j u hj
      have hlt' : (k : Int) < 64 := by omega
      have HC := Lib.hid (And.intro hcs he); clear hcs he
      by_cases h1 : (ec : Int) = c
      · by_cases h2 : (em : Int) = m
        · clear hk64
          go_wp2_with (first
            | (refine wpList_load_cells rfl 137 (.tmp 12) rfl _ rfl [.int .i64 (ec : Int), .int .i64 (em : Int), .string (bstr el)] HC.out.1 _ Tryz.underlying137 rfl size_kn ?_)
            | (refine wpList_store_row (P := Tryz.prog) rfl rfl 137 (.tmp 7) (.tmp 13) rfl wr.heap.size rfl 137 _ [.int .i64 (ec : Int), .int .i64 (em : Int), .string (bstr el)] (Blk.new wr _ _) rfl rfl (by simp [Value.oneCell']) size_kn ?_; intro w4 hb4 hk4; have q0 : w4.cell? ⟨wr.heap.size, 0, none⟩ = some (.int .i64 (ec : Int)) := hb4.cell 0; have q1 : w4.cell? ⟨wr.heap.size, 1, none⟩ = some (.int .i64 (em : Int)) := hb4.cell 1; have q2 : w4.cell? ⟨wr.heap.size, 2, none⟩ = some (.string (bstr el)) := hb4.cell 2; have HKA := Lib.hid (((Kept.refl [] wr).alloc _).trans hk4 (S' := [wr.heap.size]) (fun x hx => .inr (by simp at hx; omega))); clear hb4 hk4))
          go_ret2
          have hf := letters_drop c m k HR.out.1
          have hd : (knownL.drop k).find? (fun e => decide ((e.1 : Int) = c) && decide ((e.2.1 : Int) = m)) = some (ec, em, el) := by
            rw [List.drop_eq_getElem_cons (by rw [HKL.out]; exact hlt), List.find?_cons]
            have he : knownL[k]'(by rw [HKL.out]; exact hlt) = (ec, em, el) := by have := HC.out.2; rw [List.getElem?_eq_getElem (by rw [HKL.out]; exact hlt)] at this; exact Option.some.inj this
            rw [he]
            simp [h1, h2]
          rw [hd] at hf
          exact ⟨by unfold lettersB; rw [hf]; rfl, (H1.out.2.trans HR.out.2 (by simp)).alloc _⟩
        · have hno : ∀ i, i < k + 1 → ∀ e, knownL[i]? = some e → ¬ ((e.1 : Int) = c ∧ (e.2.1 : Int) = m) := fun i hi e he => by
            rcases Nat.lt_succ_iff_lt_or_eq.1 hi with h | rfl
            · exact HR.out.1 i h e he
            · rw [HC.out.2] at he; cases he; exact fun h => h2 h.2
          have HNO := Lib.hid hno; clear hno
          go_wp2_with (first
            | (refine wpList_load_cells rfl 137 (.tmp 12) rfl _ rfl [.int .i64 (ec : Int), .int .i64 (em : Int), .string (bstr el)] HC.out.1 _ Tryz.underlying137 rfl size_kn ?_)
            | (refine wpList_store_row (P := Tryz.prog) rfl rfl 137 (.tmp 7) (.tmp 13) rfl wr.heap.size rfl 137 _ [.int .i64 (ec : Int), .int .i64 (em : Int), .string (bstr el)] (Blk.new wr _ _) rfl rfl (by simp [Value.oneCell']) size_kn ?_; intro w4 hb4 hk4; have q0 : w4.cell? ⟨wr.heap.size, 0, none⟩ = some (.int .i64 (ec : Int)) := hb4.cell 0; have q1 : w4.cell? ⟨wr.heap.size, 1, none⟩ = some (.int .i64 (em : Int)) := hb4.cell 1; have q2 : w4.cell? ⟨wr.heap.size, 2, none⟩ = some (.string (bstr el)) := hb4.cell 2; have HKA := Lib.hid (((Kept.refl [] wr).alloc _).trans hk4 (S' := [wr.heap.size]) (fun x hx => .inr (by simp at hx; omega))); clear hb4 hk4))
          go_roundw
          case rel => exact ⟨k + 1, rfl, by omega, Lib.hid ⟨HNO.out, HR.out.2.alloc _⟩⟩
          case measure => simp [intOf]; omega
      · have hno : ∀ i, i < k + 1 → ∀ e, knownL[i]? = some e → ¬ ((e.1 : Int) = c ∧ (e.2.1 : Int) = m) := fun i hi e he => by
          rcases Nat.lt_succ_iff_lt_or_eq.1 hi with h | rfl
          · exact HR.out.1 i h e he
          · rw [HC.out.2] at he; cases he; exact fun h => h1 h.1
        have HNO := Lib.hid hno; clear hno
        go_wp2_with (first
            | (refine wpList_load_cells rfl 137 (.tmp 12) rfl _ rfl [.int .i64 (ec : Int), .int .i64 (em : Int), .string (bstr el)] HC.out.1 _ Tryz.underlying137 rfl size_kn ?_)
            | (refine wpList_store_row (P := Tryz.prog) rfl rfl 137 (.tmp 7) (.tmp 13) rfl wr.heap.size rfl 137 _ [.int .i64 (ec : Int), .int .i64 (em : Int), .string (bstr el)] (Blk.new wr _ _) rfl rfl (by simp [Value.oneCell']) size_kn ?_; intro w4 hb4 hk4; have q0 : w4.cell? ⟨wr.heap.size, 0, none⟩ = some (.int .i64 (ec : Int)) := hb4.cell 0; have q1 : w4.cell? ⟨wr.heap.size, 1, none⟩ = some (.int .i64 (em : Int)) := hb4.cell 1; have q2 : w4.cell? ⟨wr.heap.size, 2, none⟩ = some (.string (bstr el)) := hb4.cell 2; have HKA := Lib.hid (((Kept.refl [] wr).alloc _).trans hk4 (S' := [wr.heap.size]) (fun x hx => .inr (by simp at hx; omega))); clear hb4 hk4))
        go_roundw
        case rel => exact ⟨k + 1, rfl, by omega, Lib.hid ⟨HNO.out, HR.out.2.trans HKA.out (by simp)⟩⟩
        case measure => simp [intOf]; omega
    · have hkm : k = 64 := by omega
      subst hkm
      go_wp2_with fail
      go_ret2
      have hf := letters_drop c m 64 HR.out.1
      rw [show knownL.drop 64 = [] by decide] at hf
      exact ⟨by unfold lettersB; rw [hf]; rfl, H1.out.2.trans HR.out.2 (by simp)⟩
end Go.Proofs.YtkcdakohmfodjaaGreat
