/-
  Lemmas on the way to the statement of YtkcdakohmfodjaaGreatHeader, joined out of these texts: Rstr, PfOk, Ops, Ops2, Map, Rdec, Iter. No condition.
-/
import Derived.ChangeMaps5
import Derived.Deep.RegionHeld3
import Derived.Laws.IdiomStrings
import Derived.Lib.EndianMore
import Derived.MapKept
import Derived.Maps.RangeRun
import Derived.Maps.RangeWalk
import Derived.StillTactics
import Derived.Test.YtkcdakohmfodjaaGreatNLim
import Derived.Test.YtkcdakohmfodjaaGreatNRfix
import Derived.Test.YtkcdakohmfodjaaGreatNValLaw
namespace Go.Proofs.YtkcdakohmfodjaaGreat
open Go.RowKit
set_option linter.unusedVariables false
set_option linter.unusedSimpArgs false
theorem map_sub_sub (Ns : List Nat) (a b : Nat) : (Ns.map (· - a)).map (· - b) = Ns.map (· - (a + b)) := by
  rw [List.map_map]
  congr 1
  funext x
  simp only [Function.comp]
  omega
theorem avail_map (Ns : List Nat) (pre rest : List UInt8) : avail (Ns.map (· - pre.length)) rest = avail Ns (pre ++ rest) - pre.length := by
  cases Ns with
  | nil => simp [avail]
  | cons N Ns => simp [avail]
theorem map_sub_zero (Ns : List Nat) : Ns.map (· - 0) = Ns := by simp
/-- A row of bytes as a string. -/
theorem conv_blk {w : World} {g n : Nat} {l : List UInt8} (h : Blk w g (u8s l).toArray 5) (hn : l.length = n) : (convert 22 9 (.slice (some ⟨g, 0, none⟩) n n)).run Tryz.prog w = .ok (.string ⟨l.toArray⟩) w := by
  subst hn
  refine run_convert_bytes_back w _ _ _ ⟨g, 0, none⟩ l.length l Tryz.underlying22 Tryz.underlying5 Tryz.underlying9 fun j hj => ?_
  rw [addr_add, h.cell, Nat.zero_add]
  simp only [List.getElem?_toArray]
  rw [u8s_get, List.getElem?_eq_getElem hj]; rfl
/-- readBytes, wherever it reads at least what is asked. -/
theorem readBytes_le {w : World} {r : Value} {ps : List Nat} {d : Nat} {Ns : List Nat} (s rest : List UInt8) (h : Rd w r ps d Ns (s ++ rest)) (hs : s.length ≤ 65536) (hl : rest.length ≤ 1000000000) (hav : s.length ≤ avail Ns (s ++ rest)) (hd : d < w.heap.size) :
    Calls Tryz.prog 148 #[r, .int .i64 (s.length : Int)] w fun e w' => ∃ g, e = .returned (.tuple #[.slice (some ⟨g, 0, none⟩) s.length s.length, .nilIface]) ∧ w.heap.size ≤ g ∧
      Blk w' g (u8s s).toArray 5 ∧ Rd w' r ps d (Ns.map (· - s.length)) rest ∧ Kept ps w w' := by
  by_cases h0 : s = []
  · subst h0
    refine (readBytes_zero r w).mono fun e w' h1 => ?_
    obtain ⟨rfl, rfl⟩ := h1
    have hk : Kept [] w (w.alloc (.cells #[] 5)) := (Kept.refl [] w).alloc _
    exact ⟨w.heap.size, rfl, Nat.le_refl _, Blk.new w _ _, by simpa using h.kept hk (by simp) (by simp), hk.mono (by simp)⟩
  · refine (readBytes_any h (by unfold Small; simp; omega) s.length hs (List.length_pos_iff.2 h0) hav hd).mono fun e w' h1 => ?_
    obtain ⟨g, h1, h2, h3, h4, h5⟩ := h1
    exact ⟨g, h1, h2, by simpa using h3, by simpa using h4, h5⟩
theorem be_one (n : Nat) (h : n < 256) : Lib.beNat (Lib.beBytes 1 n) = n := Lib.beNat_beBytes 1 n (by omega)
theorem be_four (n : Nat) (h : n < 4294967296) : Lib.beNat (Lib.beBytes 4 n) = n := Lib.beNat_beBytes 4 n (by omega)
set_option maxHeartbeats 1000000 in
set_option maxRecDepth 100000 in
theorem rshort {w : World} {r : Value} {ps : List Nat} {d : Nat} {Ns : List Nat} (s rest : List UInt8) (h : Rd w r ps d Ns (Lib.beBytes 1 s.length ++ (s ++ rest))) (hs : s.length ≤ 255) (hl : rest.length ≤ 900000000) (hav : 1 + s.length ≤ avail Ns (Lib.beBytes 1 s.length ++ (s ++ rest))) (hd : d < w.heap.size) :
    Calls Tryz.prog 144 #[r] w fun e w' => e = .returned (.tuple #[.string ⟨s.toArray⟩, .nilIface]) ∧ Rd w' r ps d (Ns.map (· - (1 + s.length))) rest ∧ Kept ps w w' := by
  have hka : Kept [] w (w.alloc (.cells #[.int .u8 0] 5)) := (Kept.refl [] w).alloc _
  have hb0 : Blk (w.alloc (.cells #[.int .u8 0] 5)) w.heap.size #[.int .u8 0] 5 := Blk.new w _ _
  have hgp : w.heap.size ∉ ps := fun hm => by have := h.mem_lt _ hm; omega
  have hgd : w.heap.size ≠ d := by omega
  have hbl := Lib.beBytes_length 1 s.length
  have hf := rfix_u8 (Lib.beBytes 1 s.length) (s ++ rest) hbl (h.kept hka (by simp) (by simp)) (by simp; omega) (by omega) (Nat.lt_of_lt_of_le hd hka.size) w.heap.size 0 _ hb0.cell0 (hb0.free 0) hgp hgd
  rw [be_one _ (by omega)] at hf
  have hav1 : s.length ≤ avail (Ns.map (· - 1)) (s ++ rest) := by
    have := avail_map Ns (Lib.beBytes 1 s.length) (s ++ rest)
    rw [hbl] at this
    omega
  have HF := Lib.hid hf; have H := Lib.hid (And.intro hka (And.intro hb0 (And.intro hgp (And.intro hgd (And.intro hav1 (And.intro hs (And.intro hl hd)))))))
  have hsl : (s.length : Int) ≤ 255 := by omega
  have hw : IntKind.i64.wrap (s.length : Int) = s.length := by rw [IntKind.wrap_i64]; omega
  clear hf hka hb0 hgp hgd hav1 hl hav h hbl
  go_enter Tryz.func144, Tryz.ntmps144
  go_upto_region 3 with (go_at_call 77; refine HF.out.mono ?_; rintro e w2 ⟨rfl, w1, k1, r1, rfl⟩)
  obtain ⟨ka, b0, gp, gd, av, _, hl, hd⟩ := H.out
  have hks : Kept [w.heap.size] w1 (w1.setCell ⟨w.heap.size, 0, none⟩ (.int .u8 (s.length : Nat))) := (Kept.refl _ w1).setCell (by simp) _
  have hr2 := r1.kept hks (fun p hp e => gp (by simp at e; rw [← e]; exact hp)) (by simpa using Ne.symm gd)
  have hb2 : Blk (w1.setCell ⟨w.heap.size, 0, none⟩ (.int .u8 (s.length : Nat))) w.heap.size #[.int .u8 (s.length : Nat)] 5 := (b0.kept k1 gp).setCell 0 _
  have hk2 : Kept ps w (w1.setCell ⟨w.heap.size, 0, none⟩ (.int .u8 (s.length : Nat))) := ((ka.mono (by simp)).trans k1 (fun x hx => .inl hx)).trans hks (by simp)
  generalize w1.setCell ⟨w.heap.size, 0, none⟩ (.int .u8 (s.length : Nat)) = w3 at hr2 hb2 hk2 ⊢
  have c0 := hb2.cell0
  have hrb := readBytes_le s rest hr2 (by omega) (by omega) av (Nat.lt_of_lt_of_le hd hk2.size)
  have HR := Lib.hid hrb; have HK := Lib.hid hk2
  clear hrb hk2 hr2 hb2 hks r1 k1 ka b0 gp gd av hl hd
  go_wp2_with (go_at_call 148; refine HR.out.mono ?_; rintro e w4 ⟨g, rfl, g1, g2, g3, g4⟩; have hcv := conv_blk g2 rfl; have H4 := Lib.hid (And.intro g3 g4); clear g1 g2 g3 g4)
  go_ret2
  refine ⟨rfl, ?_, HK.out.trans H4.out.2 (fun x hx => .inl hx)⟩
  have := H4.out.1
  rwa [map_sub_sub] at this
set_option maxHeartbeats 1000000 in
set_option maxRecDepth 100000 in
theorem rlong {w : World} {r : Value} {ps : List Nat} {d : Nat} {Ns : List Nat} (s rest : List UInt8) (h : Rd w r ps d Ns (Lib.beBytes 4 s.length ++ (s ++ rest))) (hs : s.length ≤ 65536) (hl : rest.length ≤ 900000000) (hav : 4 + s.length ≤ avail Ns (Lib.beBytes 4 s.length ++ (s ++ rest))) (hd : d < w.heap.size) :
    Calls Tryz.prog 157 #[r] w fun e w' => e = .returned (.tuple #[.string ⟨s.toArray⟩, .nilIface]) ∧ Rd w' r ps d (Ns.map (· - (4 + s.length))) rest ∧ Kept ps w w' := by
  have hka : Kept [] w (w.alloc (.cells #[.int .u32 0] 70)) := (Kept.refl [] w).alloc _
  have hb0 : Blk (w.alloc (.cells #[.int .u32 0] 70)) w.heap.size #[.int .u32 0] 70 := Blk.new w _ _
  have hgp : w.heap.size ∉ ps := fun hm => by have := h.mem_lt _ hm; omega
  have hgd : w.heap.size ≠ d := by omega
  have hbl := Lib.beBytes_length 4 s.length
  have hf := rfix_u32 (Lib.beBytes 4 s.length) (s ++ rest) hbl (h.kept hka (by simp) (by simp)) (by simp; omega) (by omega) (Nat.lt_of_lt_of_le hd hka.size) w.heap.size 0 _ hb0.cell0 (hb0.free 0) hgp hgd
  rw [be_four _ (by omega)] at hf
  have hav1 : s.length ≤ avail (Ns.map (· - 4)) (s ++ rest) := by
    have := avail_map Ns (Lib.beBytes 4 s.length) (s ++ rest)
    rw [hbl] at this
    omega
  have HF := Lib.hid hf; have H := Lib.hid (And.intro hka (And.intro hb0 (And.intro hgp (And.intro hgd (And.intro hav1 (And.intro hs (And.intro hl hd)))))))
  have hsl : (s.length : Int) ≤ 65536 := by omega
  have hw : IntKind.i64.wrap (s.length : Int) = s.length := by rw [IntKind.wrap_i64]; omega
  clear hf hka hb0 hgp hgd hav1 hl hav h hbl
  go_enter Tryz.func157, Tryz.ntmps157
  go_upto_region 3 with (go_at_call 77; refine HF.out.mono ?_; rintro e w2 ⟨rfl, w1, k1, r1, rfl⟩)
  obtain ⟨ka, b0, gp, gd, av, _, hl, hd⟩ := H.out
  have hks : Kept [w.heap.size] w1 (w1.setCell ⟨w.heap.size, 0, none⟩ (.int .u32 (s.length : Nat))) := (Kept.refl _ w1).setCell (by simp) _
  have hr2 := r1.kept hks (fun p hp e => gp (by simp at e; rw [← e]; exact hp)) (by simpa using Ne.symm gd)
  have hb2 : Blk (w1.setCell ⟨w.heap.size, 0, none⟩ (.int .u32 (s.length : Nat))) w.heap.size #[.int .u32 (s.length : Nat)] 70 := (b0.kept k1 gp).setCell 0 _
  have hk2 : Kept ps w (w1.setCell ⟨w.heap.size, 0, none⟩ (.int .u32 (s.length : Nat))) := ((ka.mono (by simp)).trans k1 (fun x hx => .inl hx)).trans hks (by simp)
  generalize w1.setCell ⟨w.heap.size, 0, none⟩ (.int .u32 (s.length : Nat)) = w3 at hr2 hb2 hk2 ⊢
  have c0 := hb2.cell0
  have hrb := readBytes_le s rest hr2 (by omega) (by omega) av (Nat.lt_of_lt_of_le hd hk2.size)
  have HR := Lib.hid hrb; have HK := Lib.hid hk2
  clear hrb hk2 hr2 hb2 hks r1 k1 ka b0 gp gd av hl hd
  go_wp2_with (go_at_call 148; refine HR.out.mono ?_; rintro e w4 ⟨g, rfl, g1, g2, g3, g4⟩; have hcv := conv_blk g2 rfl; have H4 := Lib.hid (And.intro g3 g4); clear g1 g2 g3 g4)
  go_ret2
  refine ⟨rfl, ?_, HK.out.trans H4.out.2 (fun x hx => .inl hx)⟩
  have := H4.out.1
  rwa [map_sub_sub] at this
theorem heap_same {w : World} {g : Nat} (f : Obj → Obj) {o : Obj} (h : w.heap[g]? = some o) (hf : f o = o) : ({ w with heap := w.heap.modify g f } : World) = w := by
  have hlt := lt_of_block h
  have h' : w.heap[g] = o := by simpa [Array.getElem?_eq_getElem hlt] using h
  have : w.heap.modify g f = w.heap := by
    apply Array.ext
    · simp
    · intro i h1 h2
      rw [Array.getElem_modify]
      split
      · rename_i he; subst he; rw [h', hf]
      · rfl
  rw [this]
theorem setRow_same {w : World} {g : Nat} {t : TypeId} {cs : Array Value} (h : Blk w g cs t) : w.setRow g cs = w := heap_same _ h rfl
theorem setCell_same {w : World} {g : Nat} {t : TypeId} {v : Value} (h : Blk w g #[v] t) : w.setCell ⟨g, 0, none⟩ v = w := heap_same _ h rfl
section
variable {P : Program}
/-- A load of a whole value from a variable that is known whole. -/
theorem wpList_load_row {ops : Array Oper} {rest : List Oper} {o : Oper} {a : Act} {w : World} {Q : Exit → Act → World → Prop} (hgd : o.guard = none) (ty : TypeId) (x : Operand) (ho : o.op = .load ty x)
    (g : Nat) (hx : a.eval x = .pointer (some ⟨g, 0, none⟩)) (t : TypeId) (cs : Array Value) (hg : Blk w g cs t) (d : TypeDesc)
    (hu : P.underlying ty = some d) (hd : (match d with | .struct _ | .array _ _ => true | _ => false) = true) (hi : (P.info? ty).map (·.size) = some cs.size)
    (h : wpList P ops Q rest (a.put o.dst (.agg cs)) w) : wpList P ops Q (o :: rest) a w := by
  refine wpList_plain hgd fun K hK => ?_
  have hr := run_loadAt_row (P := P) w g t ty cs d hg hu hd hi
  unfold Oper.wp execOp
  simp only [ho, hx, Sem.run_bind, Sem.run_pure, hr, Result.andThen_ok, Oper.upon_skip]
  exact hK _ _ h
end
section
variable {P : Program} {ops : Array Oper} {rest : List Oper} {o : Oper} {a : Act} {w : World} {Q : Act → Prop}
/-- A load of a whole value, in a region that leaves the world as it is. -/
theorem wpStill_load_row (hgd : o.guard = none) (ty : TypeId) (x : Operand) (ho : o.op = .load ty x) (g : Nat) (hx : a.eval x = .pointer (some ⟨g, 0, none⟩)) (t : TypeId) (cs : Array Value) (hg : Blk w g cs t) (d : TypeDesc)
    (hu : P.underlying ty = some d) (hd : (match d with | .struct _ | .array _ _ => true | _ => false) = true) (hi : (P.info? ty).map (·.size) = some cs.size)
    (h : wpStill P ops w Q rest (a.put o.dst (.agg cs))) : wpStill P ops w Q (o :: rest) a := by
  refine wpStill_step fun K hK => ?_
  have hr := run_loadAt_row (P := P) w g t ty cs d hg hu hd hi
  rw [if_pos (by simp [Region.wanted, hgd])]
  unfold Oper.still execOp
  simp only [ho, hx, Sem.run_bind, Sem.run_pure, hr, Result.andThen_ok, Oper.stillUpon_value]
  exact hK _ h
/-- A store of the value that is there, in a region that leaves the world as it is. -/
theorem wpStill_store_row (hgd : o.guard = none) (hdst : o.dst = none) (ty : TypeId) (x y : Operand) (ho : o.op = .store ty x y) (g : Nat) (hx : a.eval x = .pointer (some ⟨g, 0, none⟩)) (t : TypeId) (cs : List Value) (hg : Blk w g cs.toArray t)
    (hv : (a.eval y).cells = cs.toArray) (h1 : ∀ u ∈ cs, u.oneCell' = true) (hi : (P.info? ty).map (·.size) = some cs.length)
    (h : wpStill P ops w Q rest a) : wpStill P ops w Q (o :: rest) a := by
  refine wpStill_step fun K hK => ?_
  have hr := run_storeAt_row (P := P) w g t ty cs cs (a.eval y) hg hv rfl h1 hi
  rw [setRow_same hg] at hr
  rw [if_pos (by simp [Region.wanted, hgd])]
  unfold Oper.still execOp
  simp only [ho, hx, Sem.run_bind, Sem.run_pure, hr, Result.andThen_ok, Oper.stillUpon_skip, hdst, Act.put]
  exact hK _ h
end
/-- What the reading of a frame and the making of its data do: the forty cells and the bytes left. -/
def FrameGot (s : Value) (w1 : World) (R : Nat → List Value → Nat → World → Prop) : Prop :=
  Calls Tryz.prog 24 #[s, .int .u32 0] w1 fun e w' => ∃ (F : Value) (n : Nat), e = .returned (.tuple #[F, .int .i64 (n : Int), .nilIface]) ∧ Kept [] w1 w' ∧
    Calls Tryz.prog 25 #[F] w' fun e w2 => ∃ cs : List Value, e = .returned (.tuple #[.agg cs.toArray, .bool true]) ∧ cs.length = 40 ∧ (∀ u ∈ cs, u.oneCell' = true) ∧ Kept [] w' w2 ∧ R w1.heap.size cs n w2
set_option maxHeartbeats 400000 in
theorem parse1_ok (dt f ok re : Nat) (s : Value) (w : World) (R : Nat → List Value → Nat → World → Prop) (hd : w.cell? ⟨dt, 0, none⟩ = some s) (hs : ∃ ao n c, s = .slice ao n c)
    (hf : Blk w f frame0.toArray 35) (ho : ∃ v, Blk w ok #[v] 4) (hr : ∃ v, Blk w re #[v] 3) (h1 : f ≠ ok) (h2 : f ≠ re) (h3 : ok ≠ re) (hp : FrameGot s w R) :
    Calls Tryz.prog 23 #[.pointer (some ⟨dt, 0, none⟩), .pointer (some ⟨f, 0, none⟩), .pointer (some ⟨ok, 0, none⟩), .pointer (some ⟨re, 0, none⟩)] w fun e w' =>
      e = .returned (.tuple #[]) ∧ ∃ (cs : List Value) (n : Nat) (w2 : World), cs.length = 40 ∧ (∀ u ∈ cs, u.oneCell' = true) ∧ R w.heap.size cs n w2 ∧ Kept [] w w2 ∧ Kept [f, ok, re] w2 w' ∧
        Blk w' f cs.toArray 35 ∧ Blk w' ok #[.bool true] 4 ∧ Blk w' re #[.int .i64 (n : Int)] 3 := by
  obtain ⟨ao, n, c, rfl⟩ := hs
  obtain ⟨vo, ho⟩ := ho
  obtain ⟨vr, hr⟩ := hr
  have HP := Lib.hid hp; have HB := Lib.hid (And.intro hf (And.intro ho hr)); clear hp hf ho hr
  go_enter Tryz.func23, Tryz.ntmps23
  go_wp2_with (first
    | (go_at_call 24; refine HP.out.mono ?_; rintro e w1 ⟨F, n, rfl, hk, hc⟩; have HC := Lib.hid (And.intro hk hc); clear hk hc)
    | (go_at_call 25; refine HC.out.2.mono ?_; rintro e w2 ⟨cs, rfl, hl, h1c, hk2, hR⟩; have HR := Lib.hid (And.intro hl (And.intro h1c (And.intro (HC.out.1.trans hk2 (by simp)) hR))); clear hl h1c hk2 hR)
    | (refine wpList_store_row rfl rfl 35 (.tmp 1) (.tmp 18) rfl f rfl 35 frame0 cs (HB.out.1.kept HR.out.2.2.1 (by simp)) rfl HR.out.1 HR.out.2.1 (by rw [frame_size, HR.out.1]) ?_; intro w3 g1 g2; have b2 := (HB.out.2.1.kept HR.out.2.2.1 (by simp)).kept g2 (nin1 (Ne.symm h1)); have b3 := (HB.out.2.2.kept HR.out.2.2.1 (by simp)).kept g2 (nin1 (Ne.symm h2)); have q2 := b2.cell0; have f2 := b2.free 0; have q3 := b3.cell0; have f3 := b3.free 0; have HG := Lib.hid (And.intro g1 (And.intro g2 (And.intro b2 b3))); clear g1 g2 b2 b3))
  go_end0
  obtain ⟨g1, g2, b2, b3⟩ := HG.out
  have k0 : Kept [f, ok, re] w2 ((w3.setCell ⟨ok, 0, none⟩ (.bool true)).setCell ⟨re, 0, none⟩ (.int .i64 (n : Int))) := Kept.setCell (Kept.setCell (g2.mono (by simp)) (p := ⟨ok, 0, none⟩) (by simp) (.bool true)) (p := ⟨re, 0, none⟩) (by simp) (.int .i64 (n : Int))
  exact ⟨rfl, cs, n, w2, HR.out.1, HR.out.2.1, HR.out.2.2.2, HR.out.2.2.1, k0, (g1.setCell_other (by simpa using h1) _).setCell_other (by simpa using h2) _, (b2.setCell 0 (.bool true)).setCell_other (by simpa using h3) _, (b3.setCell_other (by simpa using Ne.symm h3) _).setCell 0 (.int .i64 (n : Int))⟩
theorem FrameGot.kept {s : Value} {w w' : World} {R : Nat → List Value → Nat → World → Prop} (h : FrameGot s w R) (he : w = w') : FrameGot s w' R := he ▸ h
set_option maxHeartbeats 1000000 in
set_option maxRecDepth 100000 in
theorem parse_ok (s : Value) (w : World) (hs : ∃ ao n c, s = .slice ao n c) (R : Nat → List Value → Nat → World → Prop) (hp : ∀ w1, Kept [] w w1 → FrameGot s w1 R) :
    Calls Tryz.prog 9 #[s] w fun e w' => ∃ (cs : List Value) (n base : Nat) (w2 : World) (S : List Nat), e = .returned (.tuple #[.agg cs.toArray, .int .i64 (n : Int), .bool true]) ∧
      cs.length = 40 ∧ (∀ u ∈ cs, u.oneCell' = true) ∧ w.heap.size ≤ base ∧ (∀ x ∈ S, x < base) ∧ R base cs n w2 ∧ Kept S w2 w' ∧ Kept [] w w' := by
  obtain ⟨ao, n, c, rfl⟩ := hs
  have ha := alloc_frame
  have hmf := mf_any
  obtain ⟨wa, hwa⟩ : ∃ wa, wa = (((w.alloc (.cells #[.slice ao n c] 22)).alloc (.cells frame0.toArray 35)).alloc (.cells #[.int .i64 0] 3)).alloc (.cells #[.bool false] 4) := ⟨_, rfl⟩
  have hka : Kept [] w wa := by subst hwa; exact ((((Kept.refl [] w).alloc _).alloc _).alloc _).alloc _
  have hb0 : Blk wa w.heap.size #[.slice ao n c] 22 := by subst hwa; exact (((Blk.new w _ _).alloc _).alloc _).alloc _
  have hb1 : Blk wa (w.heap.size + 1) frame0.toArray 35 := by subst hwa; exact ((Blk.new_at (by simp)).alloc _).alloc _
  have hb2 : Blk wa (w.heap.size + 1 + 1) #[.int .i64 0] 3 := by subst hwa; exact (Blk.new_at (by simp)).alloc _
  have hb3 : Blk wa (w.heap.size + 1 + 1 + 1) #[.bool false] 4 := by subst hwa; exact Blk.new_at (by simp)
  have hsz : wa.heap.size = w.heap.size + 1 + 1 + 1 + 1 := by subst hwa; simp
  have hkq : Kept [] wa (wa.alloc (.cells #[.bool false] 4)) := (Kept.refl [] wa).alloc _
  have hc1 := parse1_ok w.heap.size (w.heap.size + 1) (w.heap.size + 1 + 1 + 1) (w.heap.size + 1 + 1) (.slice ao n c) (wa.alloc (.cells #[.bool false] 4)) R (hb0.kept hkq (by simp)).cell0 ⟨ao, n, c, rfl⟩
    (hb1.kept hkq (by simp)) ⟨_, hb3.kept hkq (by simp)⟩ ⟨_, hb2.kept hkq (by simp)⟩ (by omega) (by omega) (by omega) (hp _ (hka.trans hkq (by simp)))
  have hq := quietly_parse _ _ _ _ wa (fun w' => ∃ (cs : List Value) (n : Nat) (w2 : World), cs.length = 40 ∧ (∀ u ∈ cs, u.oneCell' = true) ∧ R (wa.alloc (.cells #[.bool false] 4)).heap.size cs n w2 ∧ Kept [] (wa.alloc (.cells #[.bool false] 4)) w2 ∧ Kept [w.heap.size + 1, w.heap.size + 1 + 1 + 1, w.heap.size + 1 + 1] w2 w' ∧
        Blk w' (w.heap.size + 1) cs.toArray 35 ∧ Blk w' (w.heap.size + 1 + 1 + 1) #[.bool true] 4 ∧ Blk w' (w.heap.size + 1 + 1) #[.int .i64 (n : Int)] 3)
    (fun w' hk => by
      obtain ⟨cs, n, w2, _, _, _, h4, h5, _⟩ := hk
      exact ((Blk.new wa _ _).kept h4 (by simp)).kept h5 (by simp; omega)) hc1
  have HQ := Lib.hid hq; have HA := Lib.hid (And.intro hka hkq); have HZ := Lib.hid hsz
  have HW := Lib.hid hwa
  clear hq hc1 hka hkq hb0 hb1 hb2 hb3 hsz hp hwa
  go_enter Tryz.func9, Tryz.ntmps9
  go_wp2_with fail
  have hq := HQ.out
  rw [HW.out] at hq
  refine hq.mono ?_
  clear hq
  rintro e w' ⟨rfl, w1, ⟨cs, n1, w2, x1, x2, x3, x4, x5, b1, b3, b2⟩, rfl⟩
  rw [← HW.out] at x3 x4
  rw [← HW.out, HZ.out]
  obtain ⟨a1, a2⟩ := HA.out
  have hks : Kept [wa.heap.size] w1 (w1.setCell ⟨wa.heap.size, 0, none⟩ (.bool true)) := (Kept.refl _ w1).setCell (by simp) _
  rw [HZ.out] at hks
  have b1 := b1.kept hks (by simp)
  have b2 := b2.kept hks (by simp)
  have b3 := b3.kept hks (by simp)
  have hk5 := (x5.mono (S' := [w.heap.size + 1, w.heap.size + 1 + 1 + 1, w.heap.size + 1 + 1, w.heap.size + 1 + 1 + 1 + 1]) (fun x hx => .inl (by simp at hx ⊢; omega))).trans hks (fun x hx => .inl (by simp at hx ⊢; omega))
  have hkf : Kept [] w (w1.setCell ⟨w.heap.size + 1 + 1 + 1 + 1, 0, none⟩ (.bool true)) := ((a1.trans a2 (by simp)).trans x4 (by simp)).trans hk5 (fun x hx => .inr (by simp at hx; omega))
  generalize w1.setCell ⟨w.heap.size + 1 + 1 + 1 + 1, 0, none⟩ (.bool true) = w3 at b1 b2 b3 hkf hk5 ⊢
  have q2 := b2.cell0
  have q3 := b3.cell0
  have f2 := b2.free 0
  have f3 := b3.free 0
  have l3 := setCell_same (w := w3.drew) b2
  have l4 := setCell_same (w := w3.drew) b3
  have HB := Lib.hid (And.intro b1 (And.intro b2 (And.intro b3 (And.intro hkf (And.intro hk5 (And.intro x1 (And.intro x2 x3)))))))
  clear b1 b2 b3 hkf hks hk5 x1 x2 x3 x4 x5 a1 a2
  go_wp2_with fail
  refine wp_region_still_lit (by kernel_rfl) (by kernel_rfl) ?_
  change wpStill _ _ w3.drew _ _ _
  refine wpStill_load_row rfl 35 (.tmp 2) rfl (w.heap.size + 1) rfl 35 cs.toArray HB.out.1 _ Tryz.underlying35 rfl (by simp [HB.out.2.2.2.2.2.1, frame_size]) ?_
  still_step
  refine wpStill_store_row rfl rfl 35 (.tmp 2) (.tmp 15) rfl (w.heap.size + 1) rfl 35 cs HB.out.1 rfl HB.out.2.2.2.2.2.2.1 (by simp [HB.out.2.2.2.2.2.1, frame_size]) ?_
  still_step
  still_step
  refine wpStill_nil ?_
  go_wp2_with fail
  obtain ⟨b1, b2, b3, hkf, hk5, x1, x2, x3⟩ := HB.out
  have hk0 : Kept [] w3 w3.drew := (Kept.refl [] w3).drew
  refine bodyPost_ret (v := .tuple #[.agg cs.toArray, .int .i64 (n1 : Int), .bool true]) (results_parse (f := w.heap.size + 1) (re := w.heap.size + 1 + 1) (ok := w.heap.size + 1 + 1 + 1) rfl rfl rfl (b1.kept hk0 (by simp)) (by simp [x1]) (b2.kept hk0 (by simp)).cell0 (b3.kept hk0 (by simp)).cell0) rfl
    ⟨cs, n1, _, w2, _, rfl, x1, x2, ?_, ?_, x3, hk5.trans hk0 (by simp), hkf.trans hk0 (by simp)⟩
  · have := HZ.out; simp; omega
  · intro x hx; have := HZ.out; simp at hx ⊢; omega
section
variable {P : Program} {ops : Array Oper} {rest : List Oper} {o : Oper} {a : Act} {w : World} {Q : Exit → Act → World → Prop}
theorem wpList_run (hgd : o.guard = none) (v : Value) (w' : World) (hr : (execOp a.eval o).run P w = .ok (.value v) w') (h : wpList P ops Q rest (a.put o.dst v) w') : wpList P ops Q (o :: rest) a w := by
  refine wpList_plain hgd fun K hK => ?_
  unfold Oper.wp
  rw [hr]
  exact hK _ _ h
/-- A new variable: of the world behind it only what it holds is told. (The slot that it goes to, 'd', tells two of them apart: a world that does not fit would send the unifier into the whole run.) -/
theorem wpList_alloc (hgd : o.guard = none) (d : Nat) (hd : o.dst = some d) (ty : TypeId) (ho : o.op = .alloc ty) (cs : Array Value) (hr : (Instr.alloc ty true (.tuple #[])).run P w = .ok (.pointer (some ⟨w.heap.size, 0, none⟩)) (w.alloc (.cells cs ty)))
    (h : ∀ w', Blk w' w.heap.size cs ty → Kept [] w w' → w.heap.size < w'.heap.size → wpList P ops Q rest (a.put o.dst (.pointer (some ⟨w.heap.size, 0, none⟩))) w') : wpList P ops Q (o :: rest) a w :=
  wpList_run hgd _ _ (by simp only [execOp, ho, Sem.run_bind, hr, Result.andThen_ok, Sem.run_pure]) (h _ (Blk.new w cs ty) ((Kept.refl [] w).alloc _) (by simp))
theorem wpList_build (hgd : o.guard = none) (ty : TypeId) (parts : Array (Nat × Operand)) (ho : o.op = .build ty parts) (ps : Array (Nat × Value)) (hp : parts.map (fun (i, x) => (i, a.eval x)) = ps) (v : Value) (hr : (Instr.build ty ps).run P w = .ok v w)
    (h : wpList P ops Q rest (a.put o.dst v) w) : wpList P ops Q (o :: rest) a w :=
  wpList_run hgd v w (by subst hp; simp only [execOp, ho, Sem.run_bind, hr, Result.andThen_ok, Sem.run_pure]) h
end
section
variable {P : Program} {ops : Array Oper} {o : Oper} {a : Act} {w : World} {K : Act → World → Prop} {Q : Exit → Act → World → Prop}
theorem t_load (ty : TypeId) (x : Operand) (ho : o.op = .load ty x) (ad : Addr) (hx : a.eval x = .pointer (some ad)) {v : Value} (hr : (Instr.loadAt ty (.pointer (some ad))).run P w = .ok v w) : (execOp a.eval o).run P w = .ok (.value v) w := by
  simp only [execOp, ho, hx, Sem.run_bind, hr, Result.andThen_ok, Sem.run_pure]
theorem t_build (ty : TypeId) (parts : Array (Nat × Operand)) (ho : o.op = .build ty parts) (ps : Array (Nat × Value)) (hp : parts.map (fun (i, x) => (i, a.eval x)) = ps) {v : Value} (hr : (Instr.build ty ps).run P w = .ok v w) : (execOp a.eval o).run P w = .ok (.value v) w := by
  subst hp; simp only [execOp, ho, Sem.run_bind, hr, Result.andThen_ok, Sem.run_pure]
theorem b_run (hgd : Region.wanted o (yielded ops a.tmps) = true) (v : Value) (w' : World) (hr : (execOp a.eval o).run P w = .ok (.value v) w') (h : K (a.put o.dst v) w') : if Region.wanted o (yielded ops a.tmps) = true then Oper.wp P o a w K Q else K (a.put o.dst undef) w := by
  rw [if_pos hgd]
  unfold Oper.wp
  rw [hr]
  exact h
theorem b_skip (hgd : Region.wanted o (yielded ops a.tmps) = true) (w' : World) (hr : (execOp a.eval o).run P w = .ok .skip w') (h : K (a.put o.dst undef) w') : if Region.wanted o (yielded ops a.tmps) = true then Oper.wp P o a w K Q else K (a.put o.dst undef) w := by
  rw [if_pos hgd]
  unfold Oper.wp
  rw [hr]
  exact h
theorem b_store_row (hgd : Region.wanted o (yielded ops a.tmps) = true) (hdst : o.dst = none) (ty : TypeId) (x y : Operand) (ho : o.op = .store ty x y)
    (g : Nat) (hx : a.eval x = .pointer (some ⟨g, 0, none⟩)) (t : TypeId) (cur new : List Value) (hg : Blk w g cur.toArray t) (hv : (a.eval y).cells = new.toArray) (hl : new.length = cur.length) (h1 : ∀ u ∈ new, u.oneCell' = true)
    (hi : (P.info? ty).map (·.size) = some new.length)
    (h : ∀ w', Blk w' g new.toArray t → Kept [g] w w' → K a w') : if Region.wanted o (yielded ops a.tmps) = true then Oper.wp P o a w K Q else K (a.put o.dst undef) w := by
  rw [if_pos hgd]
  have hr := run_storeAt_row (P := P) w g t ty cur new (a.eval y) hg hv hl h1 hi
  unfold Oper.wp execOp
  simp only [ho, hx, Sem.run_bind, Sem.run_pure, hr, Result.andThen_ok, Oper.upon_skip, hdst, Act.put]
  exact h _ (setRow_heap w g cur.toArray _ t _ hg) ((Kept.refl [g] w).setRow (by simp) _)
end
end Go.Proofs.YtkcdakohmfodjaaGreat
namespace Go.Proofs.YtkcdakohmfodjaaGreat
open Go.RowKit
open Go.ChangeMaps (setBlock)
set_option linter.unusedVariables false
set_option linter.unusedSimpArgs false
/-- The entries of a map, the i-th born at i. -/
def mapEnts : List (Value × Value) → Nat → List MapEntry
  | [], _ => []
  | (k, v) :: l, i => ⟨k, v, i⟩ :: mapEnts l (i + 1)
/-- Block b is the map with these keys and values. -/
def MapAt (w : World) (b : Nat) (es : List (Value × Value)) : Prop := w.heap[b]? = some (.map (mapEnts es 0).toArray es.length)
theorem mapEnts_length (es : List (Value × Value)) (i : Nat) : (mapEnts es i).length = es.length := by
  induction es generalizing i with
  | nil => rfl
  | cons e es ih => simp [mapEnts, ih]
theorem mapEnts_append (es fs : List (Value × Value)) (i : Nat) : mapEnts (es ++ fs) i = mapEnts es i ++ mapEnts fs (i + es.length) := by
  induction es generalizing i with
  | nil => simp [mapEnts]
  | cons e es ih =>
    obtain ⟨k, v⟩ := e
    simp only [List.cons_append, mapEnts, ih, List.length_cons]
    congr 3
    omega
theorem mapEnts_get (es : List (Value × Value)) (i j : Nat) : (mapEnts es i)[j]? = (es[j]?).map fun e => ⟨e.1, e.2, i + j⟩ := by
  induction es generalizing i j with
  | nil => simp [mapEnts]
  | cons e es ih =>
    obtain ⟨k, v⟩ := e
    cases j with
    | zero => simp [mapEnts]
    | succ j => simp only [mapEnts, List.getElem?_cons_succ, ih]; congr 2; funext e; congr 1; omega
section
variable {w : World} {b : Nat} {es : List (Value × Value)}
theorem MapAt.lt (h : MapAt w b es) : b < w.heap.size := (Array.getElem?_eq_some_iff.1 h).1
theorem MapAt.kept {S : List Nat} {w' : World} (h : MapAt w b es) (hk : Kept S w w') (hn : b ∉ S) : MapAt w' b es := hk.heap h hn
theorem MapAt.new (w : World) : MapAt (w.alloc (.map #[] 0)) w.heap.size [] := heap_alloc_new w _
/-- no key is this one. -/
theorem findNow_none {kd : TypeDesc} {k : Value} : ∀ (es : List (Value × Value)) (i j : Nat), (∀ e ∈ es, Instr.sameNow kd k e.1 = some false) → Instr.findNow kd k (mapEnts es i) j = some none := by
  intro es
  induction es with
  | nil => intro i j _; rfl
  | cons e es ih =>
    intro i j h
    obtain ⟨k', v⟩ := e
    simp only [mapEnts, Instr.findNow]
    have h0 : Instr.sameNow kd k k' = some false := h (k', v) (by simp)
    rw [h0]
    exact ih (i + 1) (j + 1) (fun e he => h e (by simp [he]))
theorem findNow_at {kd : TypeDesc} {k k' v : Value} {post : List (Value × Value)} (hk : Instr.sameNow kd k k' = some true) : ∀ (pre : List (Value × Value)) (i j : Nat), (∀ e ∈ pre, Instr.sameNow kd k e.1 = some false) →
    Instr.findNow kd k (mapEnts (pre ++ (k', v) :: post) i) j = some (some (j + pre.length, v)) := by
  intro pre
  induction pre with
  | nil => intro i j _; simp [mapEnts, Instr.findNow, hk]
  | cons e pre ih =>
    intro i j h
    obtain ⟨k2, v2⟩ := e
    simp only [List.cons_append, mapEnts, Instr.findNow]
    have h0 : Instr.sameNow kd k k2 = some false := h (k2, v2) (by simp)
    rw [h0]
    show Instr.findNow kd k (mapEnts (pre ++ (k', v) :: post) (i + 1)) (j + 1) = _
    rw [ih (i + 1) (j + 1) (fun e he => h e (by simp [he])), List.length_cons]
    congr 3
    omega
variable {P : Program}
theorem run_findKey_now {kt : TypeId} {kd : TypeDesc} (hu : P.underlying kt = some kd) {k : Value} {l : List MapEntry} {r : Option (Nat × Value)} (h : Instr.findNow kd k l 0 = some r) (w : World) : (Instr.findKey kt k l).run P w = .ok r w := by
  simp [Instr.findKey, run_underlying hu, h]
theorem run_checkKey_succ {kt : TypeId} {kd : TypeDesc} (hu : P.underlying kt = some kd) (hp : (match kd with | .int _ | .string | .bool => true | _ => false) = true) (emp : Bool) (n : Nat) (k : Value) (w : World) : (Instr.checkKey emp (n + 1) kt k).run P w = .ok () w := by
  unfold Instr.checkKey
  rw [Sem.run_bind, run_underlying hu]
  cases kd <;> simp at hp <;> rfl
/-- A key of a plain kind is no matter. -/
theorem run_checkKey_plain {kt : TypeId} {kd : TypeDesc} (hu : P.underlying kt = some kd) (hp : (match kd with | .int _ | .string | .bool => true | _ => false) = true) (emp : Bool) (k : Value) (w : World) : (Instr.checkKey emp 10000 kt k).run P w = .ok () w :=
  run_checkKey_succ hu hp emp 9999 k w
theorem setBlock_kept {es' : Array MapEntry} {c c' : Nat} {es : Array MapEntry} (hb : w.heap[b]? = some (.map es c)) : Kept [b] w (setBlock w b (.map es' c')) :=
  ⟨rfl, rfl, rfl, by simp [setBlock], fun k _ hn => Go.ChangeMaps.heap_setBlock_other hb _ (by simpa using hn)⟩
theorem run_mapUpdate_new {t kt e : TypeId} {kd : TypeDesc} (h : MapAt w b es) (ht : P.underlying t = some (.map kt e)) (hu : P.underlying kt = some kd) (hp : (match kd with | .int _ | .string | .bool => true | _ => false) = true)
    (k v : Value) (hk : ∀ e ∈ es, Instr.sameNow kd k e.1 = some false) : ∃ w', (Instr.mapUpdate t (.map (some b)) k v).run P w = .ok () w' ∧ MapAt w' b (es ++ [(k, v)]) ∧ Kept [b] w w' := by
  have hf := findNow_none es 0 0 hk
  refine ⟨setBlock w b (.map ((mapEnts es 0).toArray.push ⟨k, v, es.length⟩) (es.length + 1)), ?_, ?_, setBlock_kept h⟩
  · simp [Instr.mapUpdate, run_underlying ht, Go.MapKept.run_getObj_map h, run_checkKey_plain hu hp, run_findKey_now hu hf, Go.MapKept.run_setObj_map _ h, Result.andThen, setBlock]
  · unfold MapAt
    rw [Go.ChangeMaps.heap_setBlock_same h, mapEnts_append]
    simp [mapEnts]
theorem run_lookup_at {t kt e : TypeId} {kd : TypeDesc} {pre post : List (Value × Value)} {k k' v : Value} (h : MapAt w b (pre ++ (k', v) :: post)) (ht : P.underlying t = some (.map kt e)) (hu : P.underlying kt = some kd)
    (hp : (match kd with | .int _ | .string | .bool => true | _ => false) = true) (hk : Instr.sameNow kd k k' = some true) (hpre : ∀ e ∈ pre, Instr.sameNow kd k e.1 = some false) (ok : Bool) :
    (Instr.lookup t (.map (some b)) k ok).run P w = .ok (if ok then .tuple #[v, .bool true] else v) w := by
  have hf := findNow_at (v := v) (post := post) hk pre 0 0 hpre
  simp [Instr.lookup, run_underlying ht, Go.MapKept.run_getObj_map h, run_checkKey_plain hu hp, run_findKey_now hu hf, Result.andThen]
theorem run_lookup_none {t kt e : TypeId} {kd : TypeDesc} {k : Value} (h : MapAt w b es) (ht : P.underlying t = some (.map kt e)) (hu : P.underlying kt = some kd)
    (hp : (match kd with | .int _ | .string | .bool => true | _ => false) = true) (hk : ∀ e ∈ es, Instr.sameNow kd k e.1 = some false) (z : Value) (hz : (zeroValue e).run P w = .ok z w) (ok : Bool) :
    (Instr.lookup t (.map (some b)) k ok).run P w = .ok (if ok then .tuple #[z, .bool false] else z) w := by
  have hf := findNow_none es 0 0 hk
  simp [Instr.lookup, run_underlying ht, Go.MapKept.run_getObj_map h, run_checkKey_plain hu hp, run_findKey_now hu hf, hz, Result.andThen]
end
section
variable {P : Program} {ops : Array Oper} {rest : List Oper} {o : Oper} {a : Act} {w : World} {Q : Exit → Act → World → Prop}
/-- 'm[k] = v' of a key that is new. -/
theorem wpList_insert_new (hgd : o.guard = none) (hdst : o.dst = none) (t : TypeId) (m k v : Operand) (ho : o.op = .insert t m k v) (b : Nat) (es : List (Value × Value)) (h : MapAt w b es) (hm : a.eval m = .map (some b)) (kt e : TypeId) (kd : TypeDesc)
    (ht : P.underlying t = some (.map kt e)) (hu : P.underlying kt = some kd) (hp : (match kd with | .int _ | .string | .bool => true | _ => false) = true) (kv vv : Value) (hkv : a.eval k = kv) (hvv : a.eval v = vv) (hk : ∀ e ∈ es, Instr.sameNow kd kv e.1 = some false)
    (hK : ∀ w', MapAt w' b (es ++ [(kv, vv)]) → Kept [b] w w' → wpList P ops Q rest a w') : wpList P ops Q (o :: rest) a w := by
  refine wpList_plain hgd fun K hK' => ?_
  obtain ⟨w', hr, h1, h2⟩ := run_mapUpdate_new (P := P) h ht hu hp kv vv hk
  unfold Oper.wp execOp
  simp only [ho, hm, hkv, hvv, Sem.run_bind, Sem.run_pure, hr, Result.andThen_ok, Oper.upon_skip, hdst, Act.put]
  exact hK' _ _ (hK w' h1 h2)
end
end Go.Proofs.YtkcdakohmfodjaaGreat
namespace Go.Proofs.YtkcdakohmfodjaaGreat
open Go.RowKit
set_option linter.unusedVariables false
set_option linter.unusedSimpArgs false
/-- A time of so many seconds since 1970, as the package's struct. -/
def timeV (n : Int) : Value := .agg #[.int .u64 0, .int .i64 (n + 62135596800), .pointer none]
set_option maxHeartbeats 1000000 in
theorem unixTime_any (n : Int) (h0 : 0 ≤ n) (h1 : n ≤ 4611686018427387904) (w : World) :
    Calls Tryz.prog 55 #[.int .i64 n, .int .i32 0] w fun e w' => e = .returned (timeV n) ∧ Kept [] w w' := by
  have hw : IntKind.i64.wrap (n + 62135596800) = n + 62135596800 := by rw [IntKind.wrap_i64]; omega
  go_enter Tryz.func55, Tryz.ntmps55
  go_wp2
  refine bodyPost_ret (v := .agg #[.int .u64 0, .int .i64 (n + 62135596800), .pointer none]) (by simp [results, Tryz.results55, go_sem]) rfl ⟨rfl, (Kept.refl [] w).alloc _⟩
set_option maxHeartbeats 1000000 in
theorem unix_any (n : Int) (h0 : 0 ≤ n) (h1 : n ≤ 4611686018427387904) (w : World) :
    Calls Tryz.prog 41 #[.int .i64 n, .int .i64 0] w fun e w' => e = .returned (timeV n) ∧ Kept [] w w' := by
  have hc := fun W : World => unixTime_any n h0 h1 W
  have HC := Lib.hid hc; clear hc
  go_enter Tryz.func41, Tryz.ntmps41
  go_wp2_with (first
    | (go_at_call 55; refine (HC.out _).mono ?_; rintro e w1 ⟨rfl, k1⟩; have hb : Blk w1 w.heap.size #[.int .u64 0, .int .i64 0, .pointer none] 99 := (Blk.new w _ _).kept k1 (by simp); have HB := Lib.hid (And.intro hb (((Kept.refl [] w).alloc _).trans k1 (by simp))); clear hb k1)
    | (refine wpList_store_row (P := Tryz.prog) rfl rfl 99 (.tmp 4) (.tmp 30) rfl w.heap.size rfl 99 _ [.int .u64 0, .int .i64 (n + 62135596800), .pointer none] HB.out.1 rfl rfl (by simp [Value.oneCell']) (by kernel_rfl) ?_; intro w2 hb2 hk2; have HB2 := Lib.hid (And.intro hb2 hk2); clear hb2 hk2))
  refine bodyPost_ret (v := timeV n) (results_cell_row (P := Tryz.prog) Tryz.results41 _ _ w.heap.size 99 _ (0, 0) _ rfl HB2.out.1 Tryz.underlying99 rfl (by kernel_rfl)) rfl ⟨rfl, HB.out.2.trans HB2.out.2 (by simp)⟩
theorem results_time {tmps : Array Value} {g : Nat} {cs : Array Value} {x : Value} {w : World} (h1 : tmps.getD 2 undef = .pointer (some ⟨g, 0, none⟩)) (h2 : tmps.getD 3 undef = x) (hg : Blk w g cs 99) (hs : cs.size = 3) :
    (results Tryz.f146 tmps).run Tryz.prog w = .ok (.tuple #[.agg cs, x]) w := by
  have hl := run_loadVar_row (P := Tryz.prog) w g 99 99 cs (0, 0) _ hg Tryz.underlying99 rfl (by rw [hs]; kernel_rfl)
  simp only [Array.getD_eq_getD_getElem?] at h1 h2
  simp [results, Tryz.results146, h1, h2, asAddr, hl]
theorem results_dec {tmps : Array Value} {g : Nat} {cs : Array Value} {x : Value} {w : World} (h1 : tmps.getD 2 undef = .pointer (some ⟨g, 0, none⟩)) (h2 : tmps.getD 3 undef = x) (hg : Blk w g cs 191) (hs : cs.size = 2) :
    (results Tryz.f176 tmps).run Tryz.prog w = .ok (.tuple #[.agg cs, x]) w := by
  have hl := run_loadVar_row (P := Tryz.prog) w g 191 191 cs (0, 0) _ hg Tryz.underlying191 rfl (by rw [hs]; kernel_rfl)
  simp only [Array.getD_eq_getD_getElem?] at h1 h2
  simp [results, Tryz.results176, h1, h2, asAddr, hl]
theorem be_eight (n : Nat) (h : n < 18446744073709551616) : Lib.beNat (Lib.beBytes 8 n) = n := Lib.beNat_beBytes 8 n (by omega)
set_option maxHeartbeats 1000000 in
set_option maxRecDepth 100000 in
theorem rtime (n : Nat) (hn : n ≤ 4611686018427387904) {w : World} {r : Value} {ps : List Nat} {d : Nat} {Ns : List Nat} (rest : List UInt8) (h : Rd w r ps d Ns (Lib.beBytes 8 n ++ rest)) (hl : rest.length ≤ 900000000) (hav : 8 ≤ avail Ns (Lib.beBytes 8 n ++ rest)) (hd : d < w.heap.size) :
    Calls Tryz.prog 146 #[r] w fun e w' => e = .returned (.tuple #[timeV n, .nilIface]) ∧ Rd w' r ps d (Ns.map (· - 8)) rest ∧ Kept ps w w' := by
  obtain ⟨wa, hwa⟩ : ∃ wa, wa = (w.alloc (.cells #[.int .u64 0, .int .i64 0, .pointer none] 99)).alloc (.cells #[.int .i64 0] 2) := ⟨_, rfl⟩
  have hka : Kept [] w wa := by rw [hwa]; exact ((Kept.refl [] w).alloc _).alloc _
  have hb0 : Blk wa w.heap.size #[.int .u64 0, .int .i64 0, .pointer none] 99 := by rw [hwa]; exact (Blk.new w _ _).alloc _
  have hb1 : Blk wa (w.heap.size + 1) #[.int .i64 0] 2 := by rw [hwa]; exact Blk.new_at (by simp)
  have hgp : ∀ b, w.heap.size ≤ b → b ∉ ps := fun b hb hm => by have := h.mem_lt _ hm; omega
  have hf := rfix_i64 (Lib.beBytes 8 n) rest (Lib.beBytes_length 8 n) (h.kept hka (by simp) (by simp)) (by omega) hav (Nat.lt_of_lt_of_le hd hka.size) (w.heap.size + 1) 0 _ hb1.cell0 (hb1.free 0) (hgp _ (by omega)) (by omega)
  have hwr : IntKind.i64.wrap ((Lib.beNat (Lib.beBytes 8 n) : Nat) : Int) = n := by rw [be_eight n (by omega), IntKind.wrap_i64]; omega
  rw [hwr] at hf
  have HF := Lib.hid hf; have H := Lib.hid (And.intro hka (And.intro hb0 (And.intro hb1 (And.intro hgp (And.intro hwa hd)))))
  have hu := fun W : World => unix_any (n : Int) (by omega) (by omega) W
  have HU := Lib.hid hu
  clear hf hka hb0 hb1 hgp hwa hd hl hav h hwr hu
  go_enter Tryz.func146, Tryz.ntmps146
  go_upto_region 2 with fail
  rw [← H.out.2.2.2.2.1]
  go_upto_region 3 with (go_at_call 77; refine HF.out.mono ?_; rintro e w2 ⟨rfl, w1, k1, r1, rfl⟩)
  obtain ⟨ka, b0, b1, gp, _, hd⟩ := H.out
  have hks : Kept [w.heap.size + 1] w1 (w1.setCell ⟨w.heap.size + 1, 0, none⟩ (.int .i64 (n : Int))) := (Kept.refl _ w1).setCell (by simp) _
  have hr2 := r1.kept hks (fun p hp e => gp (w.heap.size + 1) (by omega) (by simp at e; rw [← e]; exact hp)) (by simp; omega)
  have hb2 : Blk (w1.setCell ⟨w.heap.size + 1, 0, none⟩ (.int .i64 (n : Int))) (w.heap.size + 1) #[.int .i64 (n : Int)] 2 := (b1.kept k1 (gp (w.heap.size + 1) (by omega))).setCell 0 _
  have hb3 : Blk (w1.setCell ⟨w.heap.size + 1, 0, none⟩ (.int .i64 (n : Int))) w.heap.size #[.int .u64 0, .int .i64 0, .pointer none] 99 := (b0.kept k1 (gp _ (Nat.le_refl _))).kept hks (by simp)
  have hk2 : Kept ps w (w1.setCell ⟨w.heap.size + 1, 0, none⟩ (.int .i64 (n : Int))) := ((ka.mono (by simp)).trans k1 (fun x hx => .inl hx)).trans hks (by simp)
  generalize w1.setCell ⟨w.heap.size + 1, 0, none⟩ (.int .i64 (n : Int)) = w3 at hr2 hb2 hb3 hk2 ⊢
  have c0 := hb2.cell0
  have HK := Lib.hid (And.intro hk2 (And.intro hr2 (And.intro hb3 (And.intro gp hd))))
  clear hk2 hr2 hb2 hb3 hks r1 k1 ka b0 b1 gp hd
  go_wp2_with (first
    | (go_at_call 41; refine (HU.out _).mono ?_; rintro e w4 ⟨rfl, k4⟩; have HB := Lib.hid (And.intro (HK.out.2.2.1.kept k4 (by simp)) k4); clear k4)
    | (refine wpList_store_row (P := Tryz.prog) rfl rfl 99 (.tmp 2) (.tmp 11) rfl w.heap.size rfl 99 _ [.int .u64 0, .int .i64 ((n : Int) + 62135596800), .pointer none] HB.out.1 rfl rfl (by simp [Value.oneCell']) (by kernel_rfl) ?_; intro w5 hb5 hk5; have HB5 := Lib.hid (And.intro hb5 hk5); clear hb5 hk5))
  have hk35 : Kept [w.heap.size] w3 w5 := (HB.out.2.mono (by simp)).trans HB5.out.2 (fun x hx => .inl hx)
  refine bodyPost_ret (v := .tuple #[timeV n, .nilIface]) (results_time rfl rfl HB5.out.1 rfl) rfl ⟨rfl, ?_, ?_⟩
  · exact HK.out.2.1.kept hk35 (fun p hp e => HK.out.2.2.2.1 _ (Nat.le_refl _) (by simp at e; rw [← e]; exact hp)) (by have := HK.out.2.2.2.2; simp; omega)
  · exact HK.out.1.trans hk35 (by simp)
set_option maxHeartbeats 1000000 in
set_option maxRecDepth 100000 in
theorem rdec (sc m : Nat) (hsc : sc < 256) (hm : m < 4294967296) {w : World} {r : Value} {ps : List Nat} {d : Nat} {Ns : List Nat} (rest : List UInt8) (h : Rd w r ps d Ns (Lib.beBytes 1 sc ++ (Lib.beBytes 4 m ++ rest))) (hl : rest.length ≤ 900000000) (hav : 5 ≤ avail Ns (Lib.beBytes 1 sc ++ (Lib.beBytes 4 m ++ rest))) (hd : d < w.heap.size) :
    Calls Tryz.prog 176 #[r] w fun e w' => e = .returned (.tuple #[.agg #[.int .u8 (sc : Int), .int .i32 (wrap32 (m : Int))], .nilIface]) ∧ Rd w' r ps d (Ns.map (· - 5)) rest ∧ Kept ps w w' := by
  have hka : Kept [] w (w.alloc (.cells #[.int .u8 0, .int .i32 0] 191)) := (Kept.refl [] w).alloc _
  have hb0 : Blk (w.alloc (.cells #[.int .u8 0, .int .i32 0] 191)) w.heap.size #[.int .u8 0, .int .i32 0] 191 := Blk.new w _ _
  have hgp : w.heap.size ∉ ps := fun hm => by have := h.mem_lt _ hm; omega
  have hgd : w.heap.size ≠ d := by omega
  have hbl := Lib.beBytes_length 1 sc
  have hbl4 := Lib.beBytes_length 4 m
  have hf := rfix_u8 (Lib.beBytes 1 sc) (Lib.beBytes 4 m ++ rest) hbl (h.kept hka (by simp) (by simp)) (by simp; omega) (by omega) (Nat.lt_of_lt_of_le hd hka.size) w.heap.size 0 _ (hb0.cell 0) (hb0.free 0) hgp hgd
  rw [be_one sc hsc] at hf
  have hav1 : 4 ≤ avail (Ns.map (· - 1)) (Lib.beBytes 4 m ++ rest) := by
    have := avail_map Ns (Lib.beBytes 1 sc) (Lib.beBytes 4 m ++ rest)
    rw [hbl] at this
    omega
  have HF := Lib.hid hf; have H := Lib.hid (And.intro hka (And.intro hb0 (And.intro hgp (And.intro hgd (And.intro hav1 (And.intro hl hd))))))
  clear hf hka hb0 hgp hgd hav1 hl hav h hbl hbl4 hd
  go_enter Tryz.func176, Tryz.ntmps176
  go_upto_region 2 with (go_at_call 77; refine HF.out.mono ?_; rintro e w2 ⟨rfl, w1, k1, r1, rfl⟩)
  obtain ⟨ka, b0, gp, gd, av, hl, hd⟩ := H.out
  have hks : Kept [w.heap.size] w1 (w1.setCell ⟨w.heap.size, 0, none⟩ (.int .u8 (sc : Int))) := (Kept.refl _ w1).setCell (by simp) _
  have hr2 := r1.kept hks (fun p hp e => gp (by simp at e; rw [← e]; exact hp)) (by simpa using Ne.symm gd)
  have hb2 : Blk (w1.setCell ⟨w.heap.size, 0, none⟩ (.int .u8 (sc : Int))) w.heap.size #[.int .u8 (sc : Int), .int .i32 0] 191 := (b0.kept k1 gp).setCell 0 _
  have hk2 : Kept ps w (w1.setCell ⟨w.heap.size, 0, none⟩ (.int .u8 (sc : Int))) := ((ka.mono (by simp)).trans k1 (fun x hx => .inl hx)).trans hks (by simp)
  generalize w1.setCell ⟨w.heap.size, 0, none⟩ (.int .u8 (sc : Int)) = w3 at hr2 hb2 hk2 ⊢
  have hg := rfix_i32 (Lib.beBytes 4 m) rest (Lib.beBytes_length 4 m) hr2 (by omega) av (Nat.lt_of_lt_of_le hd hk2.size) w.heap.size 1 _ (hb2.cell 1) (hb2.free 1) gp gd
  rw [be_four m hm, i32_same] at hg
  have HR := Lib.hid hg; have HK := Lib.hid (And.intro hk2 (And.intro hb2 (And.intro gp gd)))
  clear hg hk2 hr2 hb2 hks r1 k1 ka b0 gp gd av hl hd
  go_wp2_with (go_at_call 77; refine HR.out.mono ?_; rintro e w2 ⟨rfl, w4, k4, r4, rfl⟩; have H4 := Lib.hid (And.intro k4 r4); clear k4 r4)
  have hks : Kept [w.heap.size] w4 (w4.setCell ⟨w.heap.size, 1, none⟩ (.int .i32 (wrap32 (m : Int)))) := (Kept.refl _ w4).setCell (by simp) _
  have hb5 : Blk (w4.setCell ⟨w.heap.size, 1, none⟩ (.int .i32 (wrap32 (m : Int)))) w.heap.size #[.int .u8 (sc : Int), .int .i32 (wrap32 (m : Int))] 191 := (HK.out.2.1.kept H4.out.1 HK.out.2.2.1).setCell 1 _
  refine bodyPost_ret (v := .tuple #[.agg #[.int .u8 (sc : Int), .int .i32 (wrap32 (m : Int))], .nilIface]) (results_dec rfl rfl hb5 rfl) rfl ⟨rfl, ?_, ?_⟩
  · have := H4.out.2.kept hks (fun p hp e => HK.out.2.2.1 (by simp at e; rw [← e]; exact hp)) (by simpa using Ne.symm HK.out.2.2.2)
    rwa [map_sub_sub] at this
  · exact (HK.out.1.trans H4.out.1 (fun x hx => .inl hx)).trans hks (by simp)
end Go.Proofs.YtkcdakohmfodjaaGreat
namespace Go.Proofs.YtkcdakohmfodjaaGreat
open Go.RowKit
open Go.ChangeMaps (setBlock)
set_option linter.unusedVariables false
set_option linter.unusedSimpArgs false
/-- Block r ranges over the map in block b, which had n entries; those at the places 'is' have come. -/
def ItAt (w : World) (r b n : Nat) (is : List Nat) : Prop := w.heap[r]? = some (.mapIter (some b) n is.toArray n)
theorem ItAt.lt {w : World} {r b n : Nat} {is : List Nat} (h : ItAt w r b n is) : r < w.heap.size := (Array.getElem?_eq_some_iff.1 h).1
theorem ItAt.kept {S : List Nat} {w w' : World} {r b n : Nat} {is : List Nat} (h : ItAt w r b n is) (hk : Kept S w w') (hn : r ∉ S) : ItAt w' r b n is := hk.heap h hn
theorem mapEnts_born (es : List (Value × Value)) (i : Nat) : (mapEnts es i).map (·.born) = List.range' i es.length := by
  induction es generalizing i with
  | nil => rfl
  | cons e es ih => obtain ⟨k, v⟩ := e; simp [mapEnts, ih, List.range'_succ]
theorem mapEnts_mem {es : List (Value × Value)} {x : MapEntry} (h : x ∈ mapEnts es 0) : ∃ k v, x = ⟨k, v, x.born⟩ ∧ es[x.born]? = some (k, v) := by
  obtain ⟨j, hj⟩ := List.mem_iff_getElem?.1 h
  rw [mapEnts_get] at hj
  cases he : es[j]? with
  | none => rw [he] at hj; simp at hj
  | some e =>
    rw [he] at hj
    simp only [Option.map_some, Option.some.injEq, Nat.zero_add] at hj
    subst hj
    exact ⟨e.1, e.2, rfl, he⟩
theorem setBlock_iter_kept {w : World} {r : Nat} {o o' : Obj} (hb : w.heap[r]? = some o) : Kept [r] w (setBlock w r o') :=
  ⟨rfl, rfl, rfl, by simp [setBlock], fun k _ hn => by
    have hn' : r ≠ k := fun e => hn (by simp [e])
    simp [setBlock, Array.getElem?_setIfInBounds, hn']⟩
theorem setBlock_iter_same {w : World} {r : Nat} {o o' : Obj} (hb : w.heap[r]? = some o) : (setBlock w r o').heap[r]? = some o' := by
  have hlt : r < w.heap.size := (Array.getElem?_eq_some_iff.1 hb).1
  simp [setBlock, Array.getElem?_setIfInBounds, hlt]
section
variable {P : Program} {ops : Array Oper} {rest : List Oper} {o : Oper} {a : Act} {w : World} {Q : Exit → Act → World → Prop}
/-- 'range m'. -/
theorem wpList_range_map (hg : o.guard = none) (m : Operand) (t : TypeId) (hop : o.op = Op.range t m) (k e : TypeId) (ht : P.underlying t = some (.map k e)) (b : Nat) (es : List (Value × Value)) (hm : a.eval m = .map (some b)) (h : MapAt w b es)
    (hK : ∀ w', w' = w.alloc (.mapIter (some b) es.length #[] es.length) → wpList P ops Q rest (a.put o.dst (.pointer (some ⟨w.heap.size, 0, none⟩))) w') : wpList P ops Q (o :: rest) a w := by
  refine wpList_plain hg fun K' hK' => ?_
  unfold Oper.wp
  simp [execOp, hop, hm, run_range_map w t k e b _ _ ht h, Result.andThen]
  exact hK' _ _ (hK _ rfl)
theorem wpList_range_nil (hg : o.guard = none) (m : Operand) (t : TypeId) (hop : o.op = Op.range t m) (k e : TypeId) (ht : P.underlying t = some (.map k e)) (hm : a.eval m = .map none)
    (hK : ∀ w', w' = w.alloc (.mapIter none 0 #[] 0) → wpList P ops Q rest (a.put o.dst (.pointer (some ⟨w.heap.size, 0, none⟩))) w') : wpList P ops Q (o :: rest) a w := by
  refine wpList_plain hg fun K' hK' => ?_
  unfold Oper.wp
  simp [execOp, hop, hm, run_range_nilMap w t k e ht, Result.andThen]
  exact hK' _ _ (hK _ rfl)
/-- THE STEP. -/
theorem wpList_next_map (hg : o.guard = none) (it : Operand) (hop : o.op = Op.next it false) (r b : Nat) (es : List (Value × Value)) (is : List Nat) (hit : a.eval it = .pointer (some ⟨r, 0, none⟩)) (hi : ItAt w r b es.length is) (hm : MapAt w b es)
    (hDone : (∀ i, i < es.length → i ∈ is) → wpList P ops Q rest (a.put o.dst (.tuple #[.bool false])) w)
    (hMore : ∀ (i : Nat) (k v : Value) (w' : World), i ∉ is → es[i]? = some (k, v) → ItAt w' r b es.length (is ++ [i]) → Kept [r] w w' → w'.heap.size = w.heap.size →
      (Instr.entry (.pointer (some ⟨r, 0, none⟩))).run P w' = .ok (.tuple #[k, v]) w' → wpList P ops Q rest (a.put o.dst (.tuple #[.bool true, k, v])) w') :
    wpList P ops Q (o :: rest) a w := by
  refine wpList_plain hg fun K' hK' => ?_
  unfold Oper.wp
  have hborn : ∀ x ∈ (mapEnts es 0).toArray.toList, x.born < es.length := fun x hx => by
    obtain ⟨k, v, _, h2⟩ := mapEnts_mem (by simpa using hx)
    exact (List.getElem?_eq_some_iff.1 h2).1
  have hnd : (((mapEnts es 0).toArray.toList).map (·.born)).Nodup := by
    rw [show (mapEnts es 0).toArray.toList = mapEnts es 0 from rfl, mapEnts_born]
    exact List.nodup_range'
  rcases run_next_at (P := P) w o.type r b es.length es.length is.toArray _ _ hi hm hborn (Nat.le_refl _) with ⟨h0, hrun⟩ | ⟨e, he, w1, hw1, hrun⟩
  · simp [execOp, hop, hit, hrun, Result.andThen]
    refine hK' _ _ (hDone fun i hlt => ?_)
    apply Classical.byContradiction
    intro hn
    have hmem : (⟨es[i].1, es[i].2, i⟩ : MapEntry) ∈ leftOf (mapEnts es 0).toArray is.toArray := by
      unfold leftOf
      rw [Array.mem_filter]
      refine ⟨?_, by simpa using hn⟩
      have : (mapEnts es 0)[i]? = some ⟨es[i].1, es[i].2, i⟩ := by rw [mapEnts_get]; simp [hlt]
      simpa using List.mem_of_getElem? this
    have := Array.size_pos_of_mem hmem
    omega
  · have he2 := mem_left he
    obtain ⟨k, v, e1, e2⟩ := mapEnts_mem (by simpa using he2.1)
    have hi1 : ItAt w1 r b es.length is := by rcases hw1 with rfl | rfl <;> exact hi
    have hm1 : MapAt w1 b es := by rcases hw1 with rfl | rfl <;> exact hm
    have hk1 : Kept [r] w w1 := by rcases hw1 with rfl | rfl; exact Kept.refl _ _; exact (Kept.refl _ _).drew
    have hs1 : w1.heap.size = w.heap.size := by rcases hw1 with rfl | rfl <;> rfl
    have hrb : b ≠ r := fun e => by
      subst e
      have a1 : w.heap[b]? = _ := hi
      have a2 : w.heap[b]? = _ := hm
      rw [a1] at a2; cases a2
    have hpush : is.toArray.push e.born = (is ++ [e.born]).toArray := by simp
    have hit' : ItAt (setBlock w1 r (.mapIter (some b) es.length (is.toArray.push e.born) es.length)) r b es.length (is ++ [e.born]) := by
      unfold ItAt
      rw [setBlock_iter_same hi1, hpush]
    have hm' : MapAt (setBlock w1 r (.mapIter (some b) es.length (is.toArray.push e.born) es.length)) b es := hm1.kept (setBlock_iter_kept hi1) (by simpa using hrb)
    simp [execOp, hop, hit, hrun, Result.andThen]
    have hent := run_entry_at (P := P) _ r b es.length is.toArray _ es.length e (by rw [setBlock_iter_same hi1]) hm' he2.1 hnd
    have ek : e.key = k := by rw [e1]
    have ev : e.val = v := by rw [e1]
    rw [ek, ev] at hent ⊢
    rw [hpush] at hent hit'
    exact hK' _ _ (hMore e.born k v _ (by simpa using he2.2) e2 hit' (hk1.trans (setBlock_iter_kept hi1) (fun x hx => .inl hx)) (by simpa [setBlock] using hs1) hent)
end
end Go.Proofs.YtkcdakohmfodjaaGreat
