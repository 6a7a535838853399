/-
  Lemmas on the way to the statement of YtkcdakohmfodjaaGreatHeader, joined out of these texts: Rarr, Rtbl, Rdv, SortF. No condition.
-/
import Derived.Shelf.SlSortCmp.WholeK
import Derived.Test.YtkcdakohmfodjaaGreatNConv
import Derived.Test.YtkcdakohmfodjaaGreatNFrmOk
import Derived.Test.YtkcdakohmfodjaaGreatNHpl
import Derived.Test.YtkcdakohmfodjaaGreatNOwn
import Derived.Test.YtkcdakohmfodjaaGreatNRfv
namespace Go.Proofs.YtkcdakohmfodjaaGreat
open Go.RowKit
set_option linter.unusedVariables false
set_option linter.unusedSimpArgs false
/-- The package's reading of an array. -/
def RdLC (l : List Val) : Prop := ∀ (d : Nat) (dep : Int) (w : World) (r : Value) (ps : List Nat) (db : Nat) (Ns : List Nat) (rest : List UInt8), WfL l → OkL l d → costL l ≤ 2000 → 0 ≤ dep → dep + d ≤ 30 →
  Rd w r ps db Ns (Lib.beBytes 4 (encL l).length ++ (encL l ++ rest)) → (encL l).length + rest.length + 4 ≤ 900000000 → 4 + (encL l).length ≤ avail Ns (Lib.beBytes 4 (encL l).length ++ (encL l ++ rest)) → db < w.heap.size →
  Calls Tryz.prog 177 #[r, .int .i64 dep] w fun e w' => ∃ out, e = .returned (.tuple #[out, .nilIface]) ∧ OwnE 20 1 PVc w.heap.size w' out l ∧ Rd w' r ps db (Ns.map (· - (4 + (encL l).length))) rest ∧ Kept ps w w'
theorem costL_len (l : List Val) : l.length ≤ costL l := by
  induction l with
  | nil => simp [costL]
  | cons x l ih => cases x; unfold costL costV; simp only [List.length_cons]; omega
theorem WfL.get' (l : List Val) (h : WfL l) (k : Nat) (v : Val) (hk : l[k]? = some v) : WfV v := by
  induction l generalizing k with
  | nil => simp at hk
  | cons x l ih =>
    unfold WfL at h
    cases k with
    | zero => simp only [List.getElem?_cons_zero, Option.some.injEq] at hk; subst hk; exact h.1
    | succ k => exact ih h.2 k (by simpa using hk)
theorem Rd.face {w : World} {r : Value} {ps : List Nat} {d : Nat} {Ns : List Nat} {l : List UInt8} (h : Rd w r ps d Ns l) : ∃ t a, r = .iface t (.pointer (some a)) := by
  cases h with
  | buf b d l _ _ => exact ⟨_, _, rfl⟩
  | lim R ps d Ns l q N _ _ _ _ _ => exact ⟨_, _, rfl⟩
/-- The reader is told by its own variables and the number of its limits. -/
theorem Rd.same {w w' : World} {r r' : Value} {ps : List Nat} {d d' : Nat} {Ns Ns' : List Nat} {l l' : List UInt8} (h : Rd w r ps d Ns l) (h' : Rd w' r' ps d' Ns' l') (hn : Ns.length = Ns'.length) : r = r' := by
  cases h with
  | buf b d l _ _ =>
    cases h' with
    | buf b d l _ _ => rfl
    | lim R ps d Ns l q N _ _ _ _ _ => simp at hn
  | lim R ps d Ns l q N _ _ _ _ _ =>
    cases h' with
    | buf b d l _ _ => simp at hn
    | lim R ps d Ns l q N _ _ _ _ _ => rfl
theorem Rd.under {w : World} {r : Value} {q : Nat} {ps : List Nat} {d N : Nat} {Ns : List Nat} {l : List UInt8} (h : Rd w r (q :: ps) d (N :: Ns) l) : ∃ R, Rd w R ps d Ns l := by
  cases h with
  | lim R ps d Ns l q N h _ _ _ _ => exact ⟨R, h⟩
theorem OwnE.base {α : Type} {T : TypeId} {n : Nat} {R : (Nat → Prop) → World → List Value → α → Prop} {base base' : Nat} {w : World} {out : Value} {xs : List α} (h : OwnE T n R base w out xs) (hR : Bears n R) (hb : base' ≤ base) : OwnE T n R base' w out xs := by
  obtain ⟨cells, h1, h2, h3⟩ := h
  exact ⟨cells, h1, h2.imp fun cs x hx => hR.mono hx (fun b hb' _ => ⟨Nat.le_trans hb hb'.1, hb'.2⟩), fun g hg => Nat.le_trans hb (h3 g hg)⟩
def outLen : Value → Nat
  | .slice _ n _ => n
  | _ => 0
theorem eof_eq (w : World) : (binOp .eql 67 EOFV (.iface 194 (.string ⟨#[69, 79, 70]⟩))).run Tryz.prog w = .ok (.bool true) w := by kernel_rfl
theorem any_info : (Tryz.prog.info? 20).map (fun i => (i.zero.map (·.cells.size), i.size, i.bytes)) = some (some 1, 1, 16) := by kernel_rfl
set_option maxHeartbeats 300000 in
set_option maxRecDepth 100000 in
theorem rarr_of (l : List Val) (hv : ∀ x, x ∈ l → RdVC x) : RdLC l := by
  intro d dep w r ps db Ns rest hwf hok hcost hd0 hd1 hr hlen hav hdb
  obtain ⟨rt, ra, rfl⟩ := hr.face
  have hel := encL_len l
  have hbl4 := Lib.beBytes_length 4 (encL l).length
  have hgp : ∀ b, w.heap.size ≤ b → b ∉ ps := fun b hb hm => by have := hr.mem_lt _ hm; omega
  have hka : Kept [] w (w.alloc (.cells #[.int .u32 0] 70)) := (Kept.refl [] w).alloc _
  have hb0 : Blk (w.alloc (.cells #[.int .u32 0] 70)) w.heap.size #[.int .u32 0] 70 := Blk.new w _ _
  have hf := rfix_u32 (Lib.beBytes 4 (encL l).length) (encL l ++ rest) hbl4 (hr.kept hka (by simp) (by simp)) (by simp only [List.length_append]; omega) (by omega) (Nat.lt_of_lt_of_le hdb hka.size) w.heap.size 0 _ hb0.cell0 (hb0.free 0) (hgp _ (Nat.le_refl _)) (by omega)
  rw [be_four (encL l).length (by omega)] at hf
  have hav2 : (encL l).length ≤ avail (Ns.map (· - 4)) (encL l ++ rest) := by
    have : avail (Ns.map (· - (Lib.beBytes 4 (encL l).length).length)) (encL l ++ rest) = avail Ns (Lib.beBytes 4 (encL l).length ++ (encL l ++ rest)) - (Lib.beBytes 4 (encL l).length).length := avail_map _ _ _
    rw [hbl4] at this
    omega
  have HF := Lib.hid hf
  have H := Lib.hid (And.intro hwf (And.intro hok (And.intro hcost (And.intro hel (And.intro hlen (And.intro hgp (And.intro hka (And.intro hb0 (And.intro hv (And.intro hdb hav2))))))))))
  have hdep : ¬ (32 : Int) < dep := by omega
  have hbig : ¬ (2147483647 : Int) < ((encL l).length : Int) := by omega
  have hcv : IntKind.i64.wrap (((encL l).length : Nat) : Int) = ((encL l).length : Int) := by rw [IntKind.wrap_i64]; omega
  clear hf hwf hok hcost hel hlen hgp hka hb0 hv hdb hbl4 hr hav hav2
  go_enter Tryz.func177, Tryz.ntmps177
  go_wp2_with (go_at_call 77; refine HF.out.mono ?_; rintro e w2 ⟨rfl, w3, k3, r3, hw2⟩; have hks : Kept [w.heap.size] w3 w2 := by { rw [hw2]; exact (Kept.refl _ w3).setCell (by simp) _ }; have hb5 : Blk w2 w.heap.size #[.int .u32 ((encL l).length : Int)] 70 := by { rw [hw2]; exact (H.out.2.2.2.2.2.2.2.1.kept k3 (H.out.2.2.2.2.2.1 _ (Nat.le_refl _))).setCell 0 _ }; have c5 := hb5.cell0; have hb5lt := Lib.hid hb5.lt; have H2 := Lib.hid (And.intro (r3.kept hks (fun p hp e => H.out.2.2.2.2.2.1 _ (Nat.le_refl _) (by simp at e; rw [← e]; exact hp)) (by simp; have := H.out.2.2.2.2.2.2.2.2.2.1; omega)) (((H.out.2.2.2.2.2.2.1.mono (by simp)).trans k3 (fun x hx => .inl hx)).trans hks (by simp))); clear hks hb5 r3 k3 hw2)
  generalize hlr : w2.heap.size = lr at *
  obtain ⟨W1, hW1⟩ : ∃ W1, W1 = w2.alloc (.cells #[.iface rt (.pointer (some ra)), .int .i64 ((encL l).length : Int)] 368) := ⟨_, rfl⟩
  rw [← hW1]
  have hk21 : Kept [] w2 W1 := by rw [hW1]; exact (Kept.refl [] w2).alloc _
  have hbq : Blk W1 lr #[.iface rt (.pointer (some ra)), .int .i64 ((encL l).length : Int)] 368 := by rw [hW1, ← hlr]; exact Blk.new w2 _ _
  have hz1 : W1.heap.size = lr + 1 := by rw [hW1]; simp [hlr]
  have hlw : w.heap.size < lr := by have := H2.out.2.size; have h1 := hb5lt.out; omega
  have hrd1 : Rd W1 (.iface 366 (.pointer (some ⟨lr, 0, none⟩))) (lr :: ps) db ((encL l).length :: Ns.map (· - 4)) (encL l ++ rest) :=
    .lim _ _ _ _ _ _ _ (H2.out.1.kept hk21 (by simp) (by simp)) (H.out.2.2.2.2.2.1 _ (by omega)) (by have := H.out.2.2.2.2.2.2.2.2.2.1; omega) hbq H.out.2.2.2.2.2.2.2.2.2.2
  obtain ⟨i, z, i1, i2, i3, i4, i5⟩ := info_own any_info
  have HI := Lib.hid (And.intro i1 (And.intro i2 (And.intro i3 (And.intro i4 i5))))
  have HH := Lib.hid (And.intro hk21 (And.intro hz1 hlw))
  clear hk21 hbq hz1 hlw hW1 i1 i2 i3 i4 i5
  go_loopw [4] (fun out W => ∃ m : Nat, m ≤ l.length ∧ outLen out = m ∧ Hid (Rd W (.iface 366 (.pointer (some ⟨lr, 0, none⟩))) (lr :: ps) db (((encL l).length :: Ns.map (· - 4)).map (· - (encL (l.take m)).length)) (encL (l.drop m) ++ rest) ∧
    OwnE 20 1 PVc (lr + 1) W out (l.take m) ∧ Kept (lr :: ps) W1 W)) (fun out _ => l.length - outLen out)
  case atStart => exact ⟨0, Nat.zero_le _, rfl, Lib.hid ⟨by rw [List.take_zero, List.drop_zero]; simp only [encL, List.length_nil, map_sub_zero]; exact hrd1, by rw [List.take_zero]; exact OwnE.nil _ _ _ _ _, Kept.refl _ _⟩⟩
  case round =>
    obtain ⟨m, hml, hol, HR⟩ := hrel
    have hsum : (encL l).length = (encL (l.take m)).length + (encL (l.drop m)).length := by
      have := encL_append (l.take m) (l.drop m)
      rw [List.take_append_drop] at this
      rw [this, List.length_append]
    have hwr : lr + 1 ≤ wr.heap.size := by have := HR.out.2.2.size; have := HH.out.2.1; omega
    by_cases hlt : m < l.length
    · obtain ⟨v, hx⟩ : ∃ v, l[m]? = some v := ⟨l[m], List.getElem?_eq_getElem hlt⟩
      have hdrop : l.drop m = v :: l.drop (m + 1) := by
        rw [List.getElem?_eq_getElem hlt, Option.some.injEq] at hx
        rw [← hx]; exact List.drop_eq_getElem_cons hlt
      have hrd := HR.out.1
      rw [hdrop] at hrd hsum
      simp only [encL, List.append_assoc, List.length_append] at hrd hsum
      have hll := H.out.2.2.2.2.1
      have hvc := H.out.2.2.2.2.2.2.2.2.1 v (List.mem_of_getElem? hx) d dep wr _ _ db _ _ (WfL.get' l H.out.1 m v hx) (OkL.get l d H.out.2.1 m v hx) (by have := costL_get l m v hx; have := H.out.2.2.1; omega) hd0 hd1 hrd (by simp only [List.length_append]; omega) (by simp only [List.map_cons, avail]; omega) (by have := H.out.2.2.2.2.2.2.2.2.2.1; have := HH.out.2.2; omega)
      obtain ⟨cells, o1, o2, o3⟩ := HR.out.2.1
      obtain ⟨ao, oc, rfl, hoc, hoo⟩ := own_slice o1
      have hmm : (l.take m).length = m := by rw [List.length_take]; omega
      have hes : ¬ (8192 : Int) ≤ (m : Int) := by have := costL_len l; have := H.out.2.2.1; omega
      have HV := Lib.hid hvc; have HX := Lib.hid (And.intro hx (And.intro o1 (And.intro o2 (And.intro o3 (And.intro hsum hwr)))))
      clear hvc hx o1 o2 o3 hsum hwr hrd hll hdrop hoc hoo
      rw [hmm]
      go_upto_region 17 with (go_at_call 165; refine HV.out.mono ?_; rintro e w6 ⟨x, rfl, p6, r6, k6⟩; have H6 := Lib.hid (And.intro p6 (And.intro r6 k6)); clear p6 r6 k6)
      obtain ⟨wa, hwa⟩ : ∃ wa, wa = w6.alloc (.cells #[x] 20) := ⟨_, rfl⟩
      have hk6a : Kept [] w6 wa := by rw [hwa]; exact (Kept.refl [] w6).alloc _
      have hca : wa.cell? ⟨w6.heap.size, 0, none⟩ = some x := by rw [hwa]; exact (Blk.new w6 #[x] _).cell0
      have hkp : Kept (lr :: ps) wr wa := H6.out.2.2.trans hk6a (by simp)
      have hpl : ∀ b, lr + 1 ≤ b → b ∉ lr :: ps := fun b hb hm => by
        rcases List.mem_cons.1 hm with rfl | hm
        · omega
        · exact H.out.2.2.2.2.2.1 b (by have := HH.out.2.2; omega) hm
      obtain ⟨n1, n2⟩ := own_move bears_pv HX.out.2.1 HX.out.2.2.1 HX.out.2.2.2.1 hpl hkp
      have hol' : ∀ g, Value.ownBlock (.slice ao (l.take m).length oc) = some g → g < wr.heap.size := fun g hg => own_lt HX.out.2.1 hg
      have hsx := H6.out.2.2.size
      have hpx : PVc (fun b => lr + 1 ≤ b ∧ Value.ownBlock (.slice ao (l.take m).length oc) ≠ some b) wa [x] v := ⟨x, rfl, PV.kept hk6a (by simp) v (PV.mono (fun b hb _ => ⟨by have := HX.out.2.2.2.2.2; omega, fun e => by have := hol' b e; omega⟩) v H6.out.1)⟩
      have HA := Lib.hid (And.intro n1 (And.intro n2 (And.intro hpx (And.intro hca (And.intro hkp hk6a)))))
      clear n1 n2 hpx hca hkp hk6a hpl hol' hsx
      rw [hmm] at HA
      rcases H6.out.1.face with rfl | ⟨xt, xv, rfl⟩
      · subst hwa
        go_wp2_with (at_builtin; refine wpList_append2 _ rfl _ _ 192 192 rfl 20 20 Tryz.underlying192 i z 1 16 Tryz.underlying192 HI.out.1 HI.out.2.1 HI.out.2.2.1 HI.out.2.2.2.1 HI.out.2.2.2.2 (by decide) (.slice ao m oc) m cells rfl HA.out.1 ⟨w6.heap.size, 0, none⟩ 1 1 [.nilIface] rfl rfl (fun j u hj => by cases j with | zero => simp at hj; subst hj; exact HA.out.2.2.2.1 | succ j => simp at hj) (fun u hu => by simp at hu; subst hu; rfl) (by omega) (by omega) ?_; intro v' w8 g1 g2 g3; have H8 := Lib.hid (And.intro g1 (And.intro g2 g3)); clear g1 g2 g3)
        have hmm2 : (l.take m).length = m := by rw [List.length_take]; omega
        have hob : ∀ g, Value.ownBlock (.slice ao m oc) = some g → lr + 1 ≤ g := by have := HX.out.2.2.2.1; rw [hmm2] at this; exact this
        have hsz : lr + 1 ≤ (w6.alloc (.cells #[.nilIface] 20)).heap.size := by have := H6.out.2.2.size; have := HX.out.2.2.2.2.2; simp; omega
        obtain ⟨p1, p2⟩ := OwnE.push (x := v) (xs := l.take m) bears_pv HA.out.2.1 hob hsz HA.out.2.2.1 (by rw [hmm2]; exact H8.out.1) H8.out.2.1 H8.out.2.2
        obtain ⟨ao', oc', hv', _, _⟩ := own_slice H8.out.1
        have e1 : l.take (m + 1) = l.take m ++ [v] := by rw [List.take_add_one, HX.out.1]; rfl
        have e2 : (encL (l.take (m + 1))).length = (encL (l.take m)).length + (encV v).length := by rw [e1, encL_append, List.length_append]; simp [encL]
        have hS : ∀ b, b < lr + 1 → b ∉ (Value.ownBlock (.slice ao m oc)).toList := fun b hb hm => by have := hob b (by simpa using hm); omega
        have hP := Lib.hid (And.intro p1 (And.intro p2 (And.intro hv' (And.intro e1 (And.intro e2 hS)))))
        clear p1 p2 hv' e1 e2 hS
        go_roundw
        case rel =>
          refine ⟨m + 1, hlt, by rw [hP.out.2.2.1]; rfl, Lib.hid ⟨?_, by rw [hP.out.2.2.2.1]; exact hP.out.1, (HR.out.2.2.trans HA.out.2.2.2.2.1 (fun x hx => .inl hx)).trans hP.out.2.1 (fun x hx => .inr (by have := hob x (by simpa using hx); have := HH.out.2.1; omega))⟩⟩
          have hr8 := (H6.out.2.1.kept HA.out.2.2.2.2.2 (by simp) (by simp)).kept hP.out.2.1 (fun p hp => hP.out.2.2.2.2.2 p (by rcases List.mem_cons.1 hp with rfl | hp; omega; have := H2.out.1.mem_lt p hp; omega)) (hP.out.2.2.2.2.2 db (by have := H.out.2.2.2.2.2.2.2.2.2.1; have := HH.out.2.2; omega))
          rw [map_sub_sub] at hr8
          rw [hP.out.2.2.2.2.1]
          exact hr8
        case measure => rw [hP.out.2.2.1]; simp [outLen]; omega
      · subst hwa
        go_wp2_with (at_builtin; refine wpList_append2 _ rfl _ _ 192 192 rfl 20 20 Tryz.underlying192 i z 1 16 Tryz.underlying192 HI.out.1 HI.out.2.1 HI.out.2.2.1 HI.out.2.2.2.1 HI.out.2.2.2.2 (by decide) (.slice ao m oc) m cells rfl HA.out.1 ⟨w6.heap.size, 0, none⟩ 1 1 [.iface xt xv] rfl rfl (fun j u hj => by cases j with | zero => simp at hj; subst hj; exact HA.out.2.2.2.1 | succ j => simp at hj) (fun u hu => by simp at hu; subst hu; rfl) (by omega) (by omega) ?_; intro v' w8 g1 g2 g3; have H8 := Lib.hid (And.intro g1 (And.intro g2 g3)); clear g1 g2 g3)
        have hmm2 : (l.take m).length = m := by rw [List.length_take]; omega
        have hob : ∀ g, Value.ownBlock (.slice ao m oc) = some g → lr + 1 ≤ g := by have := HX.out.2.2.2.1; rw [hmm2] at this; exact this
        have hsz : lr + 1 ≤ (w6.alloc (.cells #[.iface xt xv] 20)).heap.size := by have := H6.out.2.2.size; have := HX.out.2.2.2.2.2; simp; omega
        obtain ⟨p1, p2⟩ := OwnE.push (x := v) (xs := l.take m) bears_pv HA.out.2.1 hob hsz HA.out.2.2.1 (by rw [hmm2]; exact H8.out.1) H8.out.2.1 H8.out.2.2
        obtain ⟨ao', oc', hv', _, _⟩ := own_slice H8.out.1
        have e1 : l.take (m + 1) = l.take m ++ [v] := by rw [List.take_add_one, HX.out.1]; rfl
        have e2 : (encL (l.take (m + 1))).length = (encL (l.take m)).length + (encV v).length := by rw [e1, encL_append, List.length_append]; simp [encL]
        have hS : ∀ b, b < lr + 1 → b ∉ (Value.ownBlock (.slice ao m oc)).toList := fun b hb hm => by have := hob b (by simpa using hm); omega
        have hP := Lib.hid (And.intro p1 (And.intro p2 (And.intro hv' (And.intro e1 (And.intro e2 hS)))))
        clear p1 p2 hv' e1 e2 hS
        go_roundw
        case rel =>
          refine ⟨m + 1, hlt, by rw [hP.out.2.2.1]; rfl, Lib.hid ⟨?_, by rw [hP.out.2.2.2.1]; exact hP.out.1, (HR.out.2.2.trans HA.out.2.2.2.2.1 (fun x hx => .inl hx)).trans hP.out.2.1 (fun x hx => .inr (by have := hob x (by simpa using hx); have := HH.out.2.1; omega))⟩⟩
          have hr8 := (H6.out.2.1.kept HA.out.2.2.2.2.2 (by simp) (by simp)).kept hP.out.2.1 (fun p hp => hP.out.2.2.2.2.2 p (by rcases List.mem_cons.1 hp with rfl | hp; omega; have := H2.out.1.mem_lt p hp; omega)) (hP.out.2.2.2.2.2 db (by have := H.out.2.2.2.2.2.2.2.2.2.1; have := HH.out.2.2; omega))
          rw [map_sub_sub] at hr8
          rw [hP.out.2.2.2.2.1]
          exact hr8
        case measure => rw [hP.out.2.2.1]; simp [outLen]; omega
    · have hfin : m = l.length := by omega
      have hrd := HR.out.1
      rw [hfin, List.take_length, List.drop_length] at hrd
      rw [show encL ([] : List Val) = [] from rfl, List.nil_append] at hrd
      have hre := rfv_end dep rest hrd (by have := H.out.2.2.2.2.1; omega) (by simp [avail]) (by have := H.out.2.2.2.2.2.2.2.2.2.1; have := HH.out.2.2; omega)
      have heof := eof_eq
      have HE := Lib.hid hre; have HM := Lib.hid hfin; have HD := Lib.hid hrd; clear hre hfin hrd hsum hwr hlt
      go_wp2_with (go_at_call 165; refine HE.out.mono ?_; rintro e w6 ⟨rfl, k6⟩; have K6 := Lib.hid k6; clear k6)
      go_ret2
      obtain ⟨R, hR⟩ := HD.out.under
      have hfin := HM.out
      have hRr : R = .iface rt (.pointer (some ra)) := hR.same H2.out.1 (by simp)
      subst hRr
      have hkk : Kept (lr :: ps) w2 w6 := ((HH.out.1.mono (by simp)).trans HR.out.2.2 (fun x hx => .inl hx)).trans K6.out (by simp)
      refine ⟨_, rfl, ?_, ?_, H2.out.2.trans hkk (fun x hx => by rcases List.mem_cons.1 hx with rfl | hx; exact .inr (by have := HH.out.2.2; omega); exact .inl hx)⟩
      · have := (HR.out.2.1.kept bears_pv K6.out (by simp)).base bears_pv (base' := w.heap.size) (by have := HH.out.2.2; omega)
        rwa [hfin, List.take_length] at this
      · have := hR.kept K6.out (by simp) (by simp)
        rwa [map_sub_sub] at this
theorem rtable_of (fs : List Fld) (hc : RdFC fs) (p : Option (List UInt8)) (d : Nat) (w : World) (r : Value) (ps : List Nat) (db : Nat) (Ns : List Nat) (rest : List UInt8) (hwf : WfFs fs) (hok : OkFs fs p d) (hcost : costFs fs ≤ 2000) (hd : d ≤ 30)
    (hr : Rd w r ps db Ns (encT fs ++ rest)) (hl : (encT fs ++ rest).length ≤ 900000000) (hav : (encT fs).length ≤ avail Ns (encT fs ++ rest)) (hdb : db < w.heap.size) :
    Calls Tryz.prog 145 #[r] w fun e w' => ∃ b es, e = .returned (.tuple #[.map (some b), .nilIface]) ∧ w.heap.size ≤ b ∧ MapAt w' b es ∧ PF (fun b => w.heap.size ≤ b) w' es fs ∧ Rd w' r ps db (Ns.map (· - (encT fs).length)) rest ∧ Kept ps w w' := by
  have h := hc p d 0 w r ps db Ns rest hwf hok hcost (by omega) (by omega) hr hl hav hdb
  have HC := Lib.hid h
  clear h hc hwf hok hcost hd hr hl hav hdb
  go_enter Tryz.func145, Tryz.ntmps145
  go_wp2_with (go_at_call 158; refine HC.out.mono ?_; rintro e w2 ⟨b, es, rfl, q⟩; have HQ := Lib.hid q; clear q)
  go_ret2
  exact ⟨b, es, rfl, HQ.out⟩
theorem le_mod : ∀ (k v : Nat), Lib.leBytes k (v % 256 ^ k) = Lib.leBytes k v
  | 0, v => rfl
  | k + 1, v => by
    unfold Lib.leBytes
    have h1 : v % 256 ^ (k + 1) % 256 = v % 256 := by rw [Nat.pow_succ]; exact Nat.mod_mod_of_dvd v ⟨256 ^ k, by rw [Nat.mul_comm]⟩
    have h2 : v % 256 ^ (k + 1) / 256 = v / 256 % 256 ^ k := by rw [Nat.pow_succ, Nat.mul_comm]; exact Nat.mod_mul_right_div_self v 256 (256 ^ k)
    rw [h1, h2, le_mod k]
theorem be_cut (k v : Nat) : Lib.beBytes k (v % 256 ^ k) = Lib.beBytes k v := by unfold Lib.beBytes; rw [le_mod]
theorem be_mod (k v : Nat) : Lib.beNat (Lib.beBytes k v) = v % 256 ^ k := by
  rw [← be_cut]; exact Lib.beNat_beBytes k _ (Nat.mod_lt _ (Nat.pow_pos (by decide)))
theorem be_cut4 (v : Nat) : Lib.beBytes 4 (v % 4294967296) = Lib.beBytes 4 v := by have := be_cut 4 v; simpa using this
theorem be_single (v : Nat) : Lib.beBytes 1 v = [(v % 256).toUInt8] := rfl
theorem u64_int (n : Int) : (u64 n : Int) = n % 18446744073709551616 := by unfold u64; omega
theorem wrap_i8' (n : Int) : IntKind.i8.wrap n = (n + 128) % 256 - 128 := by simp [IntKind.wrap, IntKind.bits, IntKind.signed]; split <;> omega
theorem wrap_i16' (n : Int) : IntKind.i16.wrap n = (n + 32768) % 65536 - 32768 := by simp [IntKind.wrap, IntKind.bits, IntKind.signed]; split <;> omega
theorem w32_u64 (n : Int) (h0 : -2147483648 ≤ n) (h1 : n ≤ 2147483647) : wrap32 ((u64 n % 4294967296 : Nat) : Int) = n := by have hu := u64_int n; unfold wrap32; omega
theorem w8_u64 (n : Int) (h0 : -128 ≤ n) (h1 : n ≤ 127) : IntKind.i8.wrap ((Lib.beNat (Lib.beBytes 1 (u64 n)) : Nat) : Int) = n := by have hu := u64_int n; rw [wrap_i8', be_mod]; omega
theorem w16_u64 (n : Int) (h0 : -32768 ≤ n) (h1 : n ≤ 32767) : IntKind.i16.wrap ((Lib.beNat (Lib.beBytes 2 (u64 n)) : Nat) : Int) = n := by have hu := u64_int n; rw [wrap_i16', be_mod]; omega
theorem w32_be (n : Int) (h0 : -2147483648 ≤ n) (h1 : n ≤ 2147483647) : wrap32 ((Lib.beNat (Lib.beBytes 4 (u64 n)) : Nat) : Int) = n := by have hu := u64_int n; unfold wrap32; rw [be_mod]; omega
theorem w64_be (n : Int) (h0 : -9223372036854775808 ≤ n) (h1 : n ≤ 9223372036854775807) : wrap64 ((Lib.beNat (Lib.beBytes 8 (u64 n)) : Nat) : Int) = n := by have hu := u64_int n; unfold wrap64; rw [be_mod]; omega
theorem u64_pos (n : Int) (h0 : 0 ≤ n) (h1 : n < 18446744073709551616) : ((u64 n : Nat) : Int) = n := by have hu := u64_int n; omega
theorem u64_u8 (n : Int) (h0 : 0 ≤ n) (h1 : n ≤ 255) : ((u64 n % 256 : Nat) : Int) = n := by have hu := u64_int n; omega
theorem inBits_98 {n : Int} (h : inBits 98 n = true) : -128 ≤ n ∧ n ≤ 127 := by unfold inBits bitsOf at h; simp at h; omega
theorem inBits_115 {n : Int} (h : inBits 115 n = true) : -32768 ≤ n ∧ n ≤ 32767 := by unfold inBits bitsOf at h; simp at h; omega
theorem inBits_73 {n : Int} (h : inBits 73 n = true) : -2147483648 ≤ n ∧ n ≤ 2147483647 := by unfold inBits bitsOf at h; simp at h; omega
theorem inBits_68 {n : Int} (h : inBits 68 n = true) : -2147483648 ≤ n ∧ n ≤ 2147483647 := by unfold inBits bitsOf at h; simp at h; omega
/-- An own slice of the package's values, as the value of an array. -/
theorem pv_arr {base : Nat} {w : World} {x : Value} {n : Int} {f : Nat} {sc : Int} {text : List UInt8} {kids : List Val} {flds : List Fld} (h : OwnE 20 1 PVc base w x kids) : PV (fun b => base ≤ b) w (.iface 192 x) (.mk 65 n f sc text kids flds) := by
  obtain ⟨cells, o1, o2, o3⟩ := h
  obtain ⟨ao, c, rfl, hc, hh⟩ := own_slice o1
  unfold PV
  rw [if_pos rfl]
  refine ⟨ao, c, rfl, hc, fun hne => ?_⟩
  rcases hh with ⟨h0, _⟩ | ⟨g, rfl, hg, hcell⟩
  · exact absurd (List.eq_nil_of_length_eq_zero h0) hne
  · exact ⟨g, rfl, o3 g hg, own_lt o1 hg, pl_of kids 0 cells (o2.imp fun cs x hx => bears_pv.mono hx fun b hb _ => hb.1) hcell⟩
theorem pv_tab {base b : Nat} {w : World} {es : List (Value × Value)} {n : Int} {f : Nat} {sc : Int} {text : List UInt8} {kids : List Val} {flds : List Fld} (hb : base ≤ b) (hm : MapAt w b es) (h : PF (fun b => base ≤ b) w es flds) : PV (fun b => base ≤ b) w (.iface 96 (.map (some b))) (.mk 70 n f sc text kids flds) := by
  unfold PV
  rw [if_neg (by decide), if_pos rfl]
  exact ⟨b, es, rfl, hb, hm, h⟩
theorem pv_leaf {B : Nat → Prop} {w : World} {x : Value} {k : UInt8} {n : Int} {f : Nat} {sc : Int} {text : List UInt8} {kids : List Val} {flds : List Fld} (h1 : k ≠ 65) (h2 : k ≠ 70) (h : leafV B w k n f sc text x) : PV B w x (.mk k n f sc text kids flds) := by
  unfold PV
  rw [if_neg h1, if_neg h2]
  exact h
set_option maxHeartbeats 2000000 in
theorem rdv_of (k : UInt8) (n : Int) (f : Nat) (sc : Int) (text : List UInt8) (kids : List Val) (flds : List Fld) (hk : ∀ v, v ∈ kids → RdVC v) (hf : ∀ x, x ∈ flds → RdVC x.val) : RdVC (.mk k n f sc text kids flds) := by
  intro d dep w r ps db Ns rest hwf hok hcost h0 h1 hr hl hav hdb
  unfold WfV at hwf
  obtain ⟨t1, t2, t3, wfk, wff, n1, n2, f1⟩ := hwf
  unfold OkV at hok
  obtain ⟨hd, hb, hok⟩ := hok
  unfold costV at hcost
  by_cases c1 : k = 65
  · subst c1
    rw [if_pos rfl] at hok hcost
    have he : encV (.mk 65 n f sc text kids flds) = 65 :: (Lib.beBytes 4 (encL kids).length ++ encL kids) := by simp [encV]
    have hen : (encV (.mk 65 n f sc text kids flds)).length = 1 + (4 + (encL kids).length) := by rw [he, List.length_cons, List.length_append, Lib.beBytes_length]; omega
    rw [hen] at hav ⊢
    rw [he, List.cons_append, List.append_assoc] at hr hl hav
    simp only [List.length_cons, List.length_append, Lib.beBytes_length] at hl
    have ha := avail_map Ns [65] (Lib.beBytes 4 (encL kids).length ++ (encL kids ++ rest))
    simp only [List.cons_append, List.nil_append, List.length_cons, List.length_nil, Nat.zero_add] at ha
    refine (rfv_65 dep h0 (by omega) _ hr (by simp only [List.length_append, Lib.beBytes_length]; omega) (by omega) hdb (fun x w' => OwnE 20 1 PVc w.heap.size w' x kids ∧ Rd w' r ps db (Ns.map (· - (1 + (4 + (encL kids).length)))) rest ∧ Kept ps w w') ?_).mono ?_
    · intro W hkW hrW
      refine (rarr_of kids hk (d - 1) (dep + 1) W r ps db _ rest wfk hok (by omega) (by omega) (by omega) hrW (by omega) (by omega) (Nat.lt_of_lt_of_le hdb hkW.size)).mono ?_
      rintro e w' ⟨out, rfl, a1, a2, a3⟩
      refine ⟨out, rfl, a1.base bears_pv hkW.size, ?_, hkW.trans a3 (fun x hx => .inl hx)⟩
      rw [map_sub_sub] at a2
      exact a2
    · rintro e w' ⟨x, rfl, a1, a2, a3⟩
      exact ⟨_, rfl, pv_arr a1, a2, a3⟩
  rw [if_neg c1] at hok hcost
  by_cases c2 : k = 70
  · subst c2
    rw [if_pos rfl] at hok hcost
    have he : encV (.mk 70 n f sc text kids flds) = 70 :: encT flds := by simp [encV, encT]
    have hen : (encV (.mk 70 n f sc text kids flds)).length = 1 + (encT flds).length := by rw [he, List.length_cons]; omega
    rw [hen] at hav ⊢
    rw [he, List.cons_append] at hr hl hav
    simp only [List.length_cons] at hl
    have ha := avail_map Ns [70] (encT flds ++ rest)
    simp only [List.cons_append, List.nil_append, List.length_cons, List.length_nil, Nat.zero_add] at ha
    refine (rfv_70 dep h0 (by omega) _ hr (by omega) (by omega) hdb (fun x w' => PV (fun b => w.heap.size ≤ b) w' (.iface 96 x) (.mk 70 n f sc text kids flds) ∧ Rd w' r ps db (Ns.map (· - (1 + (encT flds).length))) rest ∧ Kept ps w w') ?_).mono ?_
    · intro W hkW hrW
      refine (rtab_of flds hf none (d - 1) (dep + 1) W r ps db _ rest wff hok (by omega) (by omega) (by omega) hrW (by omega) (by omega) (Nat.lt_of_lt_of_le hdb hkW.size)).mono ?_
      rintro e w' ⟨b, es, rfl, a0, a1, a2, a3, a4⟩
      refine ⟨_, rfl, pv_tab (Nat.le_trans hkW.size a0) a1 (PF.mono (fun b hb _ => Nat.le_trans hkW.size hb) _ a2), ?_, hkW.trans a4 (fun x hx => .inl hx)⟩
      rw [map_sub_sub] at a3
      exact a3
    · rintro e w' ⟨x, rfl, a1, a2, a3⟩
      exact ⟨_, rfl, a1, a2, a3⟩
  rw [if_neg c2] at hok hcost
  unfold leafOk at hok
  have hlen : text.length ≤ 2000 := by omega
  by_cases c116 : k = 116
  · subst c116
    rw [if_pos rfl] at hok
    simp only [Bool.or_eq_true, decide_eq_true_eq] at hok
    have he : encV (.mk 116 n f sc text kids flds) = 116 :: Lib.beBytes 1 (u64 n) := by simp [encV]
    have hen : (encV (.mk 116 n f sc text kids flds)).length = 2 := by rw [he]; rfl
    rw [hen] at hav ⊢
    rw [he, List.cons_append] at hr hl hav
    simp only [List.length_cons, List.length_append] at hl
    refine (rfv_116 dep _ rest (Lib.beBytes_length 1 _) hr (by omega) (by omega) hdb).mono ?_
    rintro e w' ⟨rfl, a1, a2⟩
    refine ⟨_, rfl, pv_leaf c1 c2 ?_, a1, a2⟩
    unfold leafV
    rw [if_pos rfl, be_mod]
    rcases hok with rfl | rfl
    · have : ((u64 0 % 256 ^ 1 : Nat) : Int) = 0 := by decide
      simp [this]
    · have : ((u64 1 % 256 ^ 1 : Nat) : Int) = 1 := by decide
      simp [this]
  rw [if_neg c116] at hok
  by_cases c66 : k = 66
  · subst c66
    rw [if_pos rfl] at hok
    simp only [Bool.and_eq_true, decide_eq_true_eq] at hok
    have he : encV (.mk 66 n f sc text kids flds) = 66 :: [(u64 n % 256).toUInt8] := by rw [← be_single]; simp [encV]
    have hen : (encV (.mk 66 n f sc text kids flds)).length = 2 := by rw [he]; rfl
    rw [hen] at hav ⊢
    rw [he, List.cons_append] at hr hl hav
    simp only [List.cons_append, List.nil_append] at hr hl hav
    simp only [List.length_cons] at hl
    refine (rfv_66 dep _ rest _ rfl hr (by simp only [List.length_cons]; omega) (by omega) hdb).mono ?_
    rintro e w' ⟨rfl, a1, a2⟩
    refine ⟨_, rfl, pv_leaf c1 c2 ?_, a1, a2⟩
    unfold leafV
    rw [if_neg (by decide), if_pos rfl, Lib.toUInt8_mod]
    have := u64_u8 n hok.1 hok.2
    rw [this]
  rw [if_neg c66] at hok
  by_cases c84 : k = 84
  · subst c84
    rw [if_pos rfl] at hok
    simp only [Bool.and_eq_true, decide_eq_true_eq] at hok
    have he : encV (.mk 84 n f sc text kids flds) = 84 :: Lib.beBytes 8 (u64 n) := by simp [encV]
    have hen : (encV (.mk 84 n f sc text kids flds)).length = 1 + 8 := by rw [he]; rfl
    rw [hen] at hav ⊢
    rw [he, List.cons_append] at hr hl hav
    simp only [List.length_cons, List.length_append, Lib.beBytes_length] at hl
    have ha := avail_map Ns [84] (Lib.beBytes 8 (u64 n) ++ rest)
    simp only [List.cons_append, List.nil_append, List.length_cons, List.length_nil, Nat.zero_add] at ha
    have hun := u64_pos n hok.1 (Int.lt_trans hok.2 (by decide))
    refine (rfv_84 dep h0 (by omega) _ hr (by simp only [List.length_append, Lib.beBytes_length]; omega) (by omega) hdb (fun x w' => x = timeV n ∧ Rd w' r ps db (Ns.map (· - (1 + 8))) rest ∧ Kept ps w w') ?_).mono ?_
    · intro W hkW hrW
      refine (rtime (u64 n) (by have := hok.2; omega) rest hrW (by omega) (by omega) (Nat.lt_of_lt_of_le hdb hkW.size)).mono ?_
      rintro e w' ⟨rfl, a1, a2⟩
      rw [map_sub_sub] at a1
      rw [hun]
      exact ⟨_, rfl, rfl, a1, hkW.trans a2 (fun x hx => .inl hx)⟩
    · rintro e w' ⟨x, rfl, rfl, a1, a2⟩
      exact ⟨_, rfl, pv_leaf c1 c2 (by unfold leafV; simp), a1, a2⟩
  rw [if_neg c84] at hok
  by_cases c102 : k = 102
  · subst c102
    rw [if_pos (.inl rfl)] at hok
    obtain ⟨g1, g2, g3, g4⟩ := (fracB_nice hok).toSingle f1
    have he : encV (.mk 102 n f sc text kids flds) = 102 :: Lib.beBytes 4 (Flt.toS f) := by simp [encV]
    have hen : (encV (.mk 102 n f sc text kids flds)).length = 5 := by rw [he]; rfl
    rw [hen] at hav ⊢
    rw [he, List.cons_append] at hr hl hav
    simp only [List.length_cons, List.length_append] at hl
    refine (rfv_102 dep _ rest (Lib.beBytes_length 4 _) hr (by omega) (by omega) hdb).mono ?_
    rintro e w' ⟨rfl, a1, a2⟩
    refine ⟨_, rfl, pv_leaf c1 c2 ?_, a1, a2⟩
    unfold leafV
    rw [be_four _ g4]
    simp
  by_cases c100 : k = 100
  · subst c100
    have he : encV (.mk 100 n f sc text kids flds) = 100 :: Lib.beBytes 8 f := by simp [encV]
    have hen : (encV (.mk 100 n f sc text kids flds)).length = 9 := by rw [he]; rfl
    rw [hen] at hav ⊢
    rw [he, List.cons_append] at hr hl hav
    simp only [List.length_cons, List.length_append] at hl
    refine (rfv_100 dep _ rest (Lib.beBytes_length 8 _) hr (by omega) (by omega) hdb).mono ?_
    rintro e w' ⟨rfl, a1, a2⟩
    refine ⟨_, rfl, pv_leaf c1 c2 ?_, a1, a2⟩
    unfold leafV
    rw [be_eight _ f1]
    simp
  rw [if_neg (by intro e; rcases e with e | e; exact c102 e; exact c100 e)] at hok
  by_cases c68 : k = 68
  · subst c68
    rw [if_pos rfl] at hok
    simp only [Bool.and_eq_true, decide_eq_true_eq] at hok
    have hb := inBits_68 hb
    have hun := w32_u64 n hb.1 hb.2
    have hml : u64 n % 4294967296 < 4294967296 := Nat.mod_lt _ (by decide)
    have hcut := be_cut4 (u64 n)
    generalize u64 n % 4294967296 = m at hun hml hcut
    have he : encV (.mk 68 n f sc text kids flds) = 68 :: (Lib.beBytes 1 (u64 sc) ++ Lib.beBytes 4 m) := by rw [hcut]; simp [encV]
    have hen : (encV (.mk 68 n f sc text kids flds)).length = 1 + 5 := by rw [he, List.length_cons, List.length_append, Lib.beBytes_length, Lib.beBytes_length]
    rw [hen] at hav ⊢
    rw [he, List.cons_append, List.append_assoc] at hr hl hav
    simp only [List.length_cons, List.length_append, Lib.beBytes_length] at hl
    have ha := avail_map Ns [68] (Lib.beBytes 1 (u64 sc) ++ (Lib.beBytes 4 (m) ++ rest))
    simp only [List.cons_append, List.nil_append, List.length_cons, List.length_nil, Nat.zero_add] at ha
    have husc := u64_pos sc hok.1 (Int.lt_of_le_of_lt hok.2 (by decide))
    refine (rfv_68 dep h0 (by omega) _ hr (by simp only [List.length_append, Lib.beBytes_length]; omega) (by omega) hdb (fun x w' => x = .agg #[.int .u8 sc, .int .i32 n] ∧ Rd w' r ps db (Ns.map (· - (1 + 5))) rest ∧ Kept ps w w') ?_).mono ?_
    · intro W hkW hrW
      refine (rdec (u64 sc) m (by have := hok.2; omega) hml rest hrW (by omega) (by omega) (Nat.lt_of_lt_of_le hdb hkW.size)).mono ?_
      rintro e w' ⟨rfl, a1, a2⟩
      rw [map_sub_sub] at a1
      rw [hun, husc]
      exact ⟨_, rfl, rfl, a1, hkW.trans a2 (fun x hx => .inl hx)⟩
    · rintro e w' ⟨x, rfl, rfl, a1, a2⟩
      exact ⟨_, rfl, pv_leaf c1 c2 (by unfold leafV; simp), a1, a2⟩
  rw [if_neg c68] at hok
  simp only [decide_eq_true_eq] at hok
  rcases hok with rfl | rfl | rfl | rfl | rfl | rfl | rfl
  · have hb := inBits_98 hb
    have he : encV (.mk 98 n f sc text kids flds) = 98 :: Lib.beBytes 1 (u64 n) := by simp [encV]
    have hen : (encV (.mk 98 n f sc text kids flds)).length = 2 := by rw [he]; rfl
    rw [hen] at hav ⊢
    rw [he, List.cons_append] at hr hl hav
    simp only [List.length_cons, List.length_append] at hl
    refine (rfv_98 dep _ rest (Lib.beBytes_length 1 _) hr (by omega) (by omega) hdb).mono ?_
    rintro e w' ⟨rfl, a1, a2⟩
    refine ⟨_, rfl, pv_leaf c1 c2 ?_, a1, a2⟩
    have := w8_u64 n hb.1 hb.2
    unfold leafV
    rw [this]
    simp
  · have hb := inBits_115 hb
    have he : encV (.mk 115 n f sc text kids flds) = 115 :: Lib.beBytes 2 (u64 n) := by simp [encV]
    have hen : (encV (.mk 115 n f sc text kids flds)).length = 3 := by rw [he]; rfl
    rw [hen] at hav ⊢
    rw [he, List.cons_append] at hr hl hav
    simp only [List.length_cons, List.length_append] at hl
    refine (rfv_115 dep _ rest (Lib.beBytes_length 2 _) hr (by omega) (by omega) hdb).mono ?_
    rintro e w' ⟨rfl, a1, a2⟩
    refine ⟨_, rfl, pv_leaf c1 c2 ?_, a1, a2⟩
    have := w16_u64 n hb.1 hb.2
    unfold leafV
    rw [this]
    simp
  · have hb := inBits_73 hb
    have he : encV (.mk 73 n f sc text kids flds) = 73 :: Lib.beBytes 4 (u64 n) := by simp [encV]
    have hen : (encV (.mk 73 n f sc text kids flds)).length = 5 := by rw [he]; rfl
    rw [hen] at hav ⊢
    rw [he, List.cons_append] at hr hl hav
    simp only [List.length_cons, List.length_append] at hl
    refine (rfv_73 dep _ rest (Lib.beBytes_length 4 _) hr (by omega) (by omega) hdb).mono ?_
    rintro e w' ⟨rfl, a1, a2⟩
    refine ⟨_, rfl, pv_leaf c1 c2 ?_, a1, a2⟩
    have := w32_be n hb.1 hb.2
    unfold leafV
    rw [this]
    simp
  · have he : encV (.mk 108 n f sc text kids flds) = 108 :: Lib.beBytes 8 (u64 n) := by simp [encV]
    have hen : (encV (.mk 108 n f sc text kids flds)).length = 9 := by rw [he]; rfl
    rw [hen] at hav ⊢
    rw [he, List.cons_append] at hr hl hav
    simp only [List.length_cons, List.length_append] at hl
    refine (rfv_108 dep _ rest (Lib.beBytes_length 8 _) hr (by omega) (by omega) hdb).mono ?_
    rintro e w' ⟨rfl, a1, a2⟩
    refine ⟨_, rfl, pv_leaf c1 c2 ?_, a1, a2⟩
    have := w64_be n n1 n2
    unfold leafV
    rw [this]
    simp
  · have he : encV (.mk 83 n f sc text kids flds) = 83 :: (Lib.beBytes 4 text.length ++ text) := by simp [encV]
    have hen : (encV (.mk 83 n f sc text kids flds)).length = 1 + (4 + text.length) := by rw [he, List.length_cons, List.length_append, Lib.beBytes_length]; omega
    rw [hen] at hav ⊢
    rw [he, List.cons_append, List.append_assoc] at hr hl hav
    simp only [List.length_cons, List.length_append, Lib.beBytes_length] at hl
    have ha := avail_map Ns [83] (Lib.beBytes 4 text.length ++ (text ++ rest))
    simp only [List.cons_append, List.nil_append, List.length_cons, List.length_nil, Nat.zero_add] at ha
    refine (rfv_83 dep h0 (by omega) _ hr (by simp only [List.length_append, Lib.beBytes_length]; omega) (by omega) hdb (fun x w' => x = .string ⟨text.toArray⟩ ∧ Rd w' r ps db (Ns.map (· - (1 + (4 + text.length)))) rest ∧ Kept ps w w') ?_).mono ?_
    · intro W hkW hrW
      refine (rlong text rest hrW (by omega) (by omega) (by omega) (Nat.lt_of_lt_of_le hdb hkW.size)).mono ?_
      rintro e w' ⟨rfl, a1, a2⟩
      rw [map_sub_sub] at a1
      exact ⟨_, rfl, rfl, a1, hkW.trans a2 (fun x hx => .inl hx)⟩
    · rintro e w' ⟨x, rfl, rfl, a1, a2⟩
      exact ⟨_, rfl, pv_leaf c1 c2 (by unfold leafV; simp), a1, a2⟩
  · have he : encV (.mk 120 n f sc text kids flds) = 120 :: (Lib.beBytes 4 text.length ++ text) := by simp [encV]
    have hen : (encV (.mk 120 n f sc text kids flds)).length = 5 + text.length := by rw [he, List.length_cons, List.length_append, Lib.beBytes_length]; omega
    rw [hen] at hav ⊢
    rw [he, List.cons_append, List.append_assoc] at hr hl hav
    simp only [List.length_cons, List.length_append, Lib.beBytes_length] at hl
    refine (rfv_120 dep text rest _ rfl (by omega) hr (by simp only [List.length_append, Lib.beBytes_length]; omega) (by omega) hdb).mono ?_
    rintro e w' ⟨g, rfl, a0, a1, a2, a3⟩
    refine ⟨_, rfl, pv_leaf c1 c2 ?_, a2, a3⟩
    unfold leafV
    simp (config := { decide := true }) only [if_false, if_true]
    exact ⟨g, rfl, a0, a1⟩
  · have he : encV (.mk 86 n f sc text kids flds) = [86] := by simp [encV]
    have hen : (encV (.mk 86 n f sc text kids flds)).length = 1 := by rw [he]; rfl
    rw [hen] at hav ⊢
    rw [he, List.cons_append, List.nil_append] at hr hl hav
    simp only [List.length_cons] at hl
    refine (rfv_86 dep rest hr (by omega) (by omega) hdb).mono ?_
    rintro e w' ⟨rfl, a1, a2⟩
    exact ⟨_, rfl, pv_leaf c1 c2 (by unfold leafV; simp), a1, a2⟩
/-- Every value is read as it is. -/
theorem rdv_all (v : Val) : RdVC v := Val.held RdVC (fun k n f sc t kids flds hk hf => rdv_of k n f sc t kids flds hk hf) v
/-- Every table is read as it is. -/
theorem rtable_all (fs : List Fld) (p : Option (List UInt8)) (d : Nat) (w : World) (r : Value) (ps : List Nat) (db : Nat) (Ns : List Nat) (rest : List UInt8) (hwf : WfFs fs) (hok : OkFs fs p d) (hcost : costFs fs ≤ 2000) (hd : d ≤ 30)
    (hr : Rd w r ps db Ns (encT fs ++ rest)) (hl : (encT fs ++ rest).length ≤ 900000000) (hav : (encT fs).length ≤ avail Ns (encT fs ++ rest)) (hdb : db < w.heap.size) :
    Calls Tryz.prog 145 #[r] w fun e w' => ∃ b es, e = .returned (.tuple #[.map (some b), .nilIface]) ∧ w.heap.size ≤ b ∧ MapAt w' b es ∧ PF (fun b => w.heap.size ≤ b) w' es fs ∧ Rd w' r ps db (Ns.map (· - (encT fs).length)) rest ∧ Kept ps w w' :=
  rtable_of fs (rtab_of fs fun x _ => rdv_all x.val) p d w r ps db Ns rest hwf hok hcost hd hr hl hav hdb
end Go.Proofs.YtkcdakohmfodjaaGreat
namespace Go.Proofs.YtkcdakohmfodjaaGreat
open Go.Shelf Go.RowKit Go.Lib Go.Sort
set_option linter.unusedVariables false
set_option linter.unusedSimpArgs false
/-- A field's cells: its name and its value's seven cells. -/
structure FEl where
  name : List UInt8
  cells : List Value
  len : cells.length = 7
  one : ∀ v ∈ cells, v.oneCell' = true
def FEl.enc (x : FEl) : List Value := .string (bstr x.name) :: x.cells
instance : Inhabited FEl := ⟨⟨[], List.replicate 7 (.int .u8 0), rfl, fun v hv => by rw [List.eq_of_mem_replicate hv]; rfl⟩⟩
theorem FEl.enc_len (x : FEl) : x.enc.length = 8 := by simp [FEl.enc, x.len]
theorem FEl.enc_one (x : FEl) : ∀ v ∈ x.enc, v.oneCell' = true := fun v hv => by
  rcases List.mem_cons.1 hv with rfl | hv
  · rfl
  · exact x.one v hv
/-- The order of impl.fields. -/
def cfF (x y : FEl) : Int := if Op.bytesLess x.name y.name then -1 else 1
theorem ltF (x y : FEl) : ltOf cfF x y = Op.bytesLess x.name y.name := by
  unfold ltOf cfF
  cases Op.bytesLess x.name y.name <;> simp
theorem swoF : SWO (ltOf cfF) where
  irrefl x := by rw [ltF]; exact bytesLess_irrefl _
  trans x y z h1 h2 := by rw [ltF] at *; exact bytesLess_trans _ _ _ h1 h2
  ntrans x y z h1 h2 := by
    rw [ltF] at *
    cases h : Op.bytesLess x.name z.name with
    | false => rfl
    | true =>
      exfalso
      cases h' : Op.bytesLess y.name x.name with
      | true => have := bytesLess_trans _ _ _ h' h; rw [h2] at this; cases this
      | false => rw [bytesLess_tri _ _ h1 h', h2] at h; cases h
/-- A list of pairs: the cells of each as the sort has them, and the field that it is. -/
def PF8 (B : Nat → Prop) (w : World) (cs : List Value) (p : FEl × Fld) : Prop := cs = p.1.enc ∧ p.2.name = p.1.name ∧ VHeld B w p.1.cells p.2.val
theorem bears_pf8 : Bears 8 PF8 := ⟨fun ⟨h1, h2, h3⟩ hk hB => ⟨h1, h2, VHeld.kept hk hB _ h3⟩, fun ⟨h1, h2, h3⟩ hB => ⟨h1, h2, VHeld.mono hB _ h3⟩, fun ⟨h1, _, _⟩ => by rw [h1, FEl.enc_len], fun ⟨h1, _, _⟩ u hu => by rw [h1] at hu; exact FEl.enc_one _ u hu⟩
theorem flat_get (l : List FEl) : ∀ (j : Nat) (u : Value), (l.flatMap FEl.enc)[j]? = some u → j < l.length * 8 ∧ (FEl.enc l[j / 8]!)[j % 8]! = u := by
  induction l with
  | nil => intro j u h; simp at h
  | cons x l ih =>
    intro j u h
    rw [List.flatMap_cons] at h
    by_cases hj : j < 8
    · rw [List.getElem?_append_left (by rw [FEl.enc_len]; exact hj)] at h
      refine ⟨by simp; omega, ?_⟩
      rw [show j / 8 = 0 by omega, show j % 8 = j by omega]
      simp [h]
    · rw [List.getElem?_append_right (by rw [FEl.enc_len]; omega), FEl.enc_len] at h
      obtain ⟨h1, h2⟩ := ih (j - 8) u h
      refine ⟨by simp; omega, ?_⟩
      rw [show j / 8 = (j - 8) / 8 + 1 by omega, show j % 8 = (j - 8) % 8 by omega]
      simpa using h2
theorem flat_len : ∀ (l : List FEl), (l.flatMap FEl.enc).length = l.length * 8
  | [] => rfl
  | x :: l => by rw [List.flatMap_cons, List.length_append, FEl.enc_len, flat_len l, List.length_cons]; omega
theorem flat_some (l : List FEl) (j : Nat) (hj : j < l.length * 8) : (l.flatMap FEl.enc)[j]? = some ((FEl.enc l[j / 8]!)[j % 8]!) := by
  cases h : (l.flatMap FEl.enc)[j]? with
  | none => rw [List.getElem?_eq_none_iff, flat_len] at h; omega
  | some u => rw [(flat_get l j u h).2]
theorem ecells_flat {B : Nat → Prop} {w : World} : ∀ (xs : List (FEl × Fld)) (cells : List Value), ECells 8 (PF8 B w) cells xs → cells = (xs.map Prod.fst).flatMap FEl.enc
  | [], cells, h => h
  | x :: xs, cells, h => by
    obtain ⟨cs, rest, rfl, h2, ⟨h3, _⟩, h5⟩ := h
    rw [ecells_flat xs rest h5, h3]
    simp
theorem flat_ecells {B : Nat → Prop} {w : World} : ∀ (xs : List (FEl × Fld)), (∀ p ∈ xs, PF8 B w p.1.enc p) → ECells 8 (FHeld B w) ((xs.map Prod.fst).flatMap FEl.enc) (xs.map Prod.snd)
  | [], _ => rfl
  | x :: xs, h => by
    obtain ⟨_, h2, h3⟩ := h x (by simp)
    refine ⟨x.1.enc, (xs.map Prod.fst).flatMap FEl.enc, by simp, FEl.enc_len _, ⟨x.1.cells, by rw [h2]; rfl, h3⟩, flat_ecells xs (fun p hp => h p (by simp [hp]))⟩
theorem ecells_all {B : Nat → Prop} {w : World} : ∀ (xs : List (FEl × Fld)) (cells : List Value), ECells 8 (PF8 B w) cells xs → ∀ p ∈ xs, PF8 B w p.1.enc p
  | [], _, _, p, hp => by cases hp
  | x :: xs, cells, h, p, hp => by
    obtain ⟨cs, rest, rfl, h2, h3, h5⟩ := h
    rcases List.mem_cons.1 hp with rfl | hp
    · rw [← h3.1]; exact h3
    · exact ecells_all xs rest h5 p hp
def Tryz.sortFld_ren : Go.Shelf.Ren := ⟨fun | 6 => 151 | 15 => 162 | 14 => 161 | 28 => 174 | 29 => 175 | 20 => 166 | 21 => 167 | 22 => 168 | 23 => 169 | 24 => 170 | 25 => 171 | 26 => 172 | 27 => 173 | 46 => 178 | 47 => 179 | 48 => 180 | 49 => 181 | 50 => 182 | 57 => 183 | n => n, fun | 22 => 31 | 24 => 153 | 25 => 386 | 3 => 3 | 39 => 195 | 0 => 0 | 53 => 70 | 55 => 28 | 4 => 4 | 46 => 411 | 45 => 410 | 50 => 415 | 5 => 5 | 9 => 9 | 66 => 424 | 70 => 134 | 76 => 429 | 77 => 430 | n => n, fun | n => n⟩
theorem Tryz.sortFld : Go.Proofs.SlLaysF0.n6 Tryz.prog Tryz.sortFld_ren := {
  mixed := by kernel_rfl
  f6 := ⟨Tryz.f151.name, by decide, Tryz.func151.trans (congrArg some (by kernel_rfl))⟩
  f14 := ⟨Tryz.f161.name, by decide, Tryz.func161.trans (congrArg some (by kernel_rfl))⟩
  f15 := Tryz.func162.trans (congrArg some (by kernel_rfl))
  f20 := ⟨Tryz.f166.name, by decide, Tryz.func166.trans (congrArg some (by kernel_rfl))⟩
  f21 := ⟨Tryz.f167.name, by decide, Tryz.func167.trans (congrArg some (by kernel_rfl))⟩
  f22 := ⟨Tryz.f168.name, by decide, Tryz.func168.trans (congrArg some (by kernel_rfl))⟩
  f23 := ⟨Tryz.f169.name, by decide, Tryz.func169.trans (congrArg some (by kernel_rfl))⟩
  f24 := ⟨Tryz.f170.name, by decide, Tryz.func170.trans (congrArg some (by kernel_rfl))⟩
  f25 := ⟨Tryz.f171.name, by decide, Tryz.func171.trans (congrArg some (by kernel_rfl))⟩
  f26 := ⟨Tryz.f172.name, by decide, Tryz.func172.trans (congrArg some (by kernel_rfl))⟩
  f27 := ⟨Tryz.f173.name, by decide, Tryz.func173.trans (congrArg some (by kernel_rfl))⟩
  f28 := Tryz.func174.trans (congrArg some (by kernel_rfl))
  f29 := Tryz.func175.trans (congrArg some (by kernel_rfl))
  f46 := ⟨Tryz.f178.name, by decide, Tryz.func178.trans (congrArg some (by kernel_rfl))⟩
  f47 := Tryz.func179.trans (congrArg some (by kernel_rfl))
  f48 := Tryz.func180.trans (congrArg some (by kernel_rfl))
  f49 := ⟨Tryz.f181.name, by decide, Tryz.func181.trans (congrArg some (by kernel_rfl))⟩
  f50 := ⟨Tryz.f182.name, by decide, Tryz.func182.trans (congrArg some (by kernel_rfl))⟩
  f57 := ⟨Tryz.f183.name, by decide, Tryz.func183.trans (congrArg some (by kernel_rfl))⟩
  t0 := Tryz.underlying0
  a0 := Tryz.isAgg0
  z0 := Tryz.sizeOf0
  v0 := Tryz.zeroValue0
  t3 := Tryz.underlying3
  a3 := Tryz.isAgg3
  z3 := Tryz.sizeOf3
  v3 := Tryz.zeroValue3
  t4 := Tryz.underlying4
  a4 := Tryz.isAgg4
  z4 := Tryz.sizeOf4
  v4 := Tryz.zeroValue4
  t5 := Tryz.underlying5
  a5 := Tryz.isAgg5
  z5 := Tryz.sizeOf5
  v5 := Tryz.zeroValue5
  t9 := Tryz.underlying9
  a9 := Tryz.isAgg9
  z9 := Tryz.sizeOf9
  v9 := Tryz.zeroValue9
  t22 := Tryz.underlying31
  a22 := Tryz.isAgg31
  z22 := Tryz.sizeOf31
  v22 := Tryz.zeroValue31
  t25 := Tryz.underlying386
  a25 := Tryz.isAgg386
  z25 := Tryz.sizeOf386
  v25 := Tryz.zeroValue386
  t39 := Tryz.underlying195
  a39 := Tryz.isAgg195
  z39 := Tryz.sizeOf195
  v39 := Tryz.zeroValue195
  t45 := Tryz.underlying410
  a45 := Tryz.isAgg410
  z45 := Tryz.sizeOf410
  v45 := Tryz.zeroValue410
  t46 := Tryz.underlying411
  a46 := Tryz.isAgg411
  z46 := Tryz.sizeOf411
  v46 := Tryz.zeroValue411
  t50 := Tryz.underlying415
  a50 := Tryz.isAgg415
  z50 := Tryz.sizeOf415
  v50 := Tryz.zeroValue415
  t53 := Tryz.underlying70
  a53 := Tryz.isAgg70
  z53 := Tryz.sizeOf70
  v53 := Tryz.zeroValue70
  t55 := Tryz.underlying28
  a55 := Tryz.isAgg28
  z55 := Tryz.sizeOf28
  v55 := Tryz.zeroValue28
  t66 := Tryz.underlying424
  a66 := Tryz.isAgg424
  z66 := Tryz.sizeOf424
  v66 := Tryz.zeroValue424
  t70 := Tryz.underlying134
  a70 := Tryz.isAgg134
  z70 := Tryz.sizeOf134
  v70 := Tryz.zeroValue134
  t76 := Tryz.underlying429
  a76 := Tryz.isAgg429
  z76 := Tryz.sizeOf429
  v76 := Tryz.zeroValue429
  t77 := Tryz.underlying430
  a77 := Tryz.isAgg430
  z77 := Tryz.sizeOf430
  v77 := Tryz.zeroValue430 }
theorem fld_agg : ∀ w, (isAgg 153).run Tryz.prog w = .ok true w := fun w => by kernel_rfl
theorem fld_size : ∀ w, (Go.sizeOf 153).run Tryz.prog w = .ok 8 w := fun w => by kernel_rfl
set_option maxHeartbeats 1000000 in
set_option maxRecDepth 100000 in
/-- The closure of impl.fields. -/
theorem cmp_fld (x y : FEl) (W : World) : Calls Tryz.prog 152 #[.agg x.enc.toArray, .agg y.enc.toArray] W fun e w' => e = .returned (.int .i64 (cfF x y)) ∧ ∃ q os', w' = grow (W.drewN q) os' := by
  obtain ⟨nx, cx, lx, ox⟩ := x
  obtain ⟨ny, cy, ly, oy⟩ := y
  match cx, lx with
  | [a0, a1, a2, a3, a4, a5, a6], _ =>
  match cy, ly with
  | [b0, b1, b2, b3, b4, b5, b6], _ =>
  change Calls Tryz.prog 152 #[.agg #[.string (bstr nx), a0, a1, a2, a3, a4, a5, a6], .agg #[.string (bstr ny), b0, b1, b2, b3, b4, b5, b6]] W fun e w' => e = .returned (.int .i64 (if Op.bytesLess nx ny then -1 else 1)) ∧ ∃ q os', w' = grow (W.drewN q) os'
  clear ox oy lx ly
  cases hb : Op.bytesLess nx ny
  · simp only [Bool.false_eq_true, if_false]
    go_enter Tryz.func152, Tryz.ntmps152
    go_wp2
    go_ret
    exact ⟨rfl, 0, _, by rw [alloc_eq_grow, alloc_eq_grow, grow_grow]; rfl⟩
  · simp only [if_true]
    go_enter Tryz.func152, Tryz.ntmps152
    go_wp2
    go_ret
    exact ⟨rfl, 0, _, by rw [alloc_eq_grow, alloc_eq_grow, grow_grow]; rfl⟩
theorem cmpLays_fld (blk off size : Nat) (w : World) : CmpLays Tryz.prog 152 #[] FEl.enc 8 cfF blk off size w := fun _ _ _ _ x y => cmp_fld x y _
theorem sortWorld_kept (w : World) (g n : Nat) (d : Array FEl) (os : Array Obj) : Kept [g] w (sortWorldK FEl.enc 8 w g 0 n d os) := by
  refine ⟨rfl, rfl, rfl, size_sortWorldK_c FEl.enc 8 w g 0 n d os, fun k hk hn => ?_⟩
  have hgk : g ≠ k := fun e => hn (by simp [e])
  unfold sortWorldK grow
  have hsz : (putRowK FEl.enc 8 (Sort.ahead w n) g 0 d).heap.size = w.heap.size := size_putRowK FEl.enc 8 (Sort.ahead w n) g 0 d
  show ((putRowK FEl.enc 8 (Sort.ahead w n) g 0 d).heap ++ os)[k]? = _
  rw [Array.getElem?_append_left (by rw [hsz]; exact hk)]
  show (w.heap.modify g _)[k]? = _
  rw [Array.getElem?_modify]
  simp [hgk]
/-- The fields of an own row, sorted by their names. -/
theorem sort_any (xs : List (FEl × Fld)) (base : Nat) (w : World) (out : Value) (g : Nat) (hg : out.ownBlock = some g) (h : OwnE 153 8 PF8 base w out xs) (hlen : xs.length ≤ 140737488355328) :
    Calls Tryz.prog 151 #[out, .func (.func 152) #[] #[]] w fun e w' => e = .returned (.tuple #[]) ∧
      ∃ ys : List (FEl × Fld), ys.Perm xs ∧ (ys.map Prod.snd).Pairwise (fun x y => Op.bytesLess y.name x.name = false) ∧ FSl (fun b => base ≤ b) w' out (ys.map Prod.snd) ∧ Kept [g] w w' := by
  obtain ⟨cells, o1, o2, o3⟩ := h
  have hcells := ecells_flat xs cells o2
  have hall := ecells_all xs cells o2
  have hglt := own_lt o1 hg
  obtain ⟨ao, c, rfl, hc, hh⟩ := own_slice o1
  rcases hh with ⟨_, _, _, hn⟩ | ⟨g', rfl, hg', hcell⟩
  · rw [hn] at hg; cases hg
  obtain rfl : g = g' := by rw [hg'] at hg; simpa using hg.symm
  have hfr : ∀ i, w.frozen? ⟨g, i, none⟩ = false := by
    rcases o1.2 with ⟨h2, _⟩ | ⟨g2, cap, cur, h2, h3, h4, h5⟩
    · cases h2
    · obtain rfl : g = g2 := by simpa using (by injection h2 with h2; exact congrArg (fun a => (a.getD ⟨0, 0, none⟩).block) h2 : g = g2)
      intro i
      exact Blk.free (cs := cur) (t := 153) h4 i
  have hH : HoldsK FEl.enc 8 w g 0 (xs.map Prod.fst).toArray := by
    intro j hj
    simp only [size_flatK, List.size_toArray, List.length_map] at hj
    have hs := flat_some (xs.map Prod.fst) j (by simpa using hj)
    rw [← hcells] at hs
    refine ⟨?_, hfr _⟩
    rw [hcell j _ hs, get_flatK _ _ _ _ (by simpa using hj)]
    simp
  have hcon := AnyQ.slices_SortFunc Tryz.sortFld 8 fld_agg fld_size FEl.enc FEl.enc_len FEl.enc_one cfF swoF 152 #[] g 0 c (xs.map Prod.fst).toArray w (enters_of Tryz.func152 (by kernel_rfl) rfl) (cmpLays_fld g 0 _ w) hH hglt (by simp; omega)
  simp only [List.size_toArray, List.length_map] at hcon
  refine Calls.mono hcon ?_
  rintro e w' ⟨rfl, d', n, os, hp, hs, rfl⟩
  have hk := sortWorld_kept w g n d' os
  have hsz : d'.size = xs.length := by have := hp.1; simpa using this
  have hperm : d'.toList.Perm (xs.map Prod.fst) := by
    have := hp.2.2
    rw [show (d'.extract 0 xs.length) = d' by rw [← hsz]; simp, show ((xs.map Prod.fst).toArray.extract 0 xs.length) = (xs.map Prod.fst).toArray by simp [List.take_of_length_le]] at this
    simpa using this
  obtain ⟨ys, y1, y2⟩ := perm_lift Prod.fst hperm.symm xs rfl
  have hH' := holdsK_sortWorldK FEl.enc 8 w g 0 n (xs.map Prod.fst).toArray d' os hglt hH (by simpa using hsz)
  refine ⟨rfl, ys, y1, ?_, ?_, hk⟩
  · rw [List.pairwise_map]
    have hname : ∀ p ∈ ys, p.2.name = p.1.name := fun p hp => (hall p (y1.subset hp)).2.1
    rw [List.pairwise_iff_getElem]
    intro i j hi hj hij
    rw [hname _ (List.getElem_mem hi), hname _ (List.getElem_mem hj)]
    have hyl : ys.length = xs.length := y1.length_eq
    have := hs i j (Nat.zero_le _) hij (by omega)
    rw [ltF] at this
    have e1 : ∀ k (hk : k < ys.length), d'[k]! = ys[k].1 := fun k hk => by
      have : (ys.map Prod.fst)[k]? = some ys[k].1 := by simp [hk]
      rw [y2] at this
      rw [getElem!_pos d' k (by omega)]
      simpa [hsz, show k < xs.length by omega] using this
    rw [e1 i hi, e1 j hj] at this
    exact this
  · have hyl : ys.length = xs.length := y1.length_eq
    refine ⟨some ⟨g, 0, none⟩, c, by simp [hyl], by simpa [hyl] using hc, fun _ => rfl, ?_⟩
    refine fat_of (o3 g rfl) _ 0 ((ys.map Prod.fst).flatMap FEl.enc) (flat_ecells ys fun p hp => ?_) fun j u hj => ?_
    · have h0 := hall p (y1.subset hp)
      have h1 := bears_pf8.kept h0 hk (fun b hb => by simpa using fun e => hb.2 (by rw [e]; rfl))
      exact bears_pf8.mono h1 (fun b hb _ => hb.1)
    · rw [y2] at hj
      obtain ⟨j1, j2⟩ := flat_get d'.toList j u hj
      have := hH' j (by simpa using j1)
      rw [this.1, get_flatK _ _ _ _ (by simpa using j1)]
      simp only [id_eq, Option.some.injEq]
      rw [← j2]
      simp [Array.getElem!_eq_getD]
set_option maxHeartbeats 400000 in
theorem ins_nil (cmp : Value) (w : World) : Calls Tryz.prog 166 #[.slice none 0 0, .int .i64 0, .int .i64 0, cmp] w fun e w' => e = .returned (.tuple #[]) ∧ Kept [] w w' := by
  go_enter Tryz.func166, Tryz.ntmps166
  go_wp2
  refine wp_loop_rounds 1 ?_
  rw [rounds_succ]
  go_wp2
  go_end0
  exact ⟨rfl, Kept.refl _ _⟩
set_option maxHeartbeats 400000 in
theorem pdq_nil (lim : Int) (cmp : Value) (w : World) : Calls Tryz.prog 161 #[.slice none 0 0, .int .i64 0, .int .i64 0, .int .i64 lim, cmp] w fun e w' => e = .returned (.tuple #[]) ∧ Kept [] w w' := by
  have hc := ins_nil cmp w
  have HC := Lib.hid hc; clear hc
  go_enter Tryz.func161, Tryz.ntmps161
  go_wp2
  refine wp_loop_rounds 1 ?_
  rw [rounds_succ]
  go_wp2_with (go_at_call 166; refine HC.out.mono ?_; rintro e w1 ⟨rfl, hk⟩; have HK := Lib.hid hk; clear hk)
  (try simp only [Exit.inBlock, Exit.then]); refine bodyPost_ret (results_none rfl _ _ _) rfl ?_
  exact ⟨rfl, HK.out⟩
set_option maxHeartbeats 400000 in
theorem sort_nil (cmp : Value) (w : World) : Calls Tryz.prog 151 #[.slice none 0 0, cmp] w fun e w' => e = .returned (.tuple #[]) ∧ Kept [] w w' := by
  have hl : Calls Tryz.prog 162 #[.int .u64 0] w fun e w' => e = .returned (.int .i64 0) ∧ w' = w := Any.bits_Len (SlLaysF0.n15.bits (P := Tryz.prog) (ρ := Tryz.sortFld_ren) { Tryz.sortFld with }) 0 w (by decide) (by decide)
  have hp := pdq_nil 0 cmp w
  have HC := Lib.hid (And.intro hl hp); clear hl hp
  go_enter Tryz.func151, Tryz.ntmps151
  go_wp2_with (first | (go_at_call 162; refine HC.out.1.mono ?_; rintro e w' ⟨rfl, rfl⟩) | (go_at_call 161; refine HC.out.2.mono ?_; rintro e w1 ⟨rfl, hk⟩; have HK := Lib.hid hk; clear hk))
  go_end0
  exact ⟨rfl, HK.out⟩
end Go.Proofs.YtkcdakohmfodjaaGreat
