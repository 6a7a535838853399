/-
  Lemmas on the way to the statement of YtkcdakohmfodjaaGreatHeader, joined out of these texts: Wa, Wt, Wv. No condition.
-/
import Derived.Test.YtkcdakohmfodjaaGreatNForm
import Derived.Test.YtkcdakohmfodjaaGreatNGivenK
import Derived.Test.YtkcdakohmfodjaaGreatNMkh
import Derived.Test.YtkcdakohmfodjaaGreatNWl
namespace Go.Proofs.YtkcdakohmfodjaaGreat
open Go.RowKit
set_option linter.unusedVariables false
set_option linter.unusedSimpArgs false
/-- writeField of v. -/
def FwC (v : Val) : Prop := ∀ (d : Nat) (B : Nat → Prop) (w : World) (x : Value) (q : Nat) (bs : List Nat) (l : List UInt8), WfV v → OkV v d → costV v ≤ 2000 → GV B w x v → (∀ b, B b → b ∉ q :: bs) → Wr TB w q bs l → l.length ≤ 800000000 →
  Calls Tryz.prog 213 #[.iface 111 (.pointer (some ⟨q, 0, none⟩)), x] w fun e w' => e = .returned .nilIface ∧ Wrote q bs l (encV v) w w'
/-- writeTable of fs. -/
def FtC (fs : List Fld) : Prop := ∀ (p : Option (List UInt8)) (d : Nat) (B : Nat → Prop) (w : World) (b : Nat) (es : List (Value × Value)) (q : Nat) (bs : List Nat) (l : List UInt8), WfFs fs → OkFs fs p d → costFs fs ≤ 2000 → B b → MapAt w b es → GF B w es fs → (∀ b, B b → b ∉ q :: bs) → Wr TB w q bs l → l.length ≤ 800000001 →
  Calls Tryz.prog 208 #[.iface 111 (.pointer (some ⟨q, 0, none⟩)), .map (some b)] w fun e w' => e = .returned .nilIface ∧ Wrote q bs l (encT fs) w w'
theorem Wr.src {T : TypeId} {w : World} {q : Nat} {bs : List Nat} {l : List UInt8} (h : Wr T w q bs l) : ∃ (ao : Option Addr) (c d : Nat), w.cell? ⟨q, 0, none⟩ = some (.slice ao l.length c) ∧ Src w (.slice ao l.length c) d l ∧ (l ≠ [] → d ∈ bs) := by
  obtain ⟨v, h1, h2, rfl, h4⟩ := h
  have hc := h1.cell0
  obtain ⟨ao, c, rfl, hlc, hh⟩ := own_slice h2
  rcases hh with ⟨h0, rfl, rfl, hn⟩ | ⟨g, rfl, hg, hcell⟩
  · have hl := List.eq_nil_of_length_eq_zero h0
    subst hl
    exact ⟨none, 0, 0, hc, .inl ⟨rfl, none, 0, rfl⟩, fun h => absurd rfl h⟩
  · refine ⟨_, c, g, hc, .inr ⟨⟨g, 0, none⟩, c, rfl, rfl, fun j v hj => ?_⟩, fun _ => by rw [hg]; simp⟩
    rw [addr_add]
    exact hcell j v hj
theorem GL.get {B : Nat → Prop} {w : World} {g : Nat} : ∀ (l : List Val) (o : Nat), GL B w g o l → ∀ (i : Nat) (v : Val), l[i]? = some v → ∃ x, w.cell? ⟨g, o + i, none⟩ = some x ∧ GV B w x v
  | [], o, h, i, v, hi => by simp at hi
  | u :: l, o, h, i, v, hi => by
    unfold GL at h
    obtain ⟨⟨x, h1, h2⟩, h3⟩ := h
    cases i with
    | zero => simp at hi; subst hi; exact ⟨x, h1, h2⟩
    | succ i =>
      obtain ⟨y, a, b⟩ := GL.get l (o + 1) h3 i v (by simpa using hi)
      exact ⟨y, by rw [show o + (i + 1) = o + 1 + i by omega]; exact a, b⟩
theorem encL_app : ∀ (l m : List Val), encL (l ++ m) = encL l ++ encL m
  | [], m => by simp [encL]
  | v :: l, m => by rw [List.cons_append, encL, encL, encL_app l m, List.append_assoc]
theorem encL_take (l : List Val) (i : Nat) (v : Val) (h : l[i]? = some v) : encL (l.take (i + 1)) = encL (l.take i) ++ encV v := by
  rw [List.take_add_one, h, encL_app]
  simp [encL]
theorem costL_take (l : List Val) (i : Nat) : costL (l.take i) ≤ costL l := by
  induction l generalizing i with
  | nil => simp
  | cons v l ih =>
    cases i with
    | zero => simp [costL]
    | succ i => rw [List.take_succ_cons, costL, costL]; have := ih i; omega
set_option maxHeartbeats 4000000 in
set_option maxRecDepth 100000 in
theorem wf_65 (n : Int) (f : Nat) (sc : Int) (text : List UInt8) (kids : List Val) (flds : List Fld) (hf : ∀ v, v ∈ kids → FwC v) : FwC (.mk 65 n f sc text kids flds) := by
  intro d B w x q bs l hwf hok hcost hgv hB hw hl
  unfold GV at hgv
  rw [if_pos rfl] at hgv
  obtain ⟨ao, c, rfl, hkc, hgl⟩ := hgv
  unfold WfV at hwf
  unfold OkV at hok
  rw [if_pos rfl] at hok
  unfold costV at hcost
  rw [if_pos rfl] at hcost
  have hkl : (kids.length : Int) ≤ 2000 := by have := costL_len kids; omega
  have hel := encL_len kids
  have hwant : encV (.mk 65 n f sc text kids flds) = 65 :: (Lib.beBytes 4 (encL kids).length ++ encL kids) := by unfold encV; rw [if_pos rfl]
  rw [hwant]
  have hm1 := method_wbuf
  have hm2 := nilAhead_wbuf
  have tn_bool := fun v w => tno_bool 192 v w (by decide)
  have tn_u8 := fun v w => tno_u8 192 v w (by decide)
  have tn_i8 := fun v w => tno_i8 192 v w (by decide)
  have tn_i16 := fun v w => tno_i16 192 v w (by decide)
  have tn_int := fun v w => tno_int 192 v w (by decide)
  have tn_i32 := fun v w => tno_i32 192 v w (by decide)
  have tn_i64 := fun v w => tno_i64 192 v w (by decide)
  have tn_u16 := fun v w => tno_u16 192 v w (by decide)
  have tn_u32 := fun v w => tno_u32 192 v w (by decide)
  have tn_f32 := fun v w => tno_f32 192 v w (by decide)
  have tn_f64 := fun v w => tno_f64 192 v w (by decide)
  have tn_dec := fun v w => tno_dec 192 v w (by decide)
  have tn_str := fun v w => tno_str 192 v w (by decide)
  have ty_arr := tyes_arr
  obtain ⟨wa, hwa⟩ : ∃ wa, wa = (w.alloc (.cells #[.int .u8 65, .int .u8 0, .int .u8 0, .int .u8 0, .int .u8 0, .int .u8 0, .int .u8 0, .int .u8 0, .int .u8 0] 455)).alloc (.cells #[.slice none 0 0] TB) := ⟨_, rfl⟩
  have hba : Blk wa w.heap.size [.int .u8 65, .int .u8 0, .int .u8 0, .int .u8 0, .int .u8 0, .int .u8 0, .int .u8 0, .int .u8 0, .int .u8 0].toArray 455 := by rw [hwa]; exact (Blk.new w _ _).alloc _
  have hka : Kept [] w wa := by rw [hwa]; exact ((Kept.refl [] w).alloc _).alloc _
  have hwr0 : Wr TB wa (w.heap.size + 1) [] [] := by rw [hwa]; exact ⟨_, Blk.new_at (by simp), World.ownsRow_nil _ _ _ _, rfl, by simp⟩
  have hsz : wa.heap.size = w.heap.size + 2 := by rw [hwa]; simp
  have HA := Lib.hid (And.intro hba (And.intro hka (And.intro hwr0 hsz)))
  have HI := Lib.hid (And.intro hwf (And.intro hok (And.intro hcost (And.intro hgl (And.intro hB (And.intro hw (And.intro hl (And.intro hf (And.intro hel hkc)))))))))
  have HW := Lib.hid hwa
  clear hba hka hwr0 hsz hwf hok hcost hgl hB hw hl hf hel hkc hwa hwant
  go_enter Tryz.func213, Tryz.ntmps213
  go_upto_region 78 with fail
  rw [← HW.out]
  go_wp2_with fail
  go_loopw [4, 158] (fun er ix W => ∃ (m : Nat) (b2 : List Nat), er = .nilIface ∧ ix = .int .i64 (m : Int) ∧ m ≤ kids.length ∧ Hid (Wr TB W (w.heap.size + 1) b2 (encL (kids.take m)) ∧ (∀ b ∈ b2, w.heap.size + 2 ≤ b) ∧ Blk W w.heap.size [.int .u8 65, .int .u8 0, .int .u8 0, .int .u8 0, .int .u8 0, .int .u8 0, .int .u8 0, .int .u8 0, .int .u8 0].toArray 455 ∧ Kept [] w W)) (fun _ ix _ => kids.length - (intOf ix).toNat)
  case atStart => exact ⟨0, [], rfl, rfl, Nat.zero_le _, Lib.hid ⟨by rw [List.take_zero]; exact HA.out.2.2.1, by simp, HA.out.1, HA.out.2.1⟩⟩
  case round =>
    obtain ⟨m, b2, rfl, rfl, hmk, HR⟩ := hrel
    by_cases hlt : m < kids.length
    · obtain ⟨v, hx⟩ : ∃ v, kids[m]? = some v := ⟨_, List.getElem?_eq_getElem hlt⟩
      obtain ⟨g, rfl, hg1, hg2, hgl⟩ := HI.out.2.2.2.1 (by intro e; rw [e] at hlt; simp at hlt)
      obtain ⟨y, hy1, hy2⟩ := GL.get kids 0 hgl m v hx
      rw [Nat.zero_add] at hy1
      have hlt' : (m : Int) < kids.length := by omega
      have hcw := HI.out.2.2.2.2.2.2.2.1 v (List.mem_of_getElem? hx) (d - 1) (fun b => B b ∧ b < w.heap.size) wr y (w.heap.size + 1) b2 (encL (kids.take m)) (WfL.get' kids HI.out.1.2.2.2.1 m v hx) (OkL.get kids (d - 1) HI.out.2.1.2.2 m v hx) (by have := costL_get kids m v hx; have := HI.out.2.2.1; omega) (GV.kept HR.out.2.2.2 (by simp) v (GV.mono (fun b hb hl => ⟨hb, hl⟩) v hy2)) (fun b hb => by
        simp only [List.mem_cons, not_or]
        exact ⟨by omega, fun hm => by have := HR.out.2.1 b hm; omega⟩) HR.out.1 (by have h1 := encL_len (kids.take m); have h2 := costL_take kids m; have h3 := HI.out.2.2.1; omega)
      have hcy : wr.cell? ⟨g, m, none⟩ = some y := HR.out.2.2.2.cell hy1 (by simp)
      have HC := Lib.hid (And.intro hcw hx); clear hcw hy1 hy2 hgl hx hg1 hg2
      go_wp2_with (go_at_call 213; refine HC.out.1.mono ?_; rintro e w3 ⟨rfl, b3, h3, k3⟩; have H3 := Lib.hid (And.intro h3 k3); clear h3 k3)
      have hin := List.getElem?_eq_some_iff.1 HC.out.2
      have hqb : ∀ x, x ∈ (w.heap.size + 1) :: b2 → x ∉ [] ∧ w.heap.size + 1 ≤ x := fun x hx => by
        refine ⟨by simp, ?_⟩
        rcases List.mem_cons.1 hx with rfl | hx
        · exact Nat.le_refl _
        · have := HR.out.2.1 x hx; omega
      have hwrs := HR.out.2.2.2.size
      have hwrg := HR.out.1.lt
      refine ⟨⟨m + 1, b3, rfl, by simp, by omega, Lib.hid ⟨by rw [encL_take kids m v HC.out.2]; exact H3.out.1, fun b hb => ?_, HR.out.2.2.1.kept H3.out.2.kept (fun hx => by have := (hqb _ hx).2; omega), HR.out.2.2.2.trans H3.out.2.kept (fun x hx => .inr (by have := (hqb x hx).2; omega))⟩⟩, ?_⟩
      · rcases H3.out.2.own b hb with h | h
        · exact HR.out.2.1 b h
        · omega
      · simp only [intOf]; omega
    · have hme : m = kids.length := by omega
      have hlt' : ¬ (m : Int) < kids.length := by omega
      subst hme
      rw [List.take_length] at HR
      have hee : (encL kids).length ≤ 18000 := by have h1 := HI.out.2.2.2.2.2.2.2.2.1; have h2 := HI.out.2.2.1; omega
      have e0 : ((encL kids).length : Int) % 4294967296 = (encL kids).length := by omega
      have e0' : IntKind.u32.wrap ((encL kids).length : Int) = (encL kids).length := by rw [IntKind.wrap_u32]; omega
      obtain ⟨sa, sc2, sd, hs1, hs2, hs3⟩ := HR.out.1.src
      have hlen := len_any (w.heap.size + 1) sa (encL kids).length sc2 wr.drew hs1
      have hput := put32_any w.heap.size 1 4 8 (encL kids).length _ 455 wr.drew HR.out.2.2.1.drew (by omega) (by simp) (by omega)
      have HP := Lib.hid (And.intro hlen hput); have HZ := Lib.hid hee
      clear hlen hput hs1 hs2 hs3 hee
      go_upto_region 84 with fail
      go_region_held3 (fun _ : World => True) (trivial) (first | (go_at_call 44; (with_reducible refine HP.out.1.mono ?_); rintro e w1 ⟨rfl, rfl⟩) | (go_at_call 210; (with_reducible refine HP.out.2.mono ?_); rintro e w4 ⟨rfl, h4, k4⟩; have H4 := Lib.hid (And.intro h4 k4); clear h4 k4))
      all_goals
        have hqw := HI.out.2.2.2.2.2.1.lt
        have hbw := HI.out.2.2.2.2.2.1.blt
        have hk4 : Kept [] w w4 := HR.out.2.2.2.drew.trans H4.out.2 (fun x hx => .inr (by simp at hx; omega))
        have hwr4 : Wr TB w4 (w.heap.size + 1) b2 (encL kids) := (HR.out.1.kept ((Kept.refl [] wr).drew) (by simp) (by simp)).kept H4.out.2 (by simp) (fun b hb => by have := HR.out.2.1 b hb; simp; omega)
        have hb5 : Src w4.drew (.slice (some ⟨w.heap.size, 0, none⟩) 5 9) w.heap.size (65 :: Lib.beBytes 4 (encL kids).length) := H4.out.1.drew.srcAt (65 :: Lib.beBytes 4 (encL kids).length) (by rw [putAt_takeN _ _ _ _ (by simp) (by simp [u8s, Lib.beBytes_length])]; rfl) (by simp [Lib.beBytes_length]) 9
        have hw5 := write_any q bs _ w.heap.size l _ w4.drew (HI.out.2.2.2.2.2.1.kept hk4.drew (by simp) (by simp)) hb5 ⟨some ⟨w.heap.size, 0, none⟩, 9, by rw [List.length_cons, Lib.beBytes_length]⟩ (by have := HI.out.2.2.2.2.2.2.1; simp [Lib.beBytes_length]; omega)
        rw [show (((65 :: Lib.beBytes 4 (encL kids).length).length : Nat) : Int) = 5 by simp [Lib.beBytes_length]] at hw5
        have HW5 := Lib.hid hw5; have HK4 := Lib.hid (And.intro hk4 (And.intro hwr4 (And.intro hqw hbw)))
        clear hk4 hwr4 hb5 hw5 hqw hbw
        go_upto_region 85 with fail
        go_region_held3 (fun _ : World => True) (trivial) (first | (go_at_call 238; (with_reducible refine HW5.out.mono ?_); rintro e w5 ⟨rfl, bs5, h5, k5⟩; have H5 := Lib.hid (And.intro h5 k5); clear h5 k5))
        have hwr5 : Wr TB w5.drew (w.heap.size + 1) b2 (encL kids) := ((HK4.out.2.1.kept ((Kept.refl [] w4).drew) (by simp) (by simp)).kept H5.out.2.kept (by
          simp only [List.mem_cons, not_or]
          exact ⟨by have := HK4.out.2.2.1; omega, fun hm => by have := HK4.out.2.2.2 _ hm; omega⟩) (fun b hb => by
          simp only [List.mem_cons, not_or]
          have := HR.out.2.1 b hb
          exact ⟨by have := HK4.out.2.2.1; omega, fun hm => by have := HK4.out.2.2.2 _ hm; omega⟩)).kept ((Kept.refl [] w5).drew) (by simp) (by simp)
        obtain ⟨ta, tc, td, ht1, ht2, ht3⟩ := hwr5.src
        have hby := bytes_any (w.heap.size + 1) _ w5.drew ht1
        have hw6 := write_any q bs5 _ td _ (encL kids) w5.drew (H5.out.1.kept ((Kept.refl [] w5).drew) (by simp) (by simp)) ht2 ⟨ta, tc, rfl⟩ (by have h1 := HI.out.2.2.2.2.2.2.1; have h2 := HZ.out; simp [Lib.beBytes_length]; omega)
        have HW6 := Lib.hid (And.intro hby hw6)
        clear hwr5 ht1 ht2 ht3 hby hw6
        go_upto_region 87 with fail
        go_region_held3 (fun _ : World => True) (trivial) (first | (go_at_call 75; (with_reducible refine HW6.out.1.mono ?_); rintro e w6 ⟨rfl, rfl⟩) | (go_at_call 238; (with_reducible refine HW6.out.2.mono ?_); rintro e w7 ⟨rfl, bs7, h7, k7⟩; have H7 := Lib.hid (And.intro h7 k7); clear h7 k7))
        all_goals
          go_wp2
          go_ret
          exact ⟨rfl, bs7, by rw [← List.cons_append, ← List.append_assoc]; exact H7.out.1, Adv.kept_l HK4.out.1.drew (H5.out.2.trans (Adv.kept_l ((Kept.refl [] w5).drew) H7.out.2))⟩
set_option maxHeartbeats 1000000 in
set_option maxRecDepth 100000 in
/-- The bytes of a buffer as a string. -/
theorem bstring_any (q : Nat) (bs : List Nat) (l : List UInt8) (w : World) (hw : Wr TB w q bs l) :
    Calls Tryz.prog 215 #[.pointer (some ⟨q, 0, none⟩)] w fun e w' => e = .returned (.string (bstr l)) ∧ w = w' := by
  obtain ⟨ao, c, d, h1, h2, h3⟩ := hw.src
  rcases h2 with ⟨rfl, _⟩ | ⟨ad, c2, had, hs, hcell⟩
  · have hcv : (convert 22 9 (.slice ao 0 c)).run Tryz.prog w = .ok (.string (bstr [])) w := by
      rw [run_convert_bytes_string w _ _ _ ao 0 c Tryz.underlying22 Tryz.underlying5 Tryz.underlying9]
      cases ao <;> rfl
    clear h3 hw
    go_enter Tryz.func215, Tryz.ntmps215
    go_wp2
    go_ret
    exact ⟨rfl, rfl⟩
  · cases hs
    have hcv : (convert 22 9 (.slice (some ad) l.length c)).run Tryz.prog w = .ok (.string (bstr l)) w := run_convert_bytes_back w _ _ _ ad c l Tryz.underlying22 Tryz.underlying5 Tryz.underlying9 fun j hj => hcell j _ (by rw [u8s_get, List.getElem?_eq_getElem hj]; rfl)
    clear h3 hw
    go_enter Tryz.func215, Tryz.ntmps215
    go_wp2
    go_ret
    exact ⟨rfl, rfl⟩
theorem encFs_app : ∀ (l m : List Fld), encFs (l ++ m) = encFs l ++ encFs m
  | [], m => by simp [encFs]
  | .mk name v :: l, m => by simp only [List.cons_append, encFs, encFs_app l m, List.append_assoc]
theorem encFs_take (l : List Fld) (i : Nat) (name : List UInt8) (v : Val) (h : l[i]? = some (.mk name v)) : encFs (l.take (i + 1)) = encFs (l.take i) ++ (Lib.beBytes 1 name.length ++ name) ++ encV v := by
  rw [List.take_add_one, h, encFs_app]
  simp [encFs]
theorem bytes_eq (a : List UInt8) : ((⟨a.toArray⟩ : ByteArray) == ⟨a.toArray⟩) = true := by
  have h : ((⟨a.toArray⟩ : ByteArray) == ⟨a.toArray⟩) = (a.toArray == a.toArray) := rfl
  rw [h]; simp
theorem GF.split {B : Nat → Prop} {w : World} : ∀ (l : List Fld) (es : List (Value × Value)), GF B w es l → ∀ (i : Nat) (name : List UInt8) (v : Val), l[i]? = some (.mk name v) → ∃ x, es = es.take i ++ (.string ⟨name.toArray⟩, x) :: es.drop (i + 1) ∧ GV B w x v ∧ GF B w (es.take i) (l.take i)
  | [], es, h, i, name, v, hi => by simp at hi
  | .mk nm u :: l, es, h, i, name, v, hi => by
    unfold GF at h
    obtain ⟨y, fs, rfl, h2, h3⟩ := h
    cases i with
    | zero =>
      simp only [List.getElem?_cons_zero, Option.some.injEq, Fld.mk.injEq] at hi
      obtain ⟨rfl, rfl⟩ := hi
      exact ⟨y, by simp, h2, rfl⟩
    | succ i =>
      obtain ⟨x, a, b, c⟩ := GF.split l fs h3 i name v (by simpa using hi)
      refine ⟨x, by rw [List.take_succ_cons, List.drop_succ_cons, List.cons_append, ← a], b, ?_⟩
      rw [List.take_succ_cons, List.take_succ_cons]
      unfold GF
      exact ⟨y, fs.take i, rfl, h2, c⟩
theorem costFs_take (l : List Fld) (i : Nat) : costFs (l.take i) ≤ costFs l := by
  induction l generalizing i with
  | nil => simp
  | cons x l ih =>
    cases x with
    | mk name v =>
      cases i with
      | zero => simp [costFs]
      | succ i => rw [List.take_succ_cons, costFs, costFs]; have := ih i; omega
set_option maxHeartbeats 2000000 in
set_option maxRecDepth 100000 in
theorem wtab_of (fs : List Fld) (hv : ∀ x, x ∈ fs → FwC x.val) : FtC fs := by
  intro p d B w b es q bs l hwf hok hcost hBb hm hgf hB hw hl
  obtain ⟨wa, hwa⟩ : ∃ wa, wa = w.alloc (.cells #[.slice none 0 0] TB) := ⟨_, rfl⟩
  have hka : Kept [] w wa := by rw [hwa]; exact (Kept.refl [] w).alloc _
  have hwr0 : Wr TB wa w.heap.size [] [] := by rw [hwa]; exact ⟨_, Blk.new w _ _, World.ownsRow_nil _ _ _ _, rfl, by simp⟩
  have hkl : (fs.length : Int) ≤ 2000 := by have := costFs_len fs; omega
  have hnm := names_any fs p d (fun b => B b ∧ b < w.heap.size) wa b es hok hcost (hm.kept hka (by simp)) (GF.kept hka (by simp) fs (GF.mono (fun b hb hl => ⟨hb, hl⟩) fs hgf))
  have hel := encFs_len fs
  have hwant : encT fs = Lib.beBytes 4 (encFs fs).length ++ encFs fs := rfl
  rw [hwant]
  have HN := Lib.hid (And.intro hnm (And.intro hka hwr0))
  have H := Lib.hid (And.intro hwf (And.intro hok (And.intro hcost (And.intro hBb (And.intro hm (And.intro hgf (And.intro hB (And.intro hw (And.intro hl (And.intro hv hel))))))))))
  have HW := Lib.hid hwa
  clear hwf hok hcost hBb hm hgf hB hw hl hv hel hnm hka hwr0 hwa hwant
  go_enter Tryz.func208, Tryz.ntmps208
  go_upto_region 2 with fail
  rw [← HW.out]
  go_wp2_with (go_at_call 212; refine HN.out.1.mono ?_; rintro e w1 ⟨v1, rfl, o1, o2, k1⟩; obtain ⟨na, nc, rfl, hnc, hno⟩ := own_slice o1; have H1 := Lib.hid (And.intro o1 (And.intro o2 (And.intro k1 (And.intro hnc hno)))); clear o1 o2 k1 hnc hno)
  go_loopw [4, 13] (fun er ix W => ∃ (m : Nat) (b2 : List Nat), er = .nilIface ∧ ix = .int .i64 (m : Int) ∧ m ≤ fs.length ∧ Hid (Wr TB W w.heap.size b2 (encFs (fs.take m)) ∧ (∀ b ∈ b2, w1.heap.size ≤ b) ∧ Kept [w.heap.size] w1 W)) (fun _ ix _ => fs.length - (intOf ix).toNat)
  case atStart => exact ⟨0, [], rfl, rfl, Nat.zero_le _, Lib.hid ⟨by rw [List.take_zero]; exact HN.out.2.2.kept H1.out.2.2.1 (by simp) (by simp), by simp, Kept.refl _ _⟩⟩
  case round =>
    obtain ⟨m, b2, rfl, rfl, hmk, HR⟩ := hrel
    by_cases hlt : m < fs.length
    · obtain ⟨⟨name, v⟩, hx⟩ : ∃ x, fs[m]? = some x := ⟨_, List.getElem?_eq_getElem hlt⟩
      have hlt' : (m : Int) < fs.length := by omega
      have hkw : Kept [] w wr := (HN.out.2.1.trans H1.out.2.2.1 (by simp)).trans HR.out.2.2 (fun x hx => .inr (by simp at hx; omega))
      obtain ⟨x, hes, hgv, hgt⟩ := GF.split fs es H.out.2.2.2.2.2.1 m name v hx
      have hmr : MapAt wr b es := H.out.2.2.2.2.1.kept hkw (by simp)
      rw [hes] at hmr
      have hfr := OkFs.fresh fs _ _ H.out.2.1 m name v hx
      have hkeys := GF.keys _ _ hgt
      have hnew : ∀ e ∈ es.take m, Instr.sameNow .string (.string ⟨name.toArray⟩) e.1 = some false := by
        intro e he
        have h1 : e.1 ∈ (es.take m).map Prod.fst := List.mem_map_of_mem he
        rw [hkeys] at h1
        obtain ⟨x, hx1, hx2⟩ := List.mem_map.1 h1
        have h2 := hfr x hx1
        rw [← hx2]
        have h3 : name ≠ x.name := fun e => h2 e.symm
        exact congrArg some (bytes_ne _ _ h3)
      have hsame : Instr.sameNow .string (.string ⟨name.toArray⟩) (.string ⟨name.toArray⟩) = some true := by
        exact congrArg some (bytes_eq name)
      have hlk : (Instr.lookup 96 (.map (some b)) (.string (bstr name)) false).run Tryz.prog wr = .ok x wr := by
        have := run_lookup_at (P := Tryz.prog) hmr Tryz.underlying96 Tryz.underlying9 rfl hsame hnew false
        simpa using this
      obtain ⟨g, rfl, hg, hcell⟩ : ∃ g, na = some ⟨g, 0, none⟩ ∧ Value.ownBlock (.slice na fs.length nc) = some g ∧ ∀ j u, (fs.map fun f => Value.string (bstr f.name))[j]? = some u → w1.cell? ⟨g, 0 + j, none⟩ = some u := by
        rcases H1.out.2.2.2.2 with ⟨h0, _⟩ | h
        · omega
        · exact h
      have hgb := H1.out.2.1 g hg
      have hgs := own_lt H1.out.1 hg
      have hcn : wr.cell? ⟨g, m, none⟩ = some (.string (bstr name)) := by
        have := hcell m (.string (bstr name)) (by rw [List.getElem?_map, hx]; rfl)
        rw [Nat.zero_add] at this
        exact HR.out.2.2.cell this (by have := HN.out.2.2.lt; simp; omega)
      have hnl : name.length ≤ 255 := (OkFs.get fs _ _ H.out.2.1 m name v hx).1
      have hqb : ∀ b, (B b ∧ b < w.heap.size) → b ∉ w.heap.size :: b2 := fun b hb => by
        simp only [List.mem_cons, not_or]
        exact ⟨by omega, fun hm => by have h1 := HR.out.2.1 b hm; have h2 := H1.out.2.2.1.size; have h3 := HN.out.2.1.size; omega⟩
      have hll : (encFs (fs.take m)).length ≤ 18000 := by have h1 := encFs_len (fs.take m); have h2 := costFs_take fs m; have h3 := H.out.2.2.1; omega
      have hsh := wshort_any w.heap.size b2 (encFs (fs.take m)) name wr HR.out.1 hnl (by omega)
      have hgv' := GV.kept hkw (by simp) v (GV.mono (B' := fun b => B b ∧ b < w.heap.size) (fun b hb hl => ⟨hb, hl⟩) v hgv)
      have hface := hgv.face
      have hcw := fun (w3 : World) (b3 : List Nat) (h3 : Wr TB w3 w.heap.size b3 (encFs (fs.take m) ++ (Lib.beBytes 1 name.length ++ name))) (k3 : Adv w.heap.size b2 b3 wr w3) =>
        H.out.2.2.2.2.2.2.2.2.2.1 (.mk name v) (List.mem_of_getElem? hx) d (fun b => B b ∧ b < w.heap.size) w3 x w.heap.size b3 _ (WfFs.get fs H.out.1 m name v hx).2 (OkFs.get fs _ _ H.out.2.1 m name v hx).2 (by show costV v ≤ 2000; have := costFs_get fs m name v hx; have := H.out.2.2.1; omega) (GV.kept k3.kept hqb v hgv') (fun b hb => by
          simp only [List.mem_cons, not_or]
          refine ⟨by omega, fun hm => ?_⟩
          rcases k3.own b hm with h | h
          · exact hqb b hb (by simp [h])
          · have h2 := H1.out.2.2.1.size; have h3 := HN.out.2.1.size; have h4 := HR.out.2.2.size; omega) h3 (by simp only [List.length_append, Lib.beBytes_length]; omega)
      have HC := Lib.hid (And.intro hsh (And.intro hcw hx))
      clear hsh hcw hx hgv hgt hmr hfr hkeys hnew hsame hcell hg hgb hgs hnl hqb hll hgv' hes
      rcases hface with rfl | ⟨xt, xv, rfl⟩
      · go_wp2_with (first
          | (go_at_call 207; refine HC.out.1.mono ?_; rintro e w3 ⟨rfl, b3, h3, k3⟩; have hq4 := HC.out.2.1 w3 b3 h3 k3; have H3 := Lib.hid (And.intro h3 (And.intro k3 hq4)); clear h3 k3 hq4)
          | (go_at_call 213; refine H3.out.2.2.mono ?_; rintro e w4 ⟨rfl, b4, h4, k4⟩; have H4 := Lib.hid (And.intro h4 k4); clear h4 k4))
        have hadv := H3.out.2.1.trans H4.out.2
        have h1s := HR.out.2.2.size
        refine ⟨⟨m + 1, b4, rfl, by simp, by omega, Lib.hid ⟨by rw [encFs_take fs m name v HC.out.2.2]; exact H4.out.1, fun b hb => ?_, HR.out.2.2.trans hadv.kept (fun x hx => ?_)⟩⟩, ?_⟩
        · rcases hadv.own b hb with h | h
          · exact HR.out.2.1 b h
          · omega
        · rcases List.mem_cons.1 hx with rfl | hx
          · exact .inl (by simp)
          · exact .inr (HR.out.2.1 x hx)
        · simp only [intOf]; omega
      · go_wp2_with (first
          | (go_at_call 207; refine HC.out.1.mono ?_; rintro e w3 ⟨rfl, b3, h3, k3⟩; have hq4 := HC.out.2.1 w3 b3 h3 k3; have H3 := Lib.hid (And.intro h3 (And.intro k3 hq4)); clear h3 k3 hq4)
          | (go_at_call 213; refine H3.out.2.2.mono ?_; rintro e w4 ⟨rfl, b4, h4, k4⟩; have H4 := Lib.hid (And.intro h4 k4); clear h4 k4))
        have hadv := H3.out.2.1.trans H4.out.2
        have h1s := HR.out.2.2.size
        refine ⟨⟨m + 1, b4, rfl, by simp, by omega, Lib.hid ⟨by rw [encFs_take fs m name v HC.out.2.2]; exact H4.out.1, fun b hb => ?_, HR.out.2.2.trans hadv.kept (fun x hx => ?_)⟩⟩, ?_⟩
        · rcases hadv.own b hb with h | h
          · exact HR.out.2.1 b h
          · omega
        · rcases List.mem_cons.1 hx with rfl | hx
          · exact .inl (by simp)
          · exact .inr (HR.out.2.1 x hx)
        · simp only [intOf]; omega
    · have hme : m = fs.length := by omega
      have hlt' : ¬ (m : Int) < fs.length := by omega
      subst hme
      rw [List.take_length] at HR
      have hee : (encFs fs).length ≤ 18000 := by have h1 := H.out.2.2.2.2.2.2.2.2.2.2; have h2 := H.out.2.2.1; omega
      have hbs := bstring_any w.heap.size b2 (encFs fs) wr HR.out.1
      have hkw : Kept [] w wr := (HN.out.2.1.trans H1.out.2.2.1 (by simp)).trans HR.out.2.2 (fun x hx => .inr (by simp at hx; omega))
      have hlo := wlong_any q bs l (encFs fs) wr (H.out.2.2.2.2.2.2.2.1.kept hkw (by simp) (by simp)) (by omega) (by have := H.out.2.2.2.2.2.2.2.2.1; omega)
      have HL := Lib.hid (And.intro hbs (And.intro hlo hkw))
      clear hbs hlo hkw hee
      go_wp2_with (first
        | (go_at_call 215; refine HL.out.1.mono ?_; rintro e w3 ⟨rfl, rfl⟩)
        | (go_at_call 214; refine HL.out.2.1.mono ?_; rintro e w4 ⟨rfl, b4, h4, k4⟩; have H4 := Lib.hid (And.intro h4 k4); clear h4 k4))
      go_ret
      exact ⟨rfl, b4, H4.out.1, Adv.kept_l HL.out.2.2 H4.out.2⟩
set_option maxHeartbeats 2000000 in
set_option maxRecDepth 100000 in
theorem wf_70 (n : Int) (f : Nat) (sc : Int) (text : List UInt8) (kids : List Val) (flds : List Fld) (hf : FtC flds) : FwC (.mk 70 n f sc text kids flds) := by
  intro d B w x q bs l hwf hok hcost hgv hB hw hl
  unfold GV at hgv
  rw [if_neg (by decide), if_pos rfl] at hgv
  obtain ⟨b, es, rfl, hbB, hm, hgf⟩ := hgv
  unfold WfV at hwf
  unfold OkV at hok
  rw [if_neg (by decide), if_pos rfl] at hok
  unfold costV at hcost
  rw [if_neg (by decide), if_pos rfl] at hcost
  have hwant : encV (.mk 70 n f sc text kids flds) = 70 :: encT flds := by unfold encV encT; rw [if_neg (by decide), if_pos rfl]
  rw [hwant]
  have hm1 := method_wbuf
  have hm2 := nilAhead_wbuf
  have tn_bool := fun v w => tno_bool 96 v w (by decide)
  have tn_u8 := fun v w => tno_u8 96 v w (by decide)
  have tn_i8 := fun v w => tno_i8 96 v w (by decide)
  have tn_i16 := fun v w => tno_i16 96 v w (by decide)
  have tn_int := fun v w => tno_int 96 v w (by decide)
  have tn_i32 := fun v w => tno_i32 96 v w (by decide)
  have tn_i64 := fun v w => tno_i64 96 v w (by decide)
  have tn_u16 := fun v w => tno_u16 96 v w (by decide)
  have tn_u32 := fun v w => tno_u32 96 v w (by decide)
  have tn_f32 := fun v w => tno_f32 96 v w (by decide)
  have tn_f64 := fun v w => tno_f64 96 v w (by decide)
  have tn_dec := fun v w => tno_dec 96 v w (by decide)
  have tn_str := fun v w => tno_str 96 v w (by decide)
  have tn_arr := fun v w => tno_arr 96 v w (by decide)
  have tn_tim := fun v w => tno_tim 96 v w (by decide)
  have ty_tab := tyes_tab
  obtain ⟨wa, hwa⟩ : ∃ wa, wa = (w.alloc (.cells #[.int .u8 0, .int .u8 0, .int .u8 0, .int .u8 0, .int .u8 0, .int .u8 0, .int .u8 0, .int .u8 0, .int .u8 0] 455)).alloc (.cells #[.int .u8 70] 5) := ⟨_, rfl⟩
  have hka : Kept [] w wa := by rw [hwa]; exact ((Kept.refl [] w).alloc _).alloc _
  have hsrc : Src wa (.slice (some ⟨w.heap.size + 1, 0, none⟩) 1 1) (w.heap.size + 1) [70] := by rw [hwa]; exact (Blk.new_at (by simp) : Blk _ (w.heap.size + 1) (u8s [70]).toArray 5).src 1
  have hwr := write_any q bs _ (w.heap.size + 1) l [70] wa (hw.kept hka (by simp) (by simp)) hsrc ⟨_, 1, rfl⟩ (by simp; omega)
  have H := Lib.hid (And.intro hwf (And.intro hok (And.intro hcost (And.intro hbB (And.intro hm (And.intro hgf (And.intro hB (And.intro hw (And.intro hl (And.intro hf hka))))))))))
  have HW := Lib.hid (And.intro hwa hwr)
  clear hwf hok hcost hbB hm hgf hB hw hl hf hka hsrc hwr hwa hwant
  go_enter Tryz.func213, Tryz.ntmps213
  go_wp2_with fail
  rw [← HW.out.1]
  refine HW.out.2.mono ?_
  rintro e w2 ⟨rfl, bs2, h2, k2⟩
  have hm2' : MapAt w2 b es := (H.out.2.2.2.2.1.kept H.out.2.2.2.2.2.2.2.2.2.2 (by simp)).kept k2.kept (H.out.2.2.2.2.2.2.1 b H.out.2.2.2.1)
  have hft := H.out.2.2.2.2.2.2.2.2.2.1 none (d - 1) (fun b => B b ∧ b < w.heap.size) w2 b es q bs2 (l ++ [70]) H.out.1.2.2.2.2.1 H.out.2.1.2.2 (by have := H.out.2.2.1; omega) ⟨H.out.2.2.2.1, H.out.2.2.2.2.1.lt⟩ hm2'
    (GF.kept k2.kept (fun b hb => H.out.2.2.2.2.2.2.1 b hb.1) flds (GF.kept H.out.2.2.2.2.2.2.2.2.2.2 (by simp) flds (GF.mono (fun b hb hl => ⟨hb, hl⟩) flds H.out.2.2.2.2.2.1))) (fun b hb => by
      simp only [List.mem_cons, not_or]
      have h1 := H.out.2.2.2.2.2.2.1 b hb.1
      simp only [List.mem_cons, not_or] at h1
      refine ⟨h1.1, fun hm => ?_⟩
      rcases k2.own b hm with h | h
      · exact h1.2 h
      · have := H.out.2.2.2.2.2.2.2.2.2.2.size; omega) h2 (by have := H.out.2.2.2.2.2.2.2.2.1; simp; omega)
  have HF := Lib.hid (And.intro hft k2); clear hft k2 h2 hm2'
  go_wp2_with (go_at_call 208; refine HF.out.1.mono ?_; rintro e w3 ⟨rfl, bs3, h3, k3⟩; have H3 := Lib.hid (And.intro h3 k3); clear h3 k3)
  go_ret
  exact ⟨rfl, bs3, by rw [List.append_assoc] at H3; exact H3.out.1, Adv.kept_l H.out.2.2.2.2.2.2.2.2.2.2 (HF.out.2.trans H3.out.2)⟩
theorem leafG_at {B : Nat → Prop} {w : World} {x : Value} {k : UInt8} {n : Int} {f : Nat} {sc : Int} {text : List UInt8} {kids : List Val} {flds : List Fld} (h1 : k ≠ 65) (h2 : k ≠ 70) (h : GV B w x (.mk k n f sc text kids flds)) : leafG B w k n f sc text x := by
  unfold GV at h
  rw [if_neg h1, if_neg h2] at h
  exact h
theorem beV1 (x : UInt8) (v : Nat) (h : (v : Int) % 256 = (x.toNat : Int)) : Lib.beBytes 1 v = [x] := by
  rw [be1]
  congr 1
  apply UInt8.toNat_inj.1
  simp
  omega
theorem beV (k v m : Nat) (h : v % 256 ^ k = m) : Lib.beBytes k m = Lib.beBytes k v := by rw [← h]; exact be_cut k v
set_option maxHeartbeats 2000000 in
theorem fw_of (k : UInt8) (n : Int) (f : Nat) (sc : Int) (text : List UInt8) (kids : List Val) (flds : List Fld) (hk : ∀ v, v ∈ kids → FwC v) (hf : ∀ x, x ∈ flds → FwC x.val) : FwC (.mk k n f sc text kids flds) := by
  by_cases c1 : k = 65
  · subst c1; exact wf_65 n f sc text kids flds hk
  by_cases c2 : k = 70
  · subst c2; exact wf_70 n f sc text kids flds (wtab_of flds hf)
  intro d B w x q bs l hwf hok hcost hgv hB hw hl
  have hg := leafG_at c1 c2 hgv
  unfold WfV at hwf
  obtain ⟨t1, t2, t3, _, _, n1, n2, f1⟩ := hwf
  unfold OkV at hok
  obtain ⟨hd, hb, hok⟩ := hok
  rw [if_neg c1, if_neg c2] at hok
  unfold leafOk at hok
  have htl : text.length ≤ 2000 := by unfold costV at hcost; omega
  have hu := u64_int n
  unfold leafG at hg
  by_cases c98 : k = 98
  · subst c98
    simp (config := { decide := true }) only [if_false, if_true] at hg
    have he : encV (.mk 98 n f sc text kids flds) = 98 :: Lib.beBytes 1 (u64 n) := by unfold encV; simp (config := { decide := true }) only [if_false, if_true]
    rw [he]
    subst hg
    obtain ⟨y, hy⟩ : ∃ y : UInt8, n % 256 = (y.toNat : Int) := ⟨UInt8.ofNat (n % 256).toNat, by simp; omega⟩
    rw [beV1 y (u64 n) (by omega)]
    exact wl_98 n y hy q bs l w hw hl
  by_cases c66 : k = 66
  · subst c66
    simp (config := { decide := true }) only [if_false, if_true] at hg
    have he : encV (.mk 66 n f sc text kids flds) = 66 :: Lib.beBytes 1 (u64 n) := by unfold encV; simp (config := { decide := true }) only [if_false, if_true]
    rw [he]
    obtain ⟨y, rfl⟩ : ∃ y : UInt8, n = (y.toNat : Int) := ⟨UInt8.ofNat n.toNat, by simp at hok; simp; omega⟩
    subst hg
    have hyl := y.toNat_lt
    rw [beV1 y _ (by omega)]
    exact wl_66 y q bs l w hw hl
  by_cases c116 : k = 116
  · subst c116
    simp (config := { decide := true }) only [if_false, if_true] at hg
    have he : encV (.mk 116 n f sc text kids flds) = 116 :: Lib.beBytes 1 (u64 n) := by unfold encV; simp (config := { decide := true }) only [if_false, if_true]
    rw [he]
    subst hg
    have hn : n = 0 ∨ n = 1 := by simpa using hok
    rcases hn with rfl | rfl
    · exact wl_1160 q bs l w hw hl
    · exact wl_1161 q bs l w hw hl
  by_cases c115 : k = 115
  · subst c115
    simp (config := { decide := true }) only [if_false, if_true] at hg
    have he : encV (.mk 115 n f sc text kids flds) = 115 :: Lib.beBytes 2 (u64 n) := by unfold encV; simp (config := { decide := true }) only [if_false, if_true]
    rw [he]
    subst hg
    rw [← beV 2 (u64 n) _ rfl]
    exact wl_115 n _ (Nat.mod_lt _ (by decide)) (by rw [IntKind.wrap_u16]; simp; omega) q bs l w hw hl
  by_cases c73 : k = 73
  · subst c73
    simp (config := { decide := true }) only [if_false, if_true] at hg
    have he : encV (.mk 73 n f sc text kids flds) = 73 :: Lib.beBytes 4 (u64 n) := by unfold encV; simp (config := { decide := true }) only [if_false, if_true]
    rw [he]
    subst hg
    rw [← beV 4 (u64 n) _ rfl]
    exact wl_73 n _ (Nat.mod_lt _ (by decide)) (by simp; omega) q bs l w hw hl
  by_cases c108 : k = 108
  · subst c108
    simp (config := { decide := true }) only [if_false, if_true] at hg
    have he : encV (.mk 108 n f sc text kids flds) = 108 :: Lib.beBytes 8 (u64 n) := by unfold encV; simp (config := { decide := true }) only [if_false, if_true]
    rw [he]
    subst hg
    exact wl_108 n _ (by omega) (by rw [IntKind.wrap_u64]; omega) q bs l w hw hl
  by_cases c102 : k = 102
  · subst c102
    simp (config := { decide := true }) only [if_false, if_true] at hg
    have he : encV (.mk 102 n f sc text kids flds) = 102 :: Lib.beBytes 4 (Flt.toS f) := by unfold encV; simp (config := { decide := true }) only [if_false, if_true]
    rw [he]
    subst hg
    have hfr : fracB f = true := by simpa using hok
    exact wl_102 _ ((fracB_nice hfr).toSingle f1).2.2.2 q bs l w hw hl
  by_cases c100 : k = 100
  · subst c100
    simp (config := { decide := true }) only [if_false, if_true] at hg
    have he : encV (.mk 100 n f sc text kids flds) = 100 :: Lib.beBytes 8 f := by unfold encV; simp (config := { decide := true }) only [if_false, if_true]
    rw [he]
    subst hg
    exact wl_100 _ f1 q bs l w hw hl
  by_cases c68 : k = 68
  · subst c68
    simp (config := { decide := true }) only [if_false, if_true] at hg
    have he : encV (.mk 68 n f sc text kids flds) = 68 :: (Lib.beBytes 1 (u64 sc) ++ Lib.beBytes 4 (u64 n)) := by unfold encV; simp (config := { decide := true }) only [if_false, if_true]
    rw [he]
    have hs : 0 ≤ sc ∧ sc ≤ 255 := by simp at hok; omega
    obtain ⟨y, rfl⟩ : ∃ y : UInt8, sc = (y.toNat : Int) := ⟨UInt8.ofNat sc.toNat, by simp; omega⟩
    subst hg
    have hu2 := u64_int (y.toNat : Int)
    have hyl := y.toNat_lt
    rw [beV1 y _ (by omega), ← beV 4 (u64 n) _ rfl]
    exact wl_68 n y _ (Nat.mod_lt _ (by decide)) (by rw [IntKind.wrap_u32]; simp; omega) q bs l w hw hl
  by_cases c83 : k = 83
  · subst c83
    simp (config := { decide := true }) only [if_false, if_true] at hg
    have he : encV (.mk 83 n f sc text kids flds) = 83 :: (Lib.beBytes 4 text.length ++ text) := by unfold encV; simp (config := { decide := true }) only [if_false, if_true]
    rw [he]
    subst hg
    exact wl_83 text (by omega) q bs l w hw hl
  by_cases c84 : k = 84
  · subst c84
    simp (config := { decide := true }) only [if_false, if_true] at hg
    have he : encV (.mk 84 n f sc text kids flds) = 84 :: Lib.beBytes 8 (u64 n) := by unfold encV; simp (config := { decide := true }) only [if_false, if_true]
    rw [he]
    subst hg
    have hn : 0 ≤ n ∧ n ≤ 4611686018427387904 := by simp at hok; omega
    exact wl_84 n _ _ (by omega) (by rw [IntKind.wrap_u64]; omega) (fun W => tunix_any n hn.1 hn.2 W) q bs l w hw hl
  by_cases c120 : k = 120
  · subst c120
    simp (config := { decide := true }) only [if_false, if_true] at hg
    have he : encV (.mk 120 n f sc text kids flds) = 120 :: (Lib.beBytes 4 text.length ++ text) := by unfold encV; simp (config := { decide := true }) only [if_false, if_true]
    rw [he]
    obtain ⟨ao, c, rfl, hh⟩ := hg
    by_cases h0 : text = []
    · subst h0
      exact wl_120 q bs l w hw hl [] ao c w.heap.size (by simp) (.inl ⟨rfl, ao, c, rfl⟩) (by
        simp only [List.mem_cons, not_or]
        exact ⟨by have := hw.lt; omega, fun hm => by have := hw.blt _ hm; omega⟩) (fun h => absurd rfl h)
    · obtain ⟨g, rfl, hgB, hgl, hcell⟩ := hh h0
      exact wl_120 q bs l w hw hl text _ c g (by omega) (.inr ⟨⟨g, 0, none⟩, c, rfl, rfl, fun j v hj => by rw [addr_add, Nat.zero_add]; exact hcell j v hj⟩) (hB g hgB) (fun _ => hgl)
  by_cases c86 : k = 86
  · subst c86
    simp (config := { decide := true }) only [if_false, if_true] at hg
    have he : encV (.mk 86 n f sc text kids flds) = [86] := by unfold encV; simp (config := { decide := true }) only [if_false, if_true]
    rw [he]
    subst hg
    exact wl_86 q bs l w hw hl
  exfalso
  simp [c98, c115, c73, c66, c108, c100, c83, c86, c102, c116, c68, c84, c120] at hok
/-- writeField of every proper value. -/
theorem fw_all (v : Val) : FwC v := Val.held FwC (fun k n f sc t kids flds hk hf => fw_of k n f sc t kids flds hk hf) v
/-- writeTable of every proper table. -/
theorem ft_all (fs : List Fld) : FtC fs := wtab_of fs fun x _ => fw_all x.val
end Go.Proofs.YtkcdakohmfodjaaGreat
