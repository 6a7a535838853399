/-
  Lemmas on the way to the statement of YtkcdakohmfodjaaGreatMethodRead, joined out of these texts: Mread. No condition.
-/
import Derived.Test.YtkcdakohmfodjaaGreatNBrkWalk
import Derived.Test.YtkcdakohmfodjaaGreatNConvS
import Derived.Test.YtkcdakohmfodjaaGreatNIter
import Derived.Test.YtkcdakohmfodjaaGreatNMb
import Derived.Test.YtkcdakohmfodjaaGreatNPmAll
namespace Go.Proofs.YtkcdakohmfodjaaGreat
open Go.RowKit
set_option linter.unusedVariables false
set_option linter.unusedSimpArgs false
theorem known_lt : ∀ e ∈ knownL, e.1 < 65536 ∧ e.2.1 < 65536 := by decide
theorem proper_len : ∀ (l : List UInt8) (args : List MArg), properGo l args = true → args.length ≤ l.length
  | [], args, h => by have := proper_nil h; subst this; simp
  | c :: cs, args, h => by
    by_cases hc : c < 65
    · have := proper_len cs args (proper_skip hc h); simp; omega
    · obtain ⟨a, rs, rfl, _, h2⟩ := proper_cons hc h
      have := proper_len cs rs h2; simp; omega
theorem item_zero (c : UInt8) : (itemM c .zero).length ≤ 18004 := by
  unfold itemM MArg.zero
  repeat' split
  all_goals simp [Lib.beBytes_length, encT, encFs]
theorem flushM_len (bits held : Nat) : (flushM bits held).length ≤ 1 := by unfold flushM; split <;> simp [Lib.beBytes_length]
theorem encM_len : ∀ (l : List UInt8) (args : List MArg) (bits held : Nat), properGo l args = true → (encM l args bits held).length ≤ 18005 * l.length + 1
  | [], args, bits, held, h => by unfold encM; have := flushM_len bits held; omega
  | c :: cs, args, bits, held, h => by
    unfold encM
    have hf := flushM_len bits held
    rw [List.length_cons]
    by_cases h65 : c < 65
    · have hp := proper_skip h65 h
      rw [if_neg (by rintro rfl; exact absurd h65 (by decide))]
      split
      · have := encM_len cs args (bits + 1) held hp; omega
      · try rw [if_pos h65]
        have := encM_len cs args 0 0 hp; have := item_zero c
        simp only [List.length_append]; omega
    · obtain ⟨a, rs, rfl, h1, hp⟩ := proper_cons h65 h
      simp only [List.tail_cons, List.headD_cons]
      split
      · have := encM_len cs rs (bits + 1) (held + a.n % 2 * 2 ^ bits) hp; omega
      · try rw [if_neg (show ¬ c = 51 by rintro rfl; exact h65 (by decide))]
        try rw [if_neg h65]
        have := encM_len cs rs 0 0 hp
        have := mb_item h1 ⟨by rintro rfl; exact h65 (by decide), by rintro rfl; exact h65 (by decide), by rintro rfl; exact h65 (by decide)⟩
        (try simp only [List.length_append]); omega
theorem methodB_len {c m : Nat} {l : List UInt8} {args : List MArg} (h : properGo l args = true) (hl : l.length ≤ 20) : (methodB c m l args).length ≤ 1000000 := by
  have := encM_len l args 0 0 h
  unfold methodB
  simp only [List.length_append, Lib.beBytes_length]; omega
theorem zzFits1_yes (c m : Int) (aa : Option Addr) (n ac : Nat) (hn : n ≤ 2147483647) (w : World) : Calls Tryz.prog 10 #[.agg #[.int .i64 c, .int .i64 m, .slice aa n ac]] w fun e w' => e = .returned (.bool true) ∧ Kept [] w w' :=
  (zzFits1_any c m aa n ac w).mono fun e w' h => ⟨by rw [h.1, decide_eq_true hn], h.2⟩
/-- A row's cells, as a whole value is loaded. -/
theorem Blk.three {w : World} {g : Nat} {T : TypeId} {a b c : Value} (h : Blk w g #[a, b, c] T) : ∀ j u, [a, b, c][j]? = some u → w.cell? ((⟨g, 0, none⟩ : Addr).add j) = some u := fun j u hj => by
  rw [addr_add, Nat.zero_add, h.cell j]; simpa using hj
set_option maxHeartbeats 8000000 in
set_option maxRecDepth 100000 in
theorem mread_main (ch : Nat) (c m : Int) (av : Value) (args : List MArg) (w : World) (h : ASl (There w) w av args) (hwf : ∀ a ∈ args, WfA a) (hl : args.length ≤ 2147483647) (hch : ch ≤ 65535) (hp : properM c m (args.map convA) = true)
    (s : Value) (d : Nat) (behind : List UInt8) (n : Nat) (hn : behind.length = n) (hs : Src w s d behind) (hsl : ∃ ao k, s = .slice ao n k) (hbl : n ≤ 100) :
    Calls Tryz.prog 4 #[.int .i64 (ch : Int), .agg #[.int .i64 c, .int .i64 m, av], s] w fun e w' => e = .returned (.bool true) ∧ Kept [] w w' := by
  obtain ⟨l, hq, hpg⟩ : ∃ l, lettersOf c m = some l ∧ properGo l (args.map convA) = true := by
    unfold properM at hp
    cases hq : lettersOf c m with
    | none => rw [hq] at hp; cases hp
    | some l => rw [hq] at hp; exact ⟨l, rfl, hp⟩
  obtain ⟨⟨cn, mn, ll⟩, he, hle, hc, hm⟩ := letters_mem hq
  simp only at hle hc hm
  subst hle hc hm
  have hcm := known_lt _ he
  have hll := letters_len _ he
  have hpc := pmc_all _ he
  simp only at hcm hll hpc
  obtain ⟨A, hA⟩ : ∃ A, A = args.map convA := ⟨_, rfl⟩
  rw [← hA] at hp hpg
  have hwfA : ∀ a ∈ A, WfA a := fun a ha => by rw [hA] at ha; obtain ⟨b, hb, rfl⟩ := List.mem_map.1 ha; exact wf_convA (hwf b hb)
  have hAl : A.length ≤ 20 := Nat.le_trans (proper_len _ _ hpg) hll
  obtain ⟨N, hN⟩ : ∃ N, N = A.map normA := ⟨_, rfl⟩
  have hwfN : ∀ a ∈ N, WfA a := fun a ha => by rw [hN] at ha; obtain ⟨b, hb, rfl⟩ := List.mem_map.1 ha; exact wf_normA (hwfA b hb)
  have hNl : N.length ≤ 20 := by rw [hN, List.length_map]; exact hAl
  have hNb : N.map convA = N := by rw [hN]; exact args_back _ _ hpg
  have hpN : properGo ll N = true := by rw [hN]; exact proper_norm _ _ hpg
  have hbN : methodB cn mn ll N = methodB cn mn ll A := by unfold methodB; rw [hN, encM_norm]
  have hpmN : properM cn mn N = true := by unfold properM; rw [hq]; exact hpN
  obtain ⟨bs, hbs⟩ : ∃ bs, bs = methodB cn mn ll A := ⟨_, rfl⟩
  have hbsl : bs.length ≤ 1000000 := by rw [hbs]; exact methodB_len hpg hll
  obtain ⟨aa, ac, rfl, _⟩ := id h
  obtain ⟨so, sc, rfl⟩ := hsl
  -- contracts
  have cMb : ∀ (W : World) (B : Nat → Prop) (v : Value) (L : List MArg), L = A ∨ L = N → ASl B W v L → Calls Tryz.prog 13 #[.agg #[.int .i64 (cn : Int), .int .i64 (mn : Int), v]] W fun e w' => ∃ k g, e = .returned (.slice (some ⟨g, 0, none⟩) bs.length k) ∧ Row w' (.slice (some ⟨g, 0, none⟩) bs.length k) g bs ∧ W.heap.size ≤ g ∧ Kept [] W w' := by
    intro W B v L hL hv
    have h1 : (∀ a ∈ L, WfA a) ∧ L.length ≤ 2147483647 ∧ properGo ll L = true ∧ methodB cn mn ll L = bs := by
      rcases hL with rfl | rfl
      · exact ⟨hwfA, by omega, hpg, hbs.symm⟩
      · exact ⟨hwfN, by omega, hpN, by rw [hbN, hbs]⟩
    refine (mb_any B W cn mn hcm.1 hcm.2 v L hv h1.1 h1.2.1 ll hq h1.2.2.1).mono ?_
    rw [h1.2.2.2]
    rintro e w' ⟨v', g, rfl, r1, r2, r3⟩
    obtain ⟨k, rfl, _⟩ := id r1
    exact ⟨k, g, rfl, r1, r2, r3⟩
  have cPm : ∀ (W : World) (B : Nat → Prop) (v : Value) (L : List MArg), L = A ∨ L = N → ASl B W v L → Calls Tryz.prog 12 #[.agg #[.int .i64 (cn : Int), .int .i64 (mn : Int), v]] W fun e w' => e = .returned (.bool true) ∧ Kept [] W w' := by
    intro W B v L hL hv
    rcases hL with rfl | rfl
    · refine (pmeth_any B W cn mn v L hv hwfA (by omega)).mono fun e w' h => ?_
      rw [hp] at h; exact h
    · refine (pmeth_any B W cn mn v L hv hwfN (by omega)).mono fun e w' h => ?_
      rw [hpmN] at h; exact h
  have cM1 : ∀ W, ASl (There w) W (.slice aa args.length ac) args → Calls Tryz.prog 11 #[.agg #[.int .i64 (cn : Int), .int .i64 (mn : Int), .slice aa args.length ac]] W fun e w' => ∃ oa ob, e = .returned (.agg #[.int .i64 (cn : Int), .int .i64 (mn : Int), .slice oa A.length ob]) ∧ ASl (fun b => W.heap.size ≤ b) w' (.slice oa A.length ob) A ∧ Kept [] W w' := fun W hW => by
    refine (lmethod_any _ W cn mn _ args hW hwf hl).mono ?_
    rw [← hA]
    rintro e w' ⟨out, rfl, r1, r2⟩
    obtain ⟨oa, ob, rfl, _⟩ := id r1
    exact ⟨oa, ob, rfl, r1, r2⟩
  have cM2 : ∀ W B v, ASl B W v N → Calls Tryz.prog 11 #[.agg #[.int .i64 (cn : Int), .int .i64 (mn : Int), v]] W fun e w' => ∃ oa ob, e = .returned (.agg #[.int .i64 (cn : Int), .int .i64 (mn : Int), .slice oa N.length ob]) ∧ ASl (fun b => W.heap.size ≤ b) w' (.slice oa N.length ob) N ∧ Kept [] W w' := fun W B v hW => by
    refine (lmethod_any B W cn mn v N hW hwfN (by omega)).mono ?_
    rw [hNb]
    rintro e w' ⟨out, rfl, r1, r2⟩
    obtain ⟨oa, ob, rfl, _⟩ := id r1
    exact ⟨oa, ob, rfl, r1, r2⟩
  have cFb : ∀ W g k, Row W (.slice (some ⟨g, 0, none⟩) bs.length k) g bs → Calls Tryz.prog 8 #[.int .i64 1, .int .i64 (ch : Int), .slice (some ⟨g, 0, none⟩) bs.length k] W fun e w' => ∃ k' g', e = .returned (.slice (some ⟨g', 0, none⟩) (bs.length + 8) k') ∧ Row w' (.slice (some ⟨g', 0, none⟩) (bs.length + 8) k') g' (frameB 1 ch bs) ∧ W.heap.size ≤ g' ∧ Kept [] W w' := fun W g k hr => by
    have hsr := hr.src bs.length (Nat.le_refl _) k
    rw [List.take_of_length_le (Nat.le_refl _)] at hsr
    refine (frameBytes_any 1 ch _ bs W (by omega) hch g hsr hbsl ⟨_, _, rfl⟩).mono ?_
    rintro e w' ⟨v, g', rfl, r1, r2, r3⟩
    obtain ⟨k', rfl, _⟩ := id r1
    rw [frameB_length] at r1 ⊢
    exact ⟨k', g', rfl, r1, r2, r3⟩
  have cPf : ∀ W g k, Row W (.slice (some ⟨g, 0, none⟩) (bs.length + 8 + n) k) g (frameB 1 ch bs ++ behind) → Calls Tryz.prog 9 #[.slice (some ⟨g, 0, none⟩) (bs.length + 8 + n) k] W fun e w' => ∃ out oc base, e = .returned (.tuple #[.agg (methCells ch cn mn (.slice out N.length oc)).toArray, .int .i64 (n : Int), .bool true]) ∧ W.heap.size ≤ base ∧ ASl (fun b => base ≤ b) w' (.slice out N.length oc) N ∧ Kept [] W w' := fun W g k hr => by
    subst hn
    refine (parse_ok _ W ⟨_, _, _, rfl⟩ (MethGot ch cn mn A behind.length) (fun w1 hk1 => ?_)).mono ?_
    · have := got_meth hpc A hpg hwfA ch hch hcm.1 hcm.2 (by rw [← hbs]; exact hbsl) (by omega) behind (by omega) (.slice (some ⟨g, 0, none⟩) (bs.length + 8 + behind.length) k) g w1
      rw [← hbs] at this
      exact this (hr.kept hk1 (by simp)).all
    · rintro e w' ⟨cs, n7, base, w8, S, rfl, x1, x2, x3, x4, ⟨rfl, out, rfl, x5⟩, x7, x8⟩
      rw [← hN] at x5
      obtain ⟨oa, oc, rfl, _⟩ := id x5
      exact ⟨oa, oc, base, rfl, x3, x5.kept x7 (fun b hb hm => by have := x4 b hm; have hb : base ≤ b := hb; omega), x8⟩
  obtain ⟨F0, hF0⟩ : ∃ F0, F0 = frame0 := ⟨_, rfl⟩
  have k0 : ∀ w : World, (Instr.alloc 35 true (.tuple #[])).run Tryz.prog w = .ok (.pointer (some ⟨w.heap.size, 0, none⟩)) (w.alloc (.cells F0.toArray 35)) := by subst hF0; exact alloc_frame
  have l0 : F0.length = 40 := by subst hF0; rfl
  have d1 : decide ((ch : Int) < 0) = false := decide_eq_false (by omega)
  have d2 : decide ((65535 : Int) < ch) = false := decide_eq_false (by omega)
  have d3 : decide ((2147483647 : Int) < n) = false := decide_eq_false (by omega)
  have d4 : decide ((100 : Int) < n) = false := decide_eq_false (by omega)
  have C := Lib.hid (And.intro cM1 (And.intro cM2 (And.intro cMb (And.intro cPm (And.intro cFb cPf)))))
  have HS := Lib.hid (And.intro hs (And.intro h hn)); have K0 := Lib.hid (And.intro k0 l0); have HL := Lib.hid (And.intro hl (And.intro hbsl hbl))
  clear cM1 cM2 cMb cPm cFb cPf hs h hn k0 l0 hF0 hl hbsl hN hA hwfA hwfN hNb hpN hpg hp hpmN hpc hq hbN hbs hAl hNl hwf hcm hll he hch hbl
  go_enter Tryz.func4, Tryz.ntmps4
  go_upto_region 1 with fail
  obtain ⟨wA, hwA⟩ : ∃ wA, wA = w.alloc (.cells #[.int .i64 (cn : Int), .int .i64 (mn : Int), .slice aa args.length ac] 27) := ⟨_, rfl⟩
  have hbA : Blk wA w.heap.size #[.int .i64 (cn : Int), .int .i64 (mn : Int), .slice aa args.length ac] 27 := by rw [hwA]; exact Blk.new w _ _
  have hkA : Kept [] w wA := by rw [hwA]; exact (Kept.refl [] w).alloc _
  rw [← hwA]
  obtain ⟨M0, hM0⟩ : ∃ b, b = w.heap.size := ⟨_, rfl⟩
  rw [← hM0] at hbA ⊢
  have HA := Lib.hid (And.intro hbA hkA); clear hbA hkA hwA hM0
  go_upto_region 3 with (first
    | (refine wpList_load_cells rfl 27 (.tmp 4) rfl _ rfl _ HA.out.1.three _ Tryz.underlying27 rfl size_iMeth ?_)
    | (go_at_call 10; have hq := zzFits1_yes cn mn aa args.length ac HL.out.1 wA; (with_reducible refine hq.mono ?_); clear hq; rintro e w1 ⟨rfl, hk⟩; have HA1 := Lib.hid (And.intro (HA.out.1.kept hk (by simp)) (HA.out.2.trans hk (by simp))); clear hk))
  go_upto_region 4 with (first
    | (refine wpList_load_cells rfl 27 (.tmp 4) rfl _ rfl _ HA1.out.1.three _ Tryz.underlying27 rfl size_iMeth ?_)
    | (go_at_call 11; have hq := C.out.1 w1 (HS.out.2.1.kept HA1.out.2 (by simp)); (with_reducible refine hq.mono ?_); clear hq; rintro e w2 ⟨xa, xc, rfl, hx, hk⟩; have H2 := Lib.hid (And.intro hx (HA1.out.2.trans hk (by simp))); clear hx hk)
    | (refine wpList_store_row (P := Tryz.prog) rfl rfl 42 (.tmp 7) (.tmp 21) rfl w2.heap.size rfl 42 _ [.int .i64 (cn : Int), .int .i64 (mn : Int), .slice xa A.length xc] (Blk.new w2 _ _) rfl rfl (by intro u hu; simp only [List.mem_cons, List.mem_nil_iff, or_false] at hu; rcases hu with rfl | rfl | rfl <;> rfl) size_sMeth ?_; intro w3 hb3 hk3; have hk3' := ((Kept.refl [] w2).alloc _).trans hk3 (S' := [w2.heap.size]) (fun x hx => .inr (by simp at hx; omega)); have H3 := Lib.hid (And.intro hb3 (And.intro (H2.out.1.kept hk3' (by simp)) (H2.out.2.trans hk3' (by simp)))); clear hb3 hk3 hk3'))
  obtain ⟨X0, hX0⟩ : ∃ b, b = w2.heap.size := ⟨_, rfl⟩
  rw [← hX0] at H3 ⊢
  have HX0 := Lib.hid hX0; clear hX0
  go_upto_region 6 with (first
    | (refine wpList_load_cells_g (by rfl) 42 (.tmp 7) rfl _ rfl _ H3.out.1.three _ Tryz.underlying42 rfl size_sMeth ?_)
    | (go_at_call 12; have hq := C.out.2.2.2.1 w3 _ _ A (.inl rfl) H3.out.2.1; (with_reducible refine hq.mono ?_); clear hq; rintro e w4 ⟨rfl, hk⟩; have H4 := Lib.hid (And.intro (H3.out.1.kept hk (by simp)) (And.intro (H3.out.2.1.kept hk (by simp)) (H3.out.2.2.trans hk (by simp)))); clear hk))
  go_upto_region 7 with (first
    | (refine wpList_load_cells rfl 42 (.tmp 7) rfl _ rfl _ H4.out.1.three _ Tryz.underlying42 rfl size_sMeth ?_)
    | (go_at_call 13; have hq := C.out.2.2.1 w4 _ _ A (.inl rfl) H4.out.2.1; (with_reducible refine hq.mono ?_); clear hq; rintro e w5 ⟨k5, g5, rfl, hr, hg, hk⟩; have H5 := Lib.hid (And.intro hr hk); clear hr hg hk)
    | (go_at_call 8; have hq := C.out.2.2.2.2.1 w5 g5 k5 H5.out.1; (with_reducible refine hq.mono ?_); clear hq; rintro e w6 ⟨k6, g6, rfl, hr, hg, hk⟩; have hk06 := (H4.out.2.2.trans H5.out.2 (by simp)).trans hk (by simp); have hg06 : w.heap.size ≤ g6 := Nat.le_trans (H4.out.2.2.trans H5.out.2 (by simp)).size hg; have H6 := Lib.hid (And.intro hr (And.intro (H5.out.2.trans hk (by simp)) (And.intro hk06 (And.intro hg (HS.out.1.kept hk06 (by simp)))))); clear hr hg hk hk06 hg06)
    | (at_builtin; refine wpList_append_src rfl _ _ 22 22 rfl Tryz.underlying22 Tryz.underlying22 (.slice (some ⟨g6, 0, none⟩) (bs.length + 8) k6) (.slice so n sc) (frameB 1 ch bs) behind (bs.length + 8) n (by rw [frameB_length]) HS.out.2.2 g6 k6 rfl rfl rfl (by obtain ⟨_, _, o⟩ := H6.out.1; rw [frameB_length] at o; exact o) d H6.out.2.2.2.2 (by have := HL.out.2; omega) ?_; intro g7 k7 w7 o1 o2 o3 o4; have H7 := Lib.hid (And.intro o1 (And.intro o2 (And.intro o3 o4))); clear o1 o2 o3 o4)
    | (go_at_call 9; have hq := C.out.2.2.2.2.2 w7 g7 k7 ⟨k7, by rw [List.length_append, frameB_length, HS.out.2.2], by have := H7.out.1; rw [List.length_append, frameB_length, HS.out.2.2]; exact this⟩; (with_reducible refine hq.mono ?_); clear hq; rintro e w8 ⟨oa, oc, base, rfl, hb, ho, hk⟩; have H8 := Lib.hid (And.intro hb (And.intro ho hk)); clear hb ho hk; generalize hFB : methCells ch cn mn (.slice oa N.length oc) = FB; have HFB := Lib.hid hFB; clear hFB)
    | (refine wpList_alloc rfl 8 rfl 35 rfl F0.toArray (K0.out.1 _) ?_; intro w9 h1 h2 h3; have H9 := Lib.hid (And.intro h1 h2); clear h1 h2 h3)
    | (refine wpList_store_row (P := Tryz.prog) rfl rfl 35 (.tmp 8) (.tmp 47) rfl w8.heap.size rfl 35 F0 FB H9.out.1 rfl (by rw [← HFB.out, K0.out.2]; rfl) (by rw [← HFB.out]; exact meth_one _ _ _ _ rfl) (by rw [← HFB.out]; exact frame_size) ?_; intro w10 h1 h2; have h2' := H9.out.2.trans h2 (S' := [w8.heap.size]) (fun x hx => .inr (by simp at hx; omega)); have H10 := Lib.hid (And.intro h1 h2'); clear h1 h2 h2'))
  obtain ⟨FF, hFF⟩ : ∃ b, b = w8.heap.size := ⟨_, rfl⟩
  rw [← hFF] at H10 ⊢
  clear hFF
  have q0 : w10.cell? ⟨FF, 0, none⟩ = some (.int .i64 1) := (H10.out.1.cell 0).trans (by rw [← HFB.out]; rfl)
  have q1 : w10.cell? ⟨FF, 1, none⟩ = some (.int .i64 (ch : Int)) := (H10.out.1.cell 1).trans (by rw [← HFB.out]; rfl)
  have q234 : ∀ j u, [Value.int .i64 (cn : Int), .int .i64 (mn : Int), .slice oa N.length oc][j]? = some u → w10.cell? ((⟨FF, 2, none⟩ : Addr).add j) = some u := fun j u hj => by
    rw [addr_add, H10.out.1.cell, ← HFB.out]
    match j, hj with
    | 0, hj => exact hj
    | 1, hj => exact hj
    | 2, hj => exact hj
  have kA : Kept [] w4 w10 := by
    have hk := H6.out.2.1.trans H7.out.2.2.1 (S' := [g6]) (fun x hx => .inr (by have := H5.out.2.size; have := H6.out.2.2.2.1; simp at hx; omega))
    exact (hk.trans H8.out.2.2 (by simp)).trans H10.out.2 (by simp)
  have HQ := Lib.hid (And.intro q234 (And.intro (H4.out.1.kept kA (by simp)) (And.intro (H4.out.2.1.kept kA (by simp)) (And.intro (H4.out.2.2.trans kA (by simp)) (H8.out.2.1.kept H10.out.2 (by simp))))))
  clear q234 kA
  go_upto_region 10 with (first
    | (refine wpList_load_cells rfl 27 (.tmp 69) rfl ⟨FF, 2, none⟩ rfl _ HQ.out.1 _ Tryz.underlying27 rfl size_iMeth ?_)
    | (go_at_call 11; have hq := C.out.2.1 w10 _ _ HQ.out.2.2.2.2; (with_reducible refine hq.mono ?_); clear hq; rintro e w11 ⟨ya, yc, rfl, hy, hk⟩; have H11 := Lib.hid (And.intro hy hk); clear hy hk)
    | (refine wpList_store_row (P := Tryz.prog) rfl rfl 42 (.tmp 11) (.tmp 71) rfl w11.heap.size rfl 42 _ [.int .i64 (cn : Int), .int .i64 (mn : Int), .slice ya N.length yc] (Blk.new w11 _ _) rfl rfl (by intro u hu; simp only [List.mem_cons, List.mem_nil_iff, or_false] at hu; rcases hu with rfl | rfl | rfl <;> rfl) size_sMeth ?_; intro w12 h1 h2; have h2' := ((Kept.refl [] w11).alloc _).trans h2 (S' := [w11.heap.size]) (fun x hx => .inr (by simp at hx; omega)); have H12 := Lib.hid (And.intro h1 (And.intro (H11.out.1.kept h2' (by simp)) (H11.out.2.trans h2' (by simp)))); clear h1 h2 h2'))
  obtain ⟨Y0, hY0⟩ : ∃ b, b = w11.heap.size := ⟨_, rfl⟩
  rw [← hY0] at H12 ⊢
  clear hY0
  -- the last region, in whatever order
  have lYX : ∀ w', Kept [] w12 w' → w'.cell? ⟨Y0, 0, none⟩ = some (.int .i64 (cn : Int)) ∧ w'.cell? ⟨Y0, 1, none⟩ = some (.int .i64 (mn : Int)) ∧ w'.cell? ⟨Y0, 2, none⟩ = some (.slice ya N.length yc) ∧ w'.cell? ⟨X0, 0, none⟩ = some (.int .i64 (cn : Int)) ∧ w'.cell? ⟨X0, 1, none⟩ = some (.int .i64 (mn : Int)) ∧ w'.cell? ⟨X0, 2, none⟩ = some (.slice xa A.length xc) := fun W hk => by
    have hY := H12.out.1.kept hk (by simp)
    have hX := (HQ.out.2.1.kept H12.out.2.2 (by simp)).kept hk (by simp)
    exact ⟨hY.cell 0, hY.cell 1, hY.cell 2, hX.cell 0, hX.cell 1, hX.cell 2⟩
  have cY : ∀ W, Hid (Kept [] w12 W) → Calls Tryz.prog 13 #[.agg #[.int .i64 (cn : Int), .int .i64 (mn : Int), .slice ya N.length yc]] W fun e w' => ∃ k g, e = .returned (.slice (some ⟨g, 0, none⟩) bs.length k) ∧ Row w' (.slice (some ⟨g, 0, none⟩) bs.length k) g bs ∧ W.heap.size ≤ g ∧ Kept [] W w' := fun W hk => C.out.2.2.1 W _ _ N (.inr rfl) (H12.out.2.1.kept hk.out (by simp))
  have cX : ∀ W, Hid (Kept [] w12 W) → Calls Tryz.prog 13 #[.agg #[.int .i64 (cn : Int), .int .i64 (mn : Int), .slice xa A.length xc]] W fun e w' => ∃ k g, e = .returned (.slice (some ⟨g, 0, none⟩) bs.length k) ∧ Row w' (.slice (some ⟨g, 0, none⟩) bs.length k) g bs ∧ W.heap.size ≤ g ∧ Kept [] W w' := fun W hk => C.out.2.2.1 W _ _ A (.inl rfl) ((HQ.out.2.2.1.kept H12.out.2.2 (by simp)).kept hk.out (by simp))
  have cP : Calls Tryz.prog 12 #[.agg #[.int .i64 (cn : Int), .int .i64 (mn : Int), .slice ya N.length yc]] w12.drew fun e w' => e = .returned (.bool true) ∧ Kept [] w12.drew w' := C.out.2.2.2.1 w12.drew _ _ N (.inr rfl) (H12.out.2.1.kept (Kept.refl [] w12).drew (by simp))
  have HE := Lib.hid (HQ.out.2.2.2.1.trans H12.out.2.2 (by simp))
  have hkd : Hid (Kept [] w12 w12.drew) := Lib.hid (Kept.refl [] w12).drew
  have LYX := Lib.hid lYX; have CY := Lib.hid cY; have CX := Lib.hid cX; have CP := Lib.hid cP
  clear lYX cY cX cP q0 q1
  refine wp_region_noPanic ?_
  refine wp_region_held_drew (S := (fun w' : World => w'.cell? ⟨Y0, 0, none⟩ = some (.int .i64 (cn : Int)) ∧ w'.cell? ⟨Y0, 1, none⟩ = some (.int .i64 (mn : Int)) ∧ w'.cell? ⟨Y0, 2, none⟩ = some (.slice ya N.length yc) ∧ w'.cell? ⟨X0, 0, none⟩ = some (.int .i64 (cn : Int)) ∧ w'.cell? ⟨X0, 1, none⟩ = some (.int .i64 (mn : Int)) ∧ w'.cell? ⟨X0, 2, none⟩ = some (.slice xa A.length xc))) (by kernel_rfl) (by (try dsimp only); exact LYX.out _ (Hid.out (by assumption))) (fun hHeld => ?_)
  refine wpAnyH_take (i := 0) (oi := { dst := some 72, op := Op.load 42 (Operand.tmp 11), type := 42, pos := "laws.go:137", after := #[], guard := none }) (v := ?_) rfl (by kernel_rfl) (by kernel_rfl) (by kernel_rfl) (fun _ _ _ h => h) (Or.inl ⟨by rfl, ?_⟩) (by assumption) ?_
  rotate_left
  · intro w hSw; (try dsimp only at hSw); go_simp; try with_reducible rfl
  try simp only [Act.put, List.setIfInBounds_toArray, List.set_cons_zero, List.set_cons_succ]
  refine wpAnyH_ready (rs := [1]) (by kernel_rfl) (by simp) ?_
  refine AllReadyH.cons (o := { dst := some 73, op := Op.call { callee := Callee.value (Operand.func 12), args := #[Operand.tmp 72], argTypes := #[42] }, type := 4, pos := "laws.go:137", after := #[{ on := 0, ground := Ground.data }], guard := none }) rfl (fun K hK => ?_) AllReadyH.nil
  go_simp
  go_at_call 12; (with_reducible refine CP.out.mono ?_); rintro e wp ⟨rfl, hk⟩; have hd := Lib.hid (Kept.trans hkd.out hk (by simp)); clear hkd hk
  go_wp2_with fail
  refine hK.out _ _ (by (try dsimp only); exact LYX.out _ (Hid.out (by assumption))) (fun hHeld => ?_)
  clear hK K
  try simp only [Act.put, List.setIfInBounds_toArray, List.set_cons_zero, List.set_cons_succ]
  refine wpAnyH_take (i := 2) (oi := { dst := some 74, op := Op.move (Operand.tmp 73), type := 4, pos := "laws.go:137", after := #[{ on := 1, ground := Ground.data }, { on := 1, ground := Ground.chain }], guard := none }) (v := ?_) rfl (by kernel_rfl) (by kernel_rfl) (by kernel_rfl) (fun _ _ _ h => h) (Or.inl ⟨by rfl, ?_⟩) (by assumption) ?_
  rotate_left
  · intro w hSw; (try dsimp only at hSw); go_simp; try with_reducible rfl
  try simp only [Act.put, List.setIfInBounds_toArray, List.set_cons_zero, List.set_cons_succ]
  refine wpAnyH_take (i := 3) (oi := { dst := some 75, op := Op.load 42 (Operand.tmp 11), type := 42, pos := "laws.go:137", after := #[{ on := 2, ground := Ground.guard }], guard := some (2, true) }) (v := ?_) rfl (by kernel_rfl) (by kernel_rfl) (by kernel_rfl) (fun _ _ _ h => h) (Or.inl ⟨by rfl, ?_⟩) (by assumption) ?_
  rotate_left
  · intro w hSw; (try dsimp only at hSw); go_simp; try with_reducible rfl
  try simp only [Act.put, List.setIfInBounds_toArray, List.set_cons_zero, List.set_cons_succ]
  refine wpAnyH_take (i := 6) (oi := { dst := some 78, op := Op.load 42 (Operand.tmp 7), type := 42, pos := "laws.go:137", after := #[{ on := 2, ground := Ground.guard }], guard := some (2, true) }) (v := ?_) rfl (by kernel_rfl) (by kernel_rfl) (by kernel_rfl) (fun _ _ _ h => h) (Or.inl ⟨by rfl, ?_⟩) (by assumption) ?_
  rotate_left
  · intro w hSw; (try dsimp only at hSw); go_simp; try with_reducible rfl
  try simp only [Act.put, List.setIfInBounds_toArray, List.set_cons_zero, List.set_cons_succ]
  refine wpAnyH_ready (rs := [4]) (by kernel_rfl) (by simp) ?_
  refine AllReadyH.cons (o := { dst := some 76, op := Op.call { callee := Callee.value (Operand.func 13), args := #[Operand.tmp 75], argTypes := #[42] }, type := 22, pos := "laws.go:137", after := #[{ on := 3, ground := Ground.data }, { on := 2, ground := Ground.chain }, { on := 2, ground := Ground.guard }], guard := some (2, true) }) rfl (fun K hK => ?_) AllReadyH.nil
  go_simp
  go_at_call 13; have hq := CY.out _ (by assumption); (with_reducible refine hq.mono ?_); clear hq; rintro e wy ⟨ky, gy, rfl, hr, hg, hk⟩; have hzy := Lib.hid (Kept.refl [] wy); have hdy : Hid (Kept [] w12 wy) := Lib.hid (Kept.trans (Hid.out (by assumption)) hk (by simp)); have hsy := Lib.hid hk; have hvy := Lib.hid (fun W (hW : Hid (Kept [] wy W)) => conv_row (hr.kept hW.out (by simp)) rfl); clear hr hg hk
  go_wp2_with fail
  refine hK.out _ _ (by (try dsimp only); exact LYX.out _ (Hid.out (by assumption))) (fun hHeld => ?_)
  clear hK K
  try simp only [Act.put, List.setIfInBounds_toArray, List.set_cons_zero, List.set_cons_succ]
  refine wpAnyH_ready (rs := [5, 7]) (by kernel_rfl) (by simp) ?_
  refine AllReadyH.cons (o := { dst := some 77, op := Op.convert 22 9 (Operand.tmp 76), type := 9, pos := "laws.go:137", after := #[{ on := 4, ground := Ground.data }, { on := 2, ground := Ground.guard }], guard := some (2, true) }) rfl (fun K hK => ?_) (AllReadyH.cons (o := { dst := some 79, op := Op.call { callee := Callee.value (Operand.func 13), args := #[Operand.tmp 78], argTypes := #[42] }, type := 22, pos := "laws.go:137", after := #[{ on := 6, ground := Ground.data }, { on := 4, ground := Ground.chain }, { on := 2, ground := Ground.guard }], guard := some (2, true) }) rfl (fun K hK => ?_) AllReadyH.nil)
  ·
    (first | have hq := hvy.out wx (by assumption) | have hq := hvy.out wy (by assumption))
    go_simp
    refine hK.out _ _ (by (try dsimp only); exact LYX.out _ (Hid.out (by assumption))) (fun hHeld => ?_)
    clear hK K
    try simp only [Act.put, List.setIfInBounds_toArray, List.set_cons_zero, List.set_cons_succ]
    refine wpAnyH_ready (rs := [7]) (by kernel_rfl) (by simp) ?_
    refine AllReadyH.cons (o := { dst := some 79, op := Op.call { callee := Callee.value (Operand.func 13), args := #[Operand.tmp 78], argTypes := #[42] }, type := 22, pos := "laws.go:137", after := #[{ on := 6, ground := Ground.data }, { on := 4, ground := Ground.chain }, { on := 2, ground := Ground.guard }], guard := some (2, true) }) rfl (fun K hK => ?_) AllReadyH.nil
    go_simp
    go_at_call 13; have hq := CX.out _ (by assumption); (with_reducible refine hq.mono ?_); clear hq; rintro e wx ⟨kx, gx, rfl, hr, hg, hk⟩; have hzx := Lib.hid (Kept.refl [] wx); have hdx : Hid (Kept [] w12 wx) := Lib.hid (Kept.trans (Hid.out (by assumption)) hk (by simp)); have hsx := Lib.hid hk; have hvx := Lib.hid (fun W (hW : Hid (Kept [] wx W)) => conv_row (hr.kept hW.out (by simp)) rfl); clear hr hg hk
    go_wp2_with fail
    refine hK.out _ _ (by (try dsimp only); exact LYX.out _ (Hid.out (by assumption))) (fun hHeld => ?_)
    clear hK K
    try simp only [Act.put, List.setIfInBounds_toArray, List.set_cons_zero, List.set_cons_succ]
    refine wpAnyH_ready (rs := [8]) (by kernel_rfl) (by simp) ?_
    refine AllReadyH.cons (o := { dst := some 80, op := Op.convert 22 9 (Operand.tmp 79), type := 9, pos := "laws.go:137", after := #[{ on := 7, ground := Ground.data }, { on := 2, ground := Ground.guard }], guard := some (2, true) }) rfl (fun K hK => ?_) AllReadyH.nil
    (first | have hq := hvx.out wy (by assumption) | have hq := hvx.out wx (by assumption))
    go_simp
    refine hK.out _ _ (by (try dsimp only); exact LYX.out _ (Hid.out (by assumption))) (fun hHeld => ?_)
    clear hK K
    try simp only [Act.put, List.setIfInBounds_toArray, List.set_cons_zero, List.set_cons_succ]
    refine wpAnyH_take (i := 9) (oi := { dst := some 81, op := Op.binOp BinOp.eql 9 (Operand.tmp 77) (Operand.tmp 80) 9, type := 4, pos := "laws.go:137", after := #[{ on := 5, ground := Ground.data }, { on := 8, ground := Ground.data }, { on := 2, ground := Ground.guard }], guard := some (2, true) }) (v := ?_) rfl (by kernel_rfl) (by kernel_rfl) (by kernel_rfl) (fun _ _ _ h => h) (Or.inl ⟨by rfl, ?_⟩) (by assumption) ?_
    rotate_left
    · intro w hSw; (try dsimp only at hSw); go_simp; try with_reducible rfl
    try simp only [Act.put, List.setIfInBounds_toArray, List.set_cons_zero, List.set_cons_succ]
    refine wpAnyH_take (i := 10) (oi := { dst := some 82, op := Op.pick (Operand.tmp 74) (Operand.tmp 81) (Operand.const (Value.bool false)), type := 4, pos := "laws.go:137", after := #[{ on := 2, ground := Ground.data }, { on := 9, ground := Ground.data }], guard := none }) (v := ?_) rfl (by kernel_rfl) (by kernel_rfl) (by kernel_rfl) (fun _ _ _ h => h) (Or.inl ⟨by rfl, ?_⟩) (by assumption) ?_
    rotate_left
    · intro w hSw; (try dsimp only at hSw); go_simp; try with_reducible rfl
    try simp only [Act.put, List.setIfInBounds_toArray, List.set_cons_zero, List.set_cons_succ]
    refine wpAnyH_take (i := 11) (oi := { dst := some 83, op := Op.move (Operand.tmp 82), type := 4, pos := "laws.go:137", after := #[{ on := 10, ground := Ground.data }, { on := 7, ground := Ground.chain }], guard := none }) (v := ?_) rfl (by kernel_rfl) (by kernel_rfl) (by kernel_rfl) (fun _ _ _ h => h) (Or.inl ⟨by rfl, ?_⟩) (by assumption) ?_
    rotate_left
    · intro w hSw; (try dsimp only at hSw); go_simp; try with_reducible rfl
    try simp only [Act.put, List.setIfInBounds_toArray, List.set_cons_zero, List.set_cons_succ]
    refine wpAnyH_ready (rs := [12]) (by kernel_rfl) (by simp) ?_
    refine AllReadyH.cons (o := { dst := some 84, op := Op.call { callee := Callee.value (Operand.func 7), args := #[], argTypes := #[] }, type := 4, pos := "laws.go:137", after := #[{ on := 11, ground := Ground.chain }, { on := 11, ground := Ground.guard }], guard := some (11, true) }) rfl (fun K hK => ?_) AllReadyH.nil
    go_simp
    go_at_call 7; (with_reducible refine (works_any _).mono ?_); rintro e wz ⟨rfl, hk⟩; have hdz : Hid (Kept [] w12 wz) := Lib.hid (Kept.trans (Hid.out (by assumption)) hk (by simp)); clear hk
    go_wp2_with fail
    refine hK.out _ _ (by (try dsimp only); exact LYX.out _ (Hid.out (by assumption))) (fun hHeld => ?_)
    clear hK K
    try simp only [Act.put, List.setIfInBounds_toArray, List.set_cons_zero, List.set_cons_succ]
    refine wpAnyH_take (i := 13) (oi := { dst := some 85, op := Op.pick (Operand.tmp 83) (Operand.tmp 84) (Operand.const (Value.bool false)), type := 4, pos := "laws.go:137", after := #[{ on := 11, ground := Ground.data }, { on := 12, ground := Ground.data }], guard := none }) (v := ?_) rfl (by kernel_rfl) (by kernel_rfl) (by kernel_rfl) (fun _ _ _ h => h) (Or.inl ⟨by rfl, ?_⟩) (by assumption) ?_
    rotate_left
    · intro w hSw; (try dsimp only at hSw); go_simp; try with_reducible rfl
    try simp only [Act.put, List.setIfInBounds_toArray, List.set_cons_zero, List.set_cons_succ]
    refine wpAnyH_take (i := 14) (oi := { dst := some 6, op := Op.assign (Operand.tmp 85), type := 4, pos := "laws.go:137", after := #[{ on := 13, ground := Ground.data }, { on := 12, ground := Ground.chain }, { on := 0, ground := Ground.phase }, { on := 1, ground := Ground.phase }, { on := 2, ground := Ground.phase }, { on := 3, ground := Ground.phase }, { on := 4, ground := Ground.phase }, { on := 5, ground := Ground.phase }, { on := 6, ground := Ground.phase }, { on := 7, ground := Ground.phase }, { on := 8, ground := Ground.phase }, { on := 9, ground := Ground.phase }, { on := 10, ground := Ground.phase }, { on := 11, ground := Ground.phase }, { on := 12, ground := Ground.phase }, { on := 13, ground := Ground.phase }], guard := none }) (v := ?_) rfl (by kernel_rfl) (by kernel_rfl) (by kernel_rfl) (fun _ _ _ h => h) (Or.inl ⟨by rfl, ?_⟩) (by assumption) ?_
    rotate_left
    · intro w hSw; (try dsimp only at hSw); go_simp; try with_reducible rfl
    try simp only [Act.put, List.setIfInBounds_toArray, List.set_cons_zero, List.set_cons_succ]
    refine wpAnyH_done (by kernel_rfl) ?_ _
    refine NoPanic.normal ?_
    go_wp2_with fail
    go_ret
    exact ⟨rfl, HE.out.trans hdz.out (by simp)⟩
  ·
    go_simp
    go_at_call 13; have hq := CX.out _ (by assumption); (with_reducible refine hq.mono ?_); clear hq; rintro e wx ⟨kx, gx, rfl, hr, hg, hk⟩; have hzx := Lib.hid (Kept.refl [] wx); have hdx : Hid (Kept [] w12 wx) := Lib.hid (Kept.trans (Hid.out (by assumption)) hk (by simp)); have hsx := Lib.hid hk; have hvx := Lib.hid (fun W (hW : Hid (Kept [] wx W)) => conv_row (hr.kept hW.out (by simp)) rfl); clear hr hg hk
    go_wp2_with fail
    refine hK.out _ _ (by (try dsimp only); exact LYX.out _ (Hid.out (by assumption))) (fun hHeld => ?_)
    clear hK K
    try simp only [Act.put, List.setIfInBounds_toArray, List.set_cons_zero, List.set_cons_succ]
    refine wpAnyH_ready (rs := [5, 8]) (by kernel_rfl) (by simp) ?_
    refine AllReadyH.cons (o := { dst := some 77, op := Op.convert 22 9 (Operand.tmp 76), type := 9, pos := "laws.go:137", after := #[{ on := 4, ground := Ground.data }, { on := 2, ground := Ground.guard }], guard := some (2, true) }) rfl (fun K hK => ?_) (AllReadyH.cons (o := { dst := some 80, op := Op.convert 22 9 (Operand.tmp 79), type := 9, pos := "laws.go:137", after := #[{ on := 7, ground := Ground.data }, { on := 2, ground := Ground.guard }], guard := some (2, true) }) rfl (fun K hK => ?_) AllReadyH.nil)
    ·
      (first | have hq := hvy.out wx (by assumption) | have hq := hvy.out wy (by assumption))
      go_simp
      refine hK.out _ _ (by (try dsimp only); exact LYX.out _ (Hid.out (by assumption))) (fun hHeld => ?_)
      clear hK K
      try simp only [Act.put, List.setIfInBounds_toArray, List.set_cons_zero, List.set_cons_succ]
      refine wpAnyH_ready (rs := [8]) (by kernel_rfl) (by simp) ?_
      refine AllReadyH.cons (o := { dst := some 80, op := Op.convert 22 9 (Operand.tmp 79), type := 9, pos := "laws.go:137", after := #[{ on := 7, ground := Ground.data }, { on := 2, ground := Ground.guard }], guard := some (2, true) }) rfl (fun K hK => ?_) AllReadyH.nil
      (first | have hq := hvx.out wy (by assumption) | have hq := hvx.out wx (by assumption))
      go_simp
      refine hK.out _ _ (by (try dsimp only); exact LYX.out _ (Hid.out (by assumption))) (fun hHeld => ?_)
      clear hK K
      try simp only [Act.put, List.setIfInBounds_toArray, List.set_cons_zero, List.set_cons_succ]
      refine wpAnyH_take (i := 9) (oi := { dst := some 81, op := Op.binOp BinOp.eql 9 (Operand.tmp 77) (Operand.tmp 80) 9, type := 4, pos := "laws.go:137", after := #[{ on := 5, ground := Ground.data }, { on := 8, ground := Ground.data }, { on := 2, ground := Ground.guard }], guard := some (2, true) }) (v := ?_) rfl (by kernel_rfl) (by kernel_rfl) (by kernel_rfl) (fun _ _ _ h => h) (Or.inl ⟨by rfl, ?_⟩) (by assumption) ?_
      rotate_left
      · intro w hSw; (try dsimp only at hSw); go_simp; try with_reducible rfl
      try simp only [Act.put, List.setIfInBounds_toArray, List.set_cons_zero, List.set_cons_succ]
      refine wpAnyH_take (i := 10) (oi := { dst := some 82, op := Op.pick (Operand.tmp 74) (Operand.tmp 81) (Operand.const (Value.bool false)), type := 4, pos := "laws.go:137", after := #[{ on := 2, ground := Ground.data }, { on := 9, ground := Ground.data }], guard := none }) (v := ?_) rfl (by kernel_rfl) (by kernel_rfl) (by kernel_rfl) (fun _ _ _ h => h) (Or.inl ⟨by rfl, ?_⟩) (by assumption) ?_
      rotate_left
      · intro w hSw; (try dsimp only at hSw); go_simp; try with_reducible rfl
      try simp only [Act.put, List.setIfInBounds_toArray, List.set_cons_zero, List.set_cons_succ]
      refine wpAnyH_take (i := 11) (oi := { dst := some 83, op := Op.move (Operand.tmp 82), type := 4, pos := "laws.go:137", after := #[{ on := 10, ground := Ground.data }, { on := 7, ground := Ground.chain }], guard := none }) (v := ?_) rfl (by kernel_rfl) (by kernel_rfl) (by kernel_rfl) (fun _ _ _ h => h) (Or.inl ⟨by rfl, ?_⟩) (by assumption) ?_
      rotate_left
      · intro w hSw; (try dsimp only at hSw); go_simp; try with_reducible rfl
      try simp only [Act.put, List.setIfInBounds_toArray, List.set_cons_zero, List.set_cons_succ]
      refine wpAnyH_ready (rs := [12]) (by kernel_rfl) (by simp) ?_
      refine AllReadyH.cons (o := { dst := some 84, op := Op.call { callee := Callee.value (Operand.func 7), args := #[], argTypes := #[] }, type := 4, pos := "laws.go:137", after := #[{ on := 11, ground := Ground.chain }, { on := 11, ground := Ground.guard }], guard := some (11, true) }) rfl (fun K hK => ?_) AllReadyH.nil
      go_simp
      go_at_call 7; (with_reducible refine (works_any _).mono ?_); rintro e wz ⟨rfl, hk⟩; have hdz : Hid (Kept [] w12 wz) := Lib.hid (Kept.trans (Hid.out (by assumption)) hk (by simp)); clear hk
      go_wp2_with fail
      refine hK.out _ _ (by (try dsimp only); exact LYX.out _ (Hid.out (by assumption))) (fun hHeld => ?_)
      clear hK K
      try simp only [Act.put, List.setIfInBounds_toArray, List.set_cons_zero, List.set_cons_succ]
      refine wpAnyH_take (i := 13) (oi := { dst := some 85, op := Op.pick (Operand.tmp 83) (Operand.tmp 84) (Operand.const (Value.bool false)), type := 4, pos := "laws.go:137", after := #[{ on := 11, ground := Ground.data }, { on := 12, ground := Ground.data }], guard := none }) (v := ?_) rfl (by kernel_rfl) (by kernel_rfl) (by kernel_rfl) (fun _ _ _ h => h) (Or.inl ⟨by rfl, ?_⟩) (by assumption) ?_
      rotate_left
      · intro w hSw; (try dsimp only at hSw); go_simp; try with_reducible rfl
      try simp only [Act.put, List.setIfInBounds_toArray, List.set_cons_zero, List.set_cons_succ]
      refine wpAnyH_take (i := 14) (oi := { dst := some 6, op := Op.assign (Operand.tmp 85), type := 4, pos := "laws.go:137", after := #[{ on := 13, ground := Ground.data }, { on := 12, ground := Ground.chain }, { on := 0, ground := Ground.phase }, { on := 1, ground := Ground.phase }, { on := 2, ground := Ground.phase }, { on := 3, ground := Ground.phase }, { on := 4, ground := Ground.phase }, { on := 5, ground := Ground.phase }, { on := 6, ground := Ground.phase }, { on := 7, ground := Ground.phase }, { on := 8, ground := Ground.phase }, { on := 9, ground := Ground.phase }, { on := 10, ground := Ground.phase }, { on := 11, ground := Ground.phase }, { on := 12, ground := Ground.phase }, { on := 13, ground := Ground.phase }], guard := none }) (v := ?_) rfl (by kernel_rfl) (by kernel_rfl) (by kernel_rfl) (fun _ _ _ h => h) (Or.inl ⟨by rfl, ?_⟩) (by assumption) ?_
      rotate_left
      · intro w hSw; (try dsimp only at hSw); go_simp; try with_reducible rfl
      try simp only [Act.put, List.setIfInBounds_toArray, List.set_cons_zero, List.set_cons_succ]
      refine wpAnyH_done (by kernel_rfl) ?_ _
      refine NoPanic.normal ?_
      go_wp2_with fail
      go_ret
      exact ⟨rfl, HE.out.trans hdz.out (by simp)⟩
    ·
      (first | have hq := hvx.out wy (by assumption) | have hq := hvx.out wx (by assumption))
      go_simp
      refine hK.out _ _ (by (try dsimp only); exact LYX.out _ (Hid.out (by assumption))) (fun hHeld => ?_)
      clear hK K
      try simp only [Act.put, List.setIfInBounds_toArray, List.set_cons_zero, List.set_cons_succ]
      refine wpAnyH_ready (rs := [5]) (by kernel_rfl) (by simp) ?_
      refine AllReadyH.cons (o := { dst := some 77, op := Op.convert 22 9 (Operand.tmp 76), type := 9, pos := "laws.go:137", after := #[{ on := 4, ground := Ground.data }, { on := 2, ground := Ground.guard }], guard := some (2, true) }) rfl (fun K hK => ?_) AllReadyH.nil
      (first | have hq := hvy.out wx (by assumption) | have hq := hvy.out wy (by assumption))
      go_simp
      refine hK.out _ _ (by (try dsimp only); exact LYX.out _ (Hid.out (by assumption))) (fun hHeld => ?_)
      clear hK K
      try simp only [Act.put, List.setIfInBounds_toArray, List.set_cons_zero, List.set_cons_succ]
      refine wpAnyH_take (i := 9) (oi := { dst := some 81, op := Op.binOp BinOp.eql 9 (Operand.tmp 77) (Operand.tmp 80) 9, type := 4, pos := "laws.go:137", after := #[{ on := 5, ground := Ground.data }, { on := 8, ground := Ground.data }, { on := 2, ground := Ground.guard }], guard := some (2, true) }) (v := ?_) rfl (by kernel_rfl) (by kernel_rfl) (by kernel_rfl) (fun _ _ _ h => h) (Or.inl ⟨by rfl, ?_⟩) (by assumption) ?_
      rotate_left
      · intro w hSw; (try dsimp only at hSw); go_simp; try with_reducible rfl
      try simp only [Act.put, List.setIfInBounds_toArray, List.set_cons_zero, List.set_cons_succ]
      refine wpAnyH_take (i := 10) (oi := { dst := some 82, op := Op.pick (Operand.tmp 74) (Operand.tmp 81) (Operand.const (Value.bool false)), type := 4, pos := "laws.go:137", after := #[{ on := 2, ground := Ground.data }, { on := 9, ground := Ground.data }], guard := none }) (v := ?_) rfl (by kernel_rfl) (by kernel_rfl) (by kernel_rfl) (fun _ _ _ h => h) (Or.inl ⟨by rfl, ?_⟩) (by assumption) ?_
      rotate_left
      · intro w hSw; (try dsimp only at hSw); go_simp; try with_reducible rfl
      try simp only [Act.put, List.setIfInBounds_toArray, List.set_cons_zero, List.set_cons_succ]
      refine wpAnyH_take (i := 11) (oi := { dst := some 83, op := Op.move (Operand.tmp 82), type := 4, pos := "laws.go:137", after := #[{ on := 10, ground := Ground.data }, { on := 7, ground := Ground.chain }], guard := none }) (v := ?_) rfl (by kernel_rfl) (by kernel_rfl) (by kernel_rfl) (fun _ _ _ h => h) (Or.inl ⟨by rfl, ?_⟩) (by assumption) ?_
      rotate_left
      · intro w hSw; (try dsimp only at hSw); go_simp; try with_reducible rfl
      try simp only [Act.put, List.setIfInBounds_toArray, List.set_cons_zero, List.set_cons_succ]
      refine wpAnyH_ready (rs := [12]) (by kernel_rfl) (by simp) ?_
      refine AllReadyH.cons (o := { dst := some 84, op := Op.call { callee := Callee.value (Operand.func 7), args := #[], argTypes := #[] }, type := 4, pos := "laws.go:137", after := #[{ on := 11, ground := Ground.chain }, { on := 11, ground := Ground.guard }], guard := some (11, true) }) rfl (fun K hK => ?_) AllReadyH.nil
      go_simp
      go_at_call 7; (with_reducible refine (works_any _).mono ?_); rintro e wz ⟨rfl, hk⟩; have hdz : Hid (Kept [] w12 wz) := Lib.hid (Kept.trans (Hid.out (by assumption)) hk (by simp)); clear hk
      go_wp2_with fail
      refine hK.out _ _ (by (try dsimp only); exact LYX.out _ (Hid.out (by assumption))) (fun hHeld => ?_)
      clear hK K
      try simp only [Act.put, List.setIfInBounds_toArray, List.set_cons_zero, List.set_cons_succ]
      refine wpAnyH_take (i := 13) (oi := { dst := some 85, op := Op.pick (Operand.tmp 83) (Operand.tmp 84) (Operand.const (Value.bool false)), type := 4, pos := "laws.go:137", after := #[{ on := 11, ground := Ground.data }, { on := 12, ground := Ground.data }], guard := none }) (v := ?_) rfl (by kernel_rfl) (by kernel_rfl) (by kernel_rfl) (fun _ _ _ h => h) (Or.inl ⟨by rfl, ?_⟩) (by assumption) ?_
      rotate_left
      · intro w hSw; (try dsimp only at hSw); go_simp; try with_reducible rfl
      try simp only [Act.put, List.setIfInBounds_toArray, List.set_cons_zero, List.set_cons_succ]
      refine wpAnyH_take (i := 14) (oi := { dst := some 6, op := Op.assign (Operand.tmp 85), type := 4, pos := "laws.go:137", after := #[{ on := 13, ground := Ground.data }, { on := 12, ground := Ground.chain }, { on := 0, ground := Ground.phase }, { on := 1, ground := Ground.phase }, { on := 2, ground := Ground.phase }, { on := 3, ground := Ground.phase }, { on := 4, ground := Ground.phase }, { on := 5, ground := Ground.phase }, { on := 6, ground := Ground.phase }, { on := 7, ground := Ground.phase }, { on := 8, ground := Ground.phase }, { on := 9, ground := Ground.phase }, { on := 10, ground := Ground.phase }, { on := 11, ground := Ground.phase }, { on := 12, ground := Ground.phase }, { on := 13, ground := Ground.phase }], guard := none }) (v := ?_) rfl (by kernel_rfl) (by kernel_rfl) (by kernel_rfl) (fun _ _ _ h => h) (Or.inl ⟨by rfl, ?_⟩) (by assumption) ?_
      rotate_left
      · intro w hSw; (try dsimp only at hSw); go_simp; try with_reducible rfl
      try simp only [Act.put, List.setIfInBounds_toArray, List.set_cons_zero, List.set_cons_succ]
      refine wpAnyH_done (by kernel_rfl) ?_ _
      refine NoPanic.normal ?_
      go_wp2_with fail
      go_ret
      exact ⟨rfl, HE.out.trans hdz.out (by simp)⟩
end Go.Proofs.YtkcdakohmfodjaaGreat
