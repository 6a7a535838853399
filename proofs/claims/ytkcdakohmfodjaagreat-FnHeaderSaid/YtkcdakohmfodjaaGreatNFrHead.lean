/-
  Lemmas on the way to the statement of YtkcdakohmfodjaaGreatHeader, joined out of these texts: FrHead. No condition.
-/
import Derived.Deep.MidRow
import Derived.Test.YtkcdakohmfodjaaGreatNOpenP
import Derived.Test.YtkcdakohmfodjaaGreatNPrd
namespace Go.Proofs.YtkcdakohmfodjaaGreat
open Go.RowKit
set_option linter.unusedVariables false
set_option linter.unusedSimpArgs false
theorem putAt_set : ∀ (i : Nat) (cs : List Value) (_ : i < cs.length) (v : Value) (r : List Value), putAt (cs.set i v) (i + 1) r = putAt cs i (v :: r)
  | 0, c :: cs, _, v, r => by simp [putAt, Nat.add_comm]
  | i + 1, c :: cs, h, v, r => by
    have := putAt_set i cs (by simpa using h) v r
    unfold putAt at this ⊢
    simp only [List.set_cons_succ, List.take_succ_cons, List.cons_append, List.length_cons] at this ⊢
    rw [show i + 1 + 1 + r.length = (i + 1 + r.length) + 1 by omega, show i + 1 + (r.length + 1) = (i + (r.length + 1)) + 1 by omega, List.drop_succ_cons, List.drop_succ_cons, this]
theorem Blk.setCells {g : Nat} {t : TypeId} : ∀ (l : List Value) (i : Nat) (cs : List Value) (w : World), Blk w g cs.toArray t → i + l.length ≤ cs.length → Blk (w.setCells g i l) g (putAt cs i l).toArray t
  | [], i, cs, w, h, _ => by
    have : putAt cs i [] = cs := by unfold putAt; simp
    rw [this]; exact h
  | v :: r, i, cs, w, h, hl => by
    simp only [List.length_cons] at hl
    rw [← putAt_set i cs (by omega)]
    exact Blk.setCells r (i + 1) _ _ (set_row h v) (by simp; omega)
/-- A header's forty cells. -/
def headCells (ch cl sz : Nat) (p : HP) (hv : Value) : List Value := [.int .i64 2, .int .i64 (ch : Int), .int .i64 0, .int .i64 0, .slice none 0 0, .int .i64 (cl : Int), .int .u64 (sz : Int)] ++ (hpC p hv ++ [.slice none 0 0])
theorem head_length (ch cl sz : Nat) (p : HP) (hv : Value) : (headCells ch cl sz p hv).length = 40 := rfl
theorem head_one (ch cl sz : Nat) (p : HP) (hv : Value) (h : hv.oneCell' = true) : ∀ u ∈ headCells ch cl sz p hv, u.oneCell' = true := by
  intro u hu
  unfold headCells at hu
  rcases List.mem_append.1 hu with hu | hu
  · simp only [List.mem_cons, List.mem_nil_iff, or_false] at hu
    rcases hu with rfl | rfl | rfl | rfl | rfl | rfl | rfl <;> rfl
  · rcases List.mem_append.1 hu with hu | hu
    · exact hpC_one p hv h u hu
    · simp at hu; subst hu; rfl
theorem method_chHead (k : Nat) (a : Addr) (w : World) : (method (k + 1) 94 (.pointer (some a)) "amqp091/pub/amqp091.channel").run Tryz.prog w = .ok (204, .pointer (some a)) w := by kernel_rfl
theorem nilAhead_chHead (k : Nat) (a : Addr) (w : World) : (nilAhead (k + 1) 94 (.pointer (some a)) "amqp091/pub/amqp091.channel").run Tryz.prog w = .ok (some false) w := by kernel_rfl
set_option maxHeartbeats 400000 in
theorem channel_head (p ch : Nat) (w : World) (hp : w.cell? ⟨p, 0, none⟩ = some (.int .u16 (ch : Int))) :
    Calls Tryz.prog 45 #[.iface 94 (.pointer (some ⟨p, 0, none⟩))] w fun e w' => e = .returned (.int .u16 (ch : Int)) ∧ w = w' := by
  have hm1 := method_chHead
  have hm2 := nilAhead_chHead
  go_enter Tryz.func45, Tryz.ntmps45
  go_wp2
  go_ret
  exact ⟨rfl, rfl⟩
theorem hfOf_props (ch cl sz : Int) (p : HP) (hd : Value) (j : Nat) (u : Value) (h : (prOf p hd).toList[j]? = some u) : (hfOf ch cl sz p hd)[4 + j]? = some u := by
  have e : (hfOf ch cl sz p hd).toList = [.int .u16 ch, .int .u16 cl, .int .u16 0, .int .u64 sz] ++ (prOf p hd).toList := rfl
  rw [← Array.getElem?_toList, e, List.getElem?_append_right (by simp), show 4 + j - ([Value.int .u16 ch, .int .u16 cl, .int .u16 0, .int .u64 sz] : List Value).length = j by simp]
  exact h
set_option maxHeartbeats 4000000 in
set_option maxRecDepth 100000 in
theorem frame_head0 (f ch cl sz : Nat) (p : HP) (hpp : properP p = true) (hwf : WfP p) (hd : Value) (B : Nat → Prop) (w : World) (hch : ch ≤ 65535) (hcl : cl < 65536) (hp : Blk w f (hfOf ch cl sz p hd) TH)
    (hhd : HdP B w p hd) (F0 F1 : List Value)
    (k0 : ∀ w : World, (Instr.alloc 35 true (.tuple #[])).run Tryz.prog w = .ok (.pointer (some ⟨w.heap.size, 0, none⟩)) (w.alloc (.cells F0.toArray 35)))
    (k1 : ∀ w, (Instr.build 35 #[(1, .int .i64 (ch : Int))]).run Tryz.prog w = .ok (.agg F1.toArray) w) (l0 : F0.length = 40) (l1 : F1.length = 40) (o1 : ∀ u ∈ F1, u.oneCell' = true)
    (k2 : ∀ hv, putAt (((F1.set 0 (.int .i64 2)).set 5 (.int .i64 (cl : Int))).set 6 (.int .u64 (sz : Int))) 7 (hpC p.norm hv) = headCells ch cl sz p.norm hv) :
    Calls Tryz.prog 25 #[.iface 94 (.pointer (some ⟨f, 0, none⟩))] w fun e w' => ∃ hv, e = .returned (.tuple #[.agg (headCells ch cl sz p.norm hv).toArray, .bool true]) ∧ FSl (fun b => w.heap.size ≤ b) w' hv (normFs p.hdr) ∧ Kept [] w w' := by
  have e2 : IntKind.i64.wrap (ch : Int) = ch := by rw [IntKind.wrap_i64]; omega
  have e3 : IntKind.i64.wrap (cl : Int) = cl := by rw [IntKind.wrap_i64]; omega
  have s1 : (Tryz.prog.info? 35).map (·.size) = some F1.length := by rw [l1]; exact frame_size
  have s2 : ∀ hv, (Tryz.prog.info? 35).map (·.size) = some (headCells ch cl sz p.norm hv).length := fun hv => frame_size
  have m1 : F1.length = F0.length := by rw [l1, l0]
  have m2 : ∀ hv, (headCells ch cl sz p.norm hv).length = F0.length := fun hv => by rw [l0]; rfl
  have hpl := hp.lt
  have t0 := ta_head_meth
  have t1 := ta_head_head
  have HP := Lib.hid (And.intro hp (And.intro hpl (And.intro hpp (And.intro hwf hhd)))); have K0 := Lib.hid k0; have K1 := Lib.hid k1; have O1 := Lib.hid o1; have K2 := Lib.hid k2; have L1 := Lib.hid l1; have M1 := Lib.hid m1; have M2 := Lib.hid m2; have S1 := Lib.hid s1; have S2 := Lib.hid s2
  clear hp hpp hwf hhd hch hcl hpl k0 k1 l0 l1 o1 k2 m1 m2 s1 s2
  go_enter Tryz.func25, Tryz.ntmps25
  go_upto_region 12 with (first
    | (refine wpList_alloc rfl 2 rfl 35 rfl F0.toArray (K0.out _) ?_; intro w1 h1 h2 h3; have H1 := Lib.hid (And.intro h1 (And.intro h2 h3)); clear h1 h2 h3)
    | (refine wpList_alloc rfl 4 rfl 35 rfl F0.toArray (K0.out _) ?_; intro w2 h1 h2 h3; have H2 := Lib.hid (And.intro h1 (And.intro h2 h3)); clear h1 h2 h3)
    | (go_at_call 45; refine (channel_head f ch _ (H1.out.2.1.cell (HP.out.1.cell 0) (by simp))).mono ?_; rintro e w2 ⟨rfl, rfl⟩)
    | (refine wpList_build rfl 35 #[(1, .tmp 13)] rfl #[(1, .int .i64 (ch : Int))] (by simp [Act.eval]) _ (K1.out _) ?_)
    | (refine wpList_store_row (P := Tryz.prog) rfl rfl 35 (.tmp 4) (.tmp 14) rfl w1.heap.size rfl 35 F0 F1 H2.out.1 rfl M1.out O1.out S1.out ?_; intro w3 g1 g2; have HG := Lib.hid (And.intro g1 g2); clear g1 g2))
  have hfo : f ≠ w1.heap.size := by have h1 := HP.out.2.1; have h2 := H1.out.2.2; omega
  have hk3 : Kept [] w w3 := (H1.out.2.1.trans H2.out.2.1 (S := []) (S' := []) (by simp)).trans HG.out.2 (S' := [w1.heap.size]) (fun x hx => .inr (by have := H1.out.2.2; simp at hx; omega))
  have hb3 := HG.out.1
  have hf3 := HP.out.1.kept hk3 (by simp)
  have cf1 : w3.cell? ⟨f, 1, none⟩ = some (.int .u16 (cl : Int)) := hf3.cell 1
  have cf3 : w3.cell? ⟨f, 3, none⟩ = some (.int .u64 (sz : Int)) := hf3.cell 3
  have hex : ∀ i, i < 40 → ∃ u, w3.cell? ⟨w1.heap.size, i, none⟩ = some u := fun i hi => ⟨F1[i]'(by rw [L1.out]; exact hi), by rw [hb3.cell]; simp⟩
  obtain ⟨u0, x0⟩ := hex 0 (by decide)
  obtain ⟨u5, x5⟩ := hex 5 (by decide)
  obtain ⟨u6, x6⟩ := hex 6 (by decide)
  have f0 := hb3.free 0
  have f5 := hb3.free 5
  have f6 := hb3.free 6
  have hkc : ∀ W, Kept [w1.heap.size] w3 W → W.cell? ⟨f, 1, none⟩ = some (.int .u16 (cl : Int)) ∧ W.cell? ⟨f, 3, none⟩ = some (.int .u64 (sz : Int)) := fun W hk => ⟨hk.cell cf1 (by simpa using hfo), hk.cell cf3 (by simpa using hfo)⟩
  have HKC := Lib.hid hkc; have H3 := Lib.hid (And.intro hk3 (And.intro hb3 (And.intro hf3 hfo)))
  clear hkc hk3 hb3 hf3 hfo hex
  go_region_held3 (fun w' : World => w'.cell? ⟨f, 1, none⟩ = some (.int .u16 (cl : Int)) ∧ w'.cell? ⟨f, 3, none⟩ = some (.int .u64 (sz : Int))) (first
    | exact HKC.out _ ((Kept.refl _ w3).drew)
    | exact HKC.out _ (((Kept.refl _ w3).drew).setCell (by simp) _)
    | exact HKC.out _ ((((Kept.refl _ w3).drew).setCell (by simp) _).setCell (by simp) _)
    | exact HKC.out _ (((((Kept.refl _ w3).drew).setCell (by simp) _).setCell (by simp) _).setCell (by simp) _)) (first | fail)
  all_goals
    have hk4 : Kept [w1.heap.size] w3 (((w3.setCell ⟨w1.heap.size, 0, none⟩ (.int .i64 2)).setCell ⟨w1.heap.size, 5, none⟩ (.int .i64 (cl : Int))).setCell ⟨w1.heap.size, 6, none⟩ (.int .u64 (sz : Int))).drew := ((((Kept.refl _ w3).setCell (by simp) _).setCell (by simp) _).setCell (by simp) _).drew
    have hb4 : Blk (((w3.setCell ⟨w1.heap.size, 0, none⟩ (.int .i64 2)).setCell ⟨w1.heap.size, 5, none⟩ (.int .i64 (cl : Int))).setCell ⟨w1.heap.size, 6, none⟩ (.int .u64 (sz : Int))).drew w1.heap.size (((F1.set 0 (.int .i64 2)).set 5 (.int .i64 (cl : Int))).set 6 (.int .u64 (sz : Int))).toArray 35 := (set_row (set_row (set_row H3.out.2.1 _) _) _).drew
    generalize (((w3.setCell ⟨w1.heap.size, 0, none⟩ (.int .i64 2)).setCell ⟨w1.heap.size, 5, none⟩ (.int .i64 (cl : Int))).setCell ⟨w1.heap.size, 6, none⟩ (.int .u64 (sz : Int))).drew = w4 at hk4 hb4 ⊢
    have hkw4 : Kept [] w w4 := H3.out.1.trans hk4 (fun x hx => .inr (by have := H1.out.2.2; simp at hx; omega))
    have hf4 := HP.out.1.kept hkw4 (by simp)
    have hpr : ∀ j u, (prOf p hd).toList[j]? = some u → w4.cell? ((⟨f, 4, none⟩ : Addr).add j) = some u := fun j u hj => by
      rw [addr_add, hf4.cell]; exact hfOf_props _ _ _ p hd j u hj
    have hrd := prd_any (fun b => B b ∧ b < w.heap.size) p HP.out.2.2.1 HP.out.2.2.2.1 hd w4 ((HP.out.2.2.2.2.mono (fun b hb hl => ⟨hb, hl⟩)).kept hkw4 (by simp))
    have H4 := Lib.hid (And.intro hb4 (And.intro hkw4 (And.intro hpr (And.intro hrd hk4))))
    clear hk4 hb4 hkw4 hf4 hpr hrd cf1 cf3 x0 x5 x6 f0 f5 f6
    go_wp2_with (first
      | (refine wpList_load_cells rfl 101 (.tmp 47) rfl ⟨f, 4, none⟩ rfl (prOf p hd).toList H4.out.2.2.1 _ Tryz.underlying101 rfl size_pPr ?_)
      | (go_at_call 47; refine H4.out.2.2.2.1.mono ?_; rintro e w5 ⟨hv, rfl, a1, a2⟩; obtain ⟨ha, hc, rfl, _⟩ := id a1; have b5 := H4.out.1.kept a2 (by simp); have H5 := Lib.hid (And.intro a1 (And.intro a2 b5)); clear a1 a2 b5)
      | (refine wpList_store_mid rfl 33 (.tmp 52) (.tmp 50) rfl w1.heap.size 7 (hpC p.norm (.slice ha (normFs p.hdr).length hc)).toArray rfl rfl (fun j hj => ⟨by (have hj : j < 32 := hj); rw [H5.out.2.2.cell]; simp [L1.out]; omega, H5.out.2.2.free _⟩) size_iPr (all_oneCell_toArray (hpC_one _ _ rfl)) ?_; have b6 := Blk.setCells (hpC p.norm (.slice ha (normFs p.hdr).length hc)) 7 _ _ H5.out.2.2 (by rw [hpC_len]; simp [L1.out]); rw [K2.out] at b6; have k6 := kept_setCells w1.heap.size (hpC p.norm (.slice ha (normFs p.hdr).length hc)) 7 w5 w5 (Kept.refl _ _); have b6 : Blk (w5.setCells w1.heap.size 7 (hpC p.norm (.slice ha (normFs p.hdr).length hc)).toArray.toList) w1.heap.size _ _ := b6; have k6 : Kept [w1.heap.size] w5 (w5.setCells w1.heap.size 7 (hpC p.norm (.slice ha (normFs p.hdr).length hc)).toArray.toList) := k6; generalize w5.setCells w1.heap.size 7 (hpC p.norm (.slice ha (normFs p.hdr).length hc)).toArray.toList = w6 at b6 k6 ⊢; have H6 := Lib.hid (And.intro b6 k6); clear b6 k6)
      | (refine wpList_load_row (P := Tryz.prog) rfl 35 (.tmp 4) rfl w1.heap.size rfl 35 (headCells ch cl sz p.norm (.slice ha (normFs p.hdr).length hc)).toArray H6.out.1 _ Tryz.underlying35 rfl (S2.out _) ?_)
      | (refine wpList_store_row (P := Tryz.prog) rfl rfl 35 (.tmp 2) (.tmp 68) rfl w.heap.size rfl 35 F0 (headCells ch cl sz p.norm (.slice ha (normFs p.hdr).length hc)) (((((H1.out.1.kept H2.out.2.1 (by simp)).kept HG.out.2 (nin1 (by have := H1.out.2.2; omega))).kept H4.out.2.2.2.2 (nin1 (by have := H1.out.2.2; omega))).kept H5.out.2.1 (by simp)).kept H6.out.2 (nin1 (by have := H1.out.2.2; omega))) rfl (M2.out _) (head_one _ _ _ _ _ rfl) (S2.out _) ?_; intro w7 g1 g2; have H7 := Lib.hid (And.intro g1 g2); clear g1 g2))
    have hb := H1.out.2.2
    have hsz4 := H4.out.2.1.size
    have ho4 := H4.out.1.lt
    have hk6 : Kept [w1.heap.size, w.heap.size] w5 w7 := (H6.out.2.mono (S' := [w1.heap.size, w.heap.size]) (fun x hx => .inl (by simp at hx; simp [hx]))).trans H7.out.2 (fun x hx => .inl (by simp at hx; simp [hx]))
    refine bodyPost_ret (v := .tuple #[.agg (headCells ch cl sz p.norm (.slice ha (normFs p.hdr).length hc)).toArray, .bool true]) (results_frame rfl rfl H7.out.1 (S2.out _)) rfl ⟨_, rfl, ?_, ?_⟩
    · exact (H5.out.1.kept hk6 (fun b hb => by have hb : w4.heap.size ≤ b := hb; simp; omega)).mono (fun b hb _ => by have hb : w4.heap.size ≤ b := hb; omega)
    · exact (H4.out.2.1.trans H5.out.2.1 (by simp)).trans hk6 (fun x hx => .inr (by simp at hx; omega))
theorem frame_head (f ch cl sz : Nat) (p : HP) (hpp : properP p = true) (hwf : WfP p) (hd : Value) (B : Nat → Prop) (w : World) (hch : ch ≤ 65535) (hcl : cl < 65536) (hp : Blk w f (hfOf ch cl sz p hd) TH) (hhd : HdP B w p hd) :
    Calls Tryz.prog 25 #[.iface 94 (.pointer (some ⟨f, 0, none⟩))] w fun e w' => ∃ hv, e = .returned (.tuple #[.agg (headCells ch cl sz p.norm hv).toArray, .bool true]) ∧ FSl (fun b => w.heap.size ≤ b) w' hv (normFs p.hdr) ∧ Kept [] w w' :=
  frame_head0 f ch cl sz p hpp hwf hd B w hch hcl hp hhd frame0 (frame0.set 1 (.int .i64 (ch : Int))) alloc_frame (fun w => build_frame1 (ch : Int) w) rfl rfl (frame1_one ch) (fun hv => rfl)
end Go.Proofs.YtkcdakohmfodjaaGreat
