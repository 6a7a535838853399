/-
  FnBody, walked.
-/
import Derived.Test.YtkcdakohmfodjaaGreatGot
import Derived.Test.YtkcdakohmfodjaaGreatFmtBody
import Derived.Laws.IdiomStrings
import Derived.Deep.RegionHeld3
namespace Go.Proofs.YtkcdakohmfodjaaGreat
open Go.RowKit
set_option linter.unusedVariables false
set_option linter.unusedSimpArgs false

/-- 'string(b)' of bytes, wherever they lie. -/
theorem conv_src (s : Value) (d : Nat) (m : List UInt8) (n : Nat) (hmn : m.length = n) (w : World) (hs : Src w s d m) (hsl : ∃ ao c, s = .slice ao n c) :
    (convert 22 9 s).run Tryz.prog w = .ok (.string ⟨m.toArray⟩) w := by
  subst hmn
  rcases hs with ⟨rfl, ao, c, rfl⟩ | ⟨ad, c, _, rfl, hcell⟩
  · cases ao with
    | none => exact run_convert_bytes_nil w _ _ Tryz.underlying22 Tryz.underlying5 0 c _ Tryz.underlying9
    | some ad => exact run_convert_bytes_back w _ _ _ ad c [] Tryz.underlying22 Tryz.underlying5 Tryz.underlying9 (fun j hj => by simp at hj)
  · refine run_convert_bytes_back w _ _ _ ad c m Tryz.underlying22 Tryz.underlying5 Tryz.underlying9 fun j hj => ?_
    exact hcell j _ (by rw [u8s_get, List.getElem?_eq_getElem hj]; rfl)

theorem conv_row {w : World} {g n c : Nat} {l : List UInt8} (h : Row w (.slice (some ⟨g, 0, none⟩) n c) g l) (hn : l.length = n) : (convert 22 9 (.slice (some ⟨g, 0, none⟩) n c)).run Tryz.prog w = .ok (.string ⟨l.toArray⟩) w := by
  have := h.src n (by omega) c
  rw [List.take_of_length_le (by omega)] at this
  exact conv_src _ g l n hn w this ⟨_, _, rfl⟩

set_option maxHeartbeats 2000000 in
set_option maxRecDepth 100000 in
theorem body_main (ch : Nat) (s : Value) (d : Nat) (body : List UInt8) (n : Nat) (hn : body.length = n) (w : World) (hch : ch ≤ 65535) (hlen : n ≤ 2000) (hs : Src w s d body) (hsl : ∃ ao c, s = .slice ao n c) :
    Calls Tryz.prog 5 #[.int .i64 (ch : Int), s] w fun e w' => e = .returned (.bool true) ∧ Kept [] w w' := by
  have hfb := frameBytes_any 3 ch s body w (by omega) hch d hs (by omega) (by rw [hn]; exact hsl)
  obtain ⟨ao, c, rfl⟩ := hsl
  have h1 : (n : Int) ≤ 2000 := by omega
  have h2 : (ch : Int) ≤ 65535 := by omega
  obtain ⟨F0, hF0⟩ : ∃ F0, F0 = frame0 := ⟨_, rfl⟩
  have k0 : ∀ w : World, (Instr.alloc 35 true (.tuple #[])).run Tryz.prog w = .ok (.pointer (some ⟨w.heap.size, 0, none⟩)) (w.alloc (.cells F0.toArray 35)) := by subst hF0; exact alloc_frame
  have l0 : F0.length = 40 := by subst hF0; rfl
  have HF := Lib.hid hfb; have HS := Lib.hid hs; have K0 := Lib.hid k0; have L0 := Lib.hid l0; have HN := Lib.hid hn
  clear hfb hs k0 l0 hF0 hn
  go_enter Tryz.func5, Tryz.ntmps5
  go_upto_region 10 with (first
    | (go_at_call 15; refine (formatBeat_any _).mono ?_; rintro e w5 ⟨v, g5, rfl, r1, r2, r3⟩; obtain ⟨c5, rfl, _⟩ := id r1; rw [frameB_length, List.length_nil] at r1 ⊢; have H5 := Lib.hid (And.intro r1 (And.intro r2 r3)); clear r1 r2 r3)
    | (go_at_call 14; refine (formatBody_any ch d _ body n HN.out w1 hch (HS.out.kept H1.out.2.2 (by simp)) ⟨_, _, rfl⟩ (by omega)).mono ?_; rintro e w2 ⟨v, g2, rfl, r1, r2, r3⟩; obtain ⟨c2, rfl, _⟩ := id r1; rw [frameB_length, HN.out] at r1 ⊢; have H2 := Lib.hid (And.intro r1 (And.intro r2 r3)); clear r1 r2 r3)
    | (go_at_call 8; refine (frameBytes_any 8 0 (.slice none 0 0) [] w5 (by omega) (by omega) 0 (.inl ⟨rfl, none, 0, rfl⟩) (by simp) ⟨none, 0, rfl⟩).mono ?_; rintro e w6 ⟨v, g6, rfl, r1, r2, r3⟩; obtain ⟨c6, rfl, _⟩ := id r1; rw [frameB_length, List.length_nil] at r1 ⊢; have H6 := Lib.hid (And.intro r1 (And.intro r2 r3)); clear r1 r2 r3)
    | (go_at_call 8; refine HF.out.mono ?_; rintro e w1 ⟨v, g1, rfl, r1, r2, r3⟩; obtain ⟨c1, rfl, _⟩ := id r1; rw [frameB_length, HN.out] at r1 ⊢; have H1 := Lib.hid (And.intro r1 (And.intro r2 r3)); clear r1 r2 r3)
    | (go_at_call 9; refine (parse_ok _ w6 ⟨_, _, _, rfl⟩ BeatGot (fun w7 hk7 => got_beat _ g6 w7 ((H6.out.1.kept hk7 (by simp)).all))).mono ?_; rintro e w7 ⟨cs, n7, base, w8, S, rfl, x1, x2, x3, x4, ⟨rfl, rfl⟩, x7, x8⟩; generalize hFE : beatCells 0 = FE at x1 x2 ⊢; have H7 := Lib.hid (And.intro x1 (And.intro x2 (And.intro hFE x8))); clear x1 x2 x3 x4 x7 x8 hFE)
    | (go_at_call 9; refine (parse_ok _ w2 ⟨_, _, _, rfl⟩ (BodyGot ch body) (fun w3 hk3 => got_body ch body hch (by rw [HN.out]; omega) _ g1 w3 (((H1.out.1.kept H2.out.2.2 (by simp)).kept hk3 (by simp)).all))).mono ?_; rintro e w3 ⟨cs, n3, base, w4, S, rfl, x1, x2, x3, x4, ⟨rfl, g3, c3, rfl, x5, x6⟩, x7, x8⟩; rw [HN.out] at x5 x1 x2 ⊢; generalize hFB : bodyCells ch (.slice (some ⟨g3, 0, none⟩) n c3) = FB at x1 x2 ⊢; have H3 := Lib.hid (And.intro x1 (And.intro x2 (And.intro hFB (And.intro (x5.kept x7 (fun h => absurd (x4 _ h) (by omega))) x8)))); clear x1 x2 x3 x4 x5 x6 x7 x8 hFB)
    | (refine wpList_alloc rfl 8 rfl 35 rfl F0.toArray (K0.out _) ?_; intro wA h1 h2 h3; have HA := Lib.hid (And.intro h1 (And.intro h2 h3)); clear h1 h2 h3)
    | (refine wpList_alloc rfl 13 rfl 35 rfl F0.toArray (K0.out _) ?_; intro wC h1 h2 h3; have HC := Lib.hid (And.intro h1 (And.intro h2 h3)); clear h1 h2 h3)
    | (refine wpList_store_row (P := Tryz.prog) rfl rfl 35 (.tmp 8) (.tmp 43) rfl w3.heap.size rfl 35 F0 FB HA.out.1 rfl (by rw [H3.out.1, L0.out]) H3.out.2.1 (by rw [H3.out.1]; exact frame_size) ?_; intro wB h1 h2; have HB := Lib.hid (And.intro h1 h2); clear h1 h2)
    | (refine wpList_store_row (P := Tryz.prog) rfl rfl 35 (.tmp 13) (.tmp 53) rfl w7.heap.size rfl 35 F0 FE HC.out.1 rfl (by rw [H7.out.1, L0.out]) H7.out.2.1 (by rw [H7.out.1]; exact frame_size) ?_; intro wD h1 h2; have HD := Lib.hid (And.intro h1 h2); clear h1 h2))
  have kAB : Kept [] w3 wB := HA.out.2.1.trans HB.out.2 (S' := [w3.heap.size]) (fun x hx => .inr (by simp at hx; omega))
  have kCD : Kept [] w7 wD := HC.out.2.1.trans HD.out.2 (S' := [w7.heap.size]) (fun x hx => .inr (by simp at hx; omega))
  have k5D : Kept [] w5 wD.drew := ((H6.out.2.2.trans H7.out.2.2.2 (S := []) (S' := []) (by simp)).trans kCD (by simp)).drew
  have kBD : Kept [] wB wD.drew := H5.out.2.2.trans k5D (by simp)
  have k3D : Kept [] w3 wD.drew := kAB.trans kBD (by simp)
  have k2D : Kept [] w2 wD.drew := H3.out.2.2.2.2.trans k3D (by simp)
  have k1D : Kept [] w1 wD.drew := H2.out.2.2.trans k2D (by simp)
  have k0D : Kept [] w wD.drew := H1.out.2.2.trans k1D (by simp)
  have hS : ∀ w', Kept [] wD.drew w' → (fun w' : World => (convert 22 9 (.slice (some ⟨g1, 0, none⟩) (n + 8) c1)).run Tryz.prog w' = .ok (.string ⟨(frameB 3 ch body).toArray⟩) w' ∧ (convert 22 9 (.slice (some ⟨g2, 0, none⟩) (n + 8) c2)).run Tryz.prog w' = .ok (.string ⟨(frameB 3 ch body).toArray⟩) w' ∧
      (convert 22 9 (.slice (some ⟨g3, 0, none⟩) n c3)).run Tryz.prog w' = .ok (.string ⟨body.toArray⟩) w' ∧ (convert 22 9 (.slice ao n c)).run Tryz.prog w' = .ok (.string ⟨body.toArray⟩) w' ∧
      (convert 22 9 (.slice (some ⟨g5, 0, none⟩) 8 c5)).run Tryz.prog w' = .ok (.string ⟨(frameB 8 0 []).toArray⟩) w' ∧
      w'.cell? ⟨w3.heap.size, 0, none⟩ = some (.int .i64 3) ∧ w'.cell? ⟨w3.heap.size, 1, none⟩ = some (.int .i64 (ch : Int)) ∧ w'.cell? ⟨w3.heap.size, 39, none⟩ = some (.slice (some ⟨g3, 0, none⟩) n c3) ∧ w'.cell? ⟨w7.heap.size, 0, none⟩ = some (.int .i64 8)) w' := fun w' hk => by
    have BB := (HB.out.1.kept kBD (by simp)).kept hk (by simp)
    have BE : Blk w' w7.heap.size FE.toArray 35 := Blk.kept (w := wD.drew) HD.out.1 hk (by simp)
    refine ⟨conv_row ((H1.out.1.kept k1D (by simp)).kept hk (by simp)) (by rw [frameB_length, HN.out]), conv_row ((H2.out.1.kept k2D (by simp)).kept hk (by simp)) (by rw [frameB_length, HN.out]),
      conv_row ((H3.out.2.2.2.1.kept k3D (by simp)).kept hk (by simp)) HN.out, conv_src _ d body n HN.out w' ((HS.out.kept k0D (by simp)).kept hk (by simp)) ⟨_, _, rfl⟩, conv_row ((H5.out.1.kept k5D (by simp)).kept hk (by simp)) (by rw [frameB_length]; rfl), ?_, ?_, ?_, ?_⟩
    · exact (BB.cell 0).trans (by rw [← H3.out.2.2.1]; rfl)
    · exact (BB.cell 1).trans (by rw [← H3.out.2.2.1]; rfl)
    · exact (BB.cell 39).trans (by rw [← H3.out.2.2.1]; rfl)
    · exact (BE.cell 0).trans (by rw [← H7.out.2.2.1]; rfl)
  have HK := Lib.hid k0D; have HSS := Lib.hid hS
  clear kAB kCD k5D kBD k3D k2D k1D k0D hS
  refine wp_region_noPanic ?_
  refine wp_region_held_drew (S := (fun w' : World => (convert 22 9 (.slice (some ⟨g1, 0, none⟩) (n + 8) c1)).run Tryz.prog w' = .ok (.string ⟨(frameB 3 ch body).toArray⟩) w' ∧ (convert 22 9 (.slice (some ⟨g2, 0, none⟩) (n + 8) c2)).run Tryz.prog w' = .ok (.string ⟨(frameB 3 ch body).toArray⟩) w' ∧
      (convert 22 9 (.slice (some ⟨g3, 0, none⟩) n c3)).run Tryz.prog w' = .ok (.string ⟨body.toArray⟩) w' ∧ (convert 22 9 (.slice ao n c)).run Tryz.prog w' = .ok (.string ⟨body.toArray⟩) w' ∧
      (convert 22 9 (.slice (some ⟨g5, 0, none⟩) 8 c5)).run Tryz.prog w' = .ok (.string ⟨(frameB 8 0 []).toArray⟩) w' ∧
      w'.cell? ⟨w3.heap.size, 0, none⟩ = some (.int .i64 3) ∧ w'.cell? ⟨w3.heap.size, 1, none⟩ = some (.int .i64 (ch : Int)) ∧ w'.cell? ⟨w3.heap.size, 39, none⟩ = some (.slice (some ⟨g3, 0, none⟩) n c3) ∧ w'.cell? ⟨w7.heap.size, 0, none⟩ = some (.int .i64 8))) (by kernel_rfl) (by (try dsimp only); exact HSS.out _ (Kept.refl [] _)) (fun hHeld => ?_)
  refine wpAnyH_take (i := 0) (oi := { dst := some 56, op := Op.move (Operand.tmp 7), type := 4, pos := "laws.go:172", after := #[], guard := none }) (v := ?_) rfl (by kernel_rfl) (by kernel_rfl) (by kernel_rfl) (fun _ _ _ h => h) (Or.inl ⟨by rfl, ?_⟩) (by assumption) ?_
  rotate_left
  · intro w hSw; (try dsimp only at hSw); go_simp; try with_reducible rfl
  try simp only [Act.put, List.setIfInBounds_toArray, List.set_cons_zero, List.set_cons_succ]
  refine wpAnyH_take (i := 1) (oi := { dst := some 57, op := Op.move (Operand.tmp 56), type := 4, pos := "laws.go:172", after := #[{ on := 0, ground := Ground.data }], guard := none }) (v := ?_) rfl (by kernel_rfl) (by kernel_rfl) (by kernel_rfl) (fun _ _ _ h => h) (Or.inl ⟨by rfl, ?_⟩) (by assumption) ?_
  rotate_left
  · intro w hSw; (try dsimp only at hSw); go_simp; try with_reducible rfl
  try simp only [Act.put, List.setIfInBounds_toArray, List.set_cons_zero, List.set_cons_succ]
  refine wpAnyH_take (i := 2) (oi := { dst := some 58, op := Op.move (Operand.tmp 6), type := 22, pos := "laws.go:172", after := #[{ on := 1, ground := Ground.guard }], guard := some (1, true) }) (v := ?_) rfl (by kernel_rfl) (by kernel_rfl) (by kernel_rfl) (fun _ _ _ h => h) (Or.inl ⟨by rfl, ?_⟩) (by assumption) ?_
  rotate_left
  · intro w hSw; (try dsimp only at hSw); go_simp; try with_reducible rfl
  try simp only [Act.put, List.setIfInBounds_toArray, List.set_cons_zero, List.set_cons_succ]
  refine wpAnyH_take (i := 3) (oi := { dst := some 59, op := Op.convert 22 9 (Operand.tmp 58), type := 9, pos := "laws.go:172", after := #[{ on := 2, ground := Ground.data }, { on := 1, ground := Ground.guard }], guard := some (1, true) }) (v := ?_) rfl (by kernel_rfl) (by kernel_rfl) (by kernel_rfl) (fun _ _ _ h => h) (Or.inl ⟨by rfl, ?_⟩) (by assumption) ?_
  rotate_left
  · intro w hSw; (try dsimp only at hSw); go_simp; try with_reducible rfl
  try simp only [Act.put, List.setIfInBounds_toArray, List.set_cons_zero, List.set_cons_succ]
  refine wpAnyH_take (i := 4) (oi := { dst := some 60, op := Op.move (Operand.tmp 5), type := 22, pos := "laws.go:172", after := #[{ on := 1, ground := Ground.guard }], guard := some (1, true) }) (v := ?_) rfl (by kernel_rfl) (by kernel_rfl) (by kernel_rfl) (fun _ _ _ h => h) (Or.inl ⟨by rfl, ?_⟩) (by assumption) ?_
  rotate_left
  · intro w hSw; (try dsimp only at hSw); go_simp; try with_reducible rfl
  try simp only [Act.put, List.setIfInBounds_toArray, List.set_cons_zero, List.set_cons_succ]
  refine wpAnyH_take (i := 5) (oi := { dst := some 61, op := Op.convert 22 9 (Operand.tmp 60), type := 9, pos := "laws.go:172", after := #[{ on := 4, ground := Ground.data }, { on := 1, ground := Ground.guard }], guard := some (1, true) }) (v := ?_) rfl (by kernel_rfl) (by kernel_rfl) (by kernel_rfl) (fun _ _ _ h => h) (Or.inl ⟨by rfl, ?_⟩) (by assumption) ?_
  rotate_left
  · intro w hSw; (try dsimp only at hSw); go_simp; try with_reducible rfl
  try simp only [Act.put, List.setIfInBounds_toArray, List.set_cons_zero, List.set_cons_succ]
  refine wpAnyH_take (i := 6) (oi := { dst := some 62, op := Op.binOp BinOp.eql 9 (Operand.tmp 59) (Operand.tmp 61) 9, type := 4, pos := "laws.go:172", after := #[{ on := 3, ground := Ground.data }, { on := 5, ground := Ground.data }, { on := 1, ground := Ground.guard }], guard := some (1, true) }) (v := ?_) rfl (by kernel_rfl) (by kernel_rfl) (by kernel_rfl) (fun _ _ _ h => h) (Or.inl ⟨by rfl, ?_⟩) (by assumption) ?_
  rotate_left
  · intro w hSw; (try dsimp only at hSw); go_simp; try with_reducible rfl
  try simp only [Act.put, List.setIfInBounds_toArray, List.set_cons_zero, List.set_cons_succ]
  refine wpAnyH_take (i := 7) (oi := { dst := some 63, op := Op.pick (Operand.tmp 57) (Operand.tmp 62) (Operand.const (Value.bool false)), type := 4, pos := "laws.go:172", after := #[{ on := 1, ground := Ground.data }, { on := 6, ground := Ground.data }], guard := none }) (v := ?_) rfl (by kernel_rfl) (by kernel_rfl) (by kernel_rfl) (fun _ _ _ h => h) (Or.inl ⟨by rfl, ?_⟩) (by assumption) ?_
  rotate_left
  · intro w hSw; (try dsimp only at hSw); go_simp; try with_reducible rfl
  try simp only [Act.put, List.setIfInBounds_toArray, List.set_cons_zero, List.set_cons_succ]
  refine wpAnyH_take (i := 8) (oi := { dst := some 64, op := Op.move (Operand.tmp 63), type := 4, pos := "laws.go:172", after := #[{ on := 7, ground := Ground.data }, { on := 1, ground := Ground.chain }], guard := none }) (v := ?_) rfl (by kernel_rfl) (by kernel_rfl) (by kernel_rfl) (fun _ _ _ h => h) (Or.inl ⟨by rfl, ?_⟩) (by assumption) ?_
  rotate_left
  · intro w hSw; (try dsimp only at hSw); go_simp; try with_reducible rfl
  try simp only [Act.put, List.setIfInBounds_toArray, List.set_cons_zero, List.set_cons_succ]
  refine wpAnyH_take (i := 9) (oi := { dst := some 65, op := Op.move (Operand.tmp 10), type := 4, pos := "laws.go:172", after := #[{ on := 8, ground := Ground.guard }], guard := some (8, true) }) (v := ?_) rfl (by kernel_rfl) (by kernel_rfl) (by kernel_rfl) (fun _ _ _ h => h) (Or.inl ⟨by rfl, ?_⟩) (by assumption) ?_
  rotate_left
  · intro w hSw; (try dsimp only at hSw); go_simp; try with_reducible rfl
  try simp only [Act.put, List.setIfInBounds_toArray, List.set_cons_zero, List.set_cons_succ]
  refine wpAnyH_take (i := 10) (oi := { dst := some 66, op := Op.pick (Operand.tmp 64) (Operand.tmp 65) (Operand.const (Value.bool false)), type := 4, pos := "laws.go:172", after := #[{ on := 8, ground := Ground.data }, { on := 9, ground := Ground.data }], guard := none }) (v := ?_) rfl (by kernel_rfl) (by kernel_rfl) (by kernel_rfl) (fun _ _ _ h => h) (Or.inl ⟨by rfl, ?_⟩) (by assumption) ?_
  rotate_left
  · intro w hSw; (try dsimp only at hSw); go_simp; try with_reducible rfl
  try simp only [Act.put, List.setIfInBounds_toArray, List.set_cons_zero, List.set_cons_succ]
  refine wpAnyH_take (i := 11) (oi := { dst := some 67, op := Op.move (Operand.tmp 66), type := 4, pos := "laws.go:172", after := #[{ on := 10, ground := Ground.data }, { on := 8, ground := Ground.chain }], guard := none }) (v := ?_) rfl (by kernel_rfl) (by kernel_rfl) (by kernel_rfl) (fun _ _ _ h => h) (Or.inl ⟨by rfl, ?_⟩) (by assumption) ?_
  rotate_left
  · intro w hSw; (try dsimp only at hSw); go_simp; try with_reducible rfl
  try simp only [Act.put, List.setIfInBounds_toArray, List.set_cons_zero, List.set_cons_succ]
  refine wpAnyH_take (i := 12) (oi := { dst := some 68, op := Op.move (Operand.tmp 9), type := 3, pos := "laws.go:172", after := #[{ on := 11, ground := Ground.guard }], guard := some (11, true) }) (v := ?_) rfl (by kernel_rfl) (by kernel_rfl) (by kernel_rfl) (fun _ _ _ h => h) (Or.inl ⟨by rfl, ?_⟩) (by assumption) ?_
  rotate_left
  · intro w hSw; (try dsimp only at hSw); go_simp; try with_reducible rfl
  try simp only [Act.put, List.setIfInBounds_toArray, List.set_cons_zero, List.set_cons_succ]
  refine wpAnyH_take (i := 13) (oi := { dst := some 69, op := Op.binOp BinOp.eql 3 (Operand.tmp 68) (Operand.const (Value.int IntKind.i64 0)) 3, type := 4, pos := "laws.go:172", after := #[{ on := 12, ground := Ground.data }, { on := 11, ground := Ground.guard }], guard := some (11, true) }) (v := ?_) rfl (by kernel_rfl) (by kernel_rfl) (by kernel_rfl) (fun _ _ _ h => h) (Or.inl ⟨by rfl, ?_⟩) (by assumption) ?_
  rotate_left
  · intro w hSw; (try dsimp only at hSw); go_simp; try with_reducible rfl
  try simp only [Act.put, List.setIfInBounds_toArray, List.set_cons_zero, List.set_cons_succ]
  refine wpAnyH_take (i := 14) (oi := { dst := some 70, op := Op.pick (Operand.tmp 67) (Operand.tmp 69) (Operand.const (Value.bool false)), type := 4, pos := "laws.go:172", after := #[{ on := 11, ground := Ground.data }, { on := 13, ground := Ground.data }], guard := none }) (v := ?_) rfl (by kernel_rfl) (by kernel_rfl) (by kernel_rfl) (fun _ _ _ h => h) (Or.inl ⟨by rfl, ?_⟩) (by assumption) ?_
  rotate_left
  · intro w hSw; (try dsimp only at hSw); go_simp; try with_reducible rfl
  try simp only [Act.put, List.setIfInBounds_toArray, List.set_cons_zero, List.set_cons_succ]
  refine wpAnyH_take (i := 15) (oi := { dst := some 71, op := Op.move (Operand.tmp 70), type := 4, pos := "laws.go:172", after := #[{ on := 14, ground := Ground.data }, { on := 11, ground := Ground.chain }], guard := none }) (v := ?_) rfl (by kernel_rfl) (by kernel_rfl) (by kernel_rfl) (fun _ _ _ h => h) (Or.inl ⟨by rfl, ?_⟩) (by assumption) ?_
  rotate_left
  · intro w hSw; (try dsimp only at hSw); go_simp; try with_reducible rfl
  try simp only [Act.put, List.setIfInBounds_toArray, List.set_cons_zero, List.set_cons_succ]
  refine wpAnyH_take (i := 16) (oi := { dst := some 72, op := Op.fieldAddr 35 (Operand.tmp 8) 0, type := 0, pos := "laws.go:172", after := #[{ on := 15, ground := Ground.guard }], guard := some (15, true) }) (v := ?_) rfl (by kernel_rfl) (by kernel_rfl) (by kernel_rfl) (fun _ _ _ h => h) (Or.inl ⟨by rfl, ?_⟩) (by assumption) ?_
  rotate_left
  · intro w hSw; (try dsimp only at hSw); go_simp; try with_reducible rfl
  try simp only [Act.put, List.setIfInBounds_toArray, List.set_cons_zero, List.set_cons_succ]
  refine wpAnyH_take (i := 17) (oi := { dst := some 73, op := Op.load 3 (Operand.tmp 72), type := 3, pos := "laws.go:172", after := #[{ on := 16, ground := Ground.data }, { on := 15, ground := Ground.guard }], guard := some (15, true) }) (v := ?_) rfl (by kernel_rfl) (by kernel_rfl) (by kernel_rfl) (fun _ _ _ h => h) (Or.inl ⟨by rfl, ?_⟩) (by assumption) ?_
  rotate_left
  · intro w hSw; (try dsimp only at hSw); go_simp; try with_reducible rfl
  try simp only [Act.put, List.setIfInBounds_toArray, List.set_cons_zero, List.set_cons_succ]
  refine wpAnyH_take (i := 18) (oi := { dst := some 74, op := Op.binOp BinOp.eql 3 (Operand.tmp 73) (Operand.const (Value.int IntKind.i64 3)) 3, type := 4, pos := "laws.go:172", after := #[{ on := 17, ground := Ground.data }, { on := 15, ground := Ground.guard }], guard := some (15, true) }) (v := ?_) rfl (by kernel_rfl) (by kernel_rfl) (by kernel_rfl) (fun _ _ _ h => h) (Or.inl ⟨by rfl, ?_⟩) (by assumption) ?_
  rotate_left
  · intro w hSw; (try dsimp only at hSw); go_simp; try with_reducible rfl
  try simp only [Act.put, List.setIfInBounds_toArray, List.set_cons_zero, List.set_cons_succ]
  refine wpAnyH_take (i := 19) (oi := { dst := some 75, op := Op.pick (Operand.tmp 71) (Operand.tmp 74) (Operand.const (Value.bool false)), type := 4, pos := "laws.go:172", after := #[{ on := 15, ground := Ground.data }, { on := 18, ground := Ground.data }], guard := none }) (v := ?_) rfl (by kernel_rfl) (by kernel_rfl) (by kernel_rfl) (fun _ _ _ h => h) (Or.inl ⟨by rfl, ?_⟩) (by assumption) ?_
  rotate_left
  · intro w hSw; (try dsimp only at hSw); go_simp; try with_reducible rfl
  try simp only [Act.put, List.setIfInBounds_toArray, List.set_cons_zero, List.set_cons_succ]
  refine wpAnyH_take (i := 20) (oi := { dst := some 76, op := Op.move (Operand.tmp 75), type := 4, pos := "laws.go:172", after := #[{ on := 19, ground := Ground.data }, { on := 15, ground := Ground.chain }], guard := none }) (v := ?_) rfl (by kernel_rfl) (by kernel_rfl) (by kernel_rfl) (fun _ _ _ h => h) (Or.inl ⟨by rfl, ?_⟩) (by assumption) ?_
  rotate_left
  · intro w hSw; (try dsimp only at hSw); go_simp; try with_reducible rfl
  try simp only [Act.put, List.setIfInBounds_toArray, List.set_cons_zero, List.set_cons_succ]
  refine wpAnyH_take (i := 21) (oi := { dst := some 77, op := Op.fieldAddr 35 (Operand.tmp 8) 1, type := 0, pos := "laws.go:172", after := #[{ on := 20, ground := Ground.guard }], guard := some (20, true) }) (v := ?_) rfl (by kernel_rfl) (by kernel_rfl) (by kernel_rfl) (fun _ _ _ h => h) (Or.inl ⟨by rfl, ?_⟩) (by assumption) ?_
  rotate_left
  · intro w hSw; (try dsimp only at hSw); go_simp; try with_reducible rfl
  try simp only [Act.put, List.setIfInBounds_toArray, List.set_cons_zero, List.set_cons_succ]
  refine wpAnyH_take (i := 22) (oi := { dst := some 78, op := Op.load 3 (Operand.tmp 77), type := 3, pos := "laws.go:172", after := #[{ on := 21, ground := Ground.data }, { on := 20, ground := Ground.guard }], guard := some (20, true) }) (v := ?_) rfl (by kernel_rfl) (by kernel_rfl) (by kernel_rfl) (fun _ _ _ h => h) (Or.inl ⟨by rfl, ?_⟩) (by assumption) ?_
  rotate_left
  · intro w hSw; (try dsimp only at hSw); go_simp; try with_reducible rfl
  try simp only [Act.put, List.setIfInBounds_toArray, List.set_cons_zero, List.set_cons_succ]
  refine wpAnyH_take (i := 23) (oi := { dst := some 79, op := Op.move (Operand.tmp 0), type := 3, pos := "laws.go:172", after := #[{ on := 20, ground := Ground.guard }], guard := some (20, true) }) (v := ?_) rfl (by kernel_rfl) (by kernel_rfl) (by kernel_rfl) (fun _ _ _ h => h) (Or.inl ⟨by rfl, ?_⟩) (by assumption) ?_
  rotate_left
  · intro w hSw; (try dsimp only at hSw); go_simp; try with_reducible rfl
  try simp only [Act.put, List.setIfInBounds_toArray, List.set_cons_zero, List.set_cons_succ]
  refine wpAnyH_take (i := 24) (oi := { dst := some 80, op := Op.binOp BinOp.eql 3 (Operand.tmp 78) (Operand.tmp 79) 3, type := 4, pos := "laws.go:172", after := #[{ on := 22, ground := Ground.data }, { on := 23, ground := Ground.data }, { on := 20, ground := Ground.guard }], guard := some (20, true) }) (v := ?_) rfl (by kernel_rfl) (by kernel_rfl) (by kernel_rfl) (fun _ _ _ h => h) (Or.inl ⟨by rfl, ?_⟩) (by assumption) ?_
  rotate_left
  · intro w hSw; (try dsimp only at hSw); go_simp; try with_reducible rfl
  try simp only [Act.put, List.setIfInBounds_toArray, List.set_cons_zero, List.set_cons_succ]
  refine wpAnyH_take (i := 25) (oi := { dst := some 81, op := Op.pick (Operand.tmp 76) (Operand.tmp 80) (Operand.const (Value.bool false)), type := 4, pos := "laws.go:172", after := #[{ on := 20, ground := Ground.data }, { on := 24, ground := Ground.data }], guard := none }) (v := ?_) rfl (by kernel_rfl) (by kernel_rfl) (by kernel_rfl) (fun _ _ _ h => h) (Or.inl ⟨by rfl, ?_⟩) (by assumption) ?_
  rotate_left
  · intro w hSw; (try dsimp only at hSw); go_simp; try with_reducible rfl
  try simp only [Act.put, List.setIfInBounds_toArray, List.set_cons_zero, List.set_cons_succ]
  refine wpAnyH_take (i := 26) (oi := { dst := some 82, op := Op.move (Operand.tmp 81), type := 4, pos := "laws.go:172", after := #[{ on := 25, ground := Ground.data }, { on := 20, ground := Ground.chain }], guard := none }) (v := ?_) rfl (by kernel_rfl) (by kernel_rfl) (by kernel_rfl) (fun _ _ _ h => h) (Or.inl ⟨by rfl, ?_⟩) (by assumption) ?_
  rotate_left
  · intro w hSw; (try dsimp only at hSw); go_simp; try with_reducible rfl
  try simp only [Act.put, List.setIfInBounds_toArray, List.set_cons_zero, List.set_cons_succ]
  refine wpAnyH_take (i := 27) (oi := { dst := some 83, op := Op.fieldAddr 35 (Operand.tmp 8) 6, type := 0, pos := "laws.go:172", after := #[{ on := 26, ground := Ground.guard }], guard := some (26, true) }) (v := ?_) rfl (by kernel_rfl) (by kernel_rfl) (by kernel_rfl) (fun _ _ _ h => h) (Or.inl ⟨by rfl, ?_⟩) (by assumption) ?_
  rotate_left
  · intro w hSw; (try dsimp only at hSw); go_simp; try with_reducible rfl
  try simp only [Act.put, List.setIfInBounds_toArray, List.set_cons_zero, List.set_cons_succ]
  refine wpAnyH_take (i := 28) (oi := { dst := some 84, op := Op.load 22 (Operand.tmp 83), type := 22, pos := "laws.go:172", after := #[{ on := 27, ground := Ground.data }, { on := 26, ground := Ground.guard }], guard := some (26, true) }) (v := ?_) rfl (by kernel_rfl) (by kernel_rfl) (by kernel_rfl) (fun _ _ _ h => h) (Or.inl ⟨by rfl, ?_⟩) (by assumption) ?_
  rotate_left
  · intro w hSw; (try dsimp only at hSw); go_simp; try with_reducible rfl
  try simp only [Act.put, List.setIfInBounds_toArray, List.set_cons_zero, List.set_cons_succ]
  refine wpAnyH_take (i := 29) (oi := { dst := some 85, op := Op.convert 22 9 (Operand.tmp 84), type := 9, pos := "laws.go:172", after := #[{ on := 28, ground := Ground.data }, { on := 26, ground := Ground.guard }], guard := some (26, true) }) (v := ?_) rfl (by kernel_rfl) (by kernel_rfl) (by kernel_rfl) (fun _ _ _ h => h) (Or.inl ⟨by rfl, ?_⟩) (by assumption) ?_
  rotate_left
  · intro w hSw; (try dsimp only at hSw); go_simp; try with_reducible rfl
  try simp only [Act.put, List.setIfInBounds_toArray, List.set_cons_zero, List.set_cons_succ]
  refine wpAnyH_take (i := 30) (oi := { dst := some 86, op := Op.move (Operand.tmp 1), type := 22, pos := "laws.go:172", after := #[{ on := 26, ground := Ground.guard }], guard := some (26, true) }) (v := ?_) rfl (by kernel_rfl) (by kernel_rfl) (by kernel_rfl) (fun _ _ _ h => h) (Or.inl ⟨by rfl, ?_⟩) (by assumption) ?_
  rotate_left
  · intro w hSw; (try dsimp only at hSw); go_simp; try with_reducible rfl
  try simp only [Act.put, List.setIfInBounds_toArray, List.set_cons_zero, List.set_cons_succ]
  refine wpAnyH_take (i := 31) (oi := { dst := some 87, op := Op.convert 22 9 (Operand.tmp 86), type := 9, pos := "laws.go:172", after := #[{ on := 30, ground := Ground.data }, { on := 26, ground := Ground.guard }], guard := some (26, true) }) (v := ?_) rfl (by kernel_rfl) (by kernel_rfl) (by kernel_rfl) (fun _ _ _ h => h) (Or.inl ⟨by rfl, ?_⟩) (by assumption) ?_
  rotate_left
  · intro w hSw; (try dsimp only at hSw); go_simp; try with_reducible rfl
  try simp only [Act.put, List.setIfInBounds_toArray, List.set_cons_zero, List.set_cons_succ]
  refine wpAnyH_take (i := 32) (oi := { dst := some 88, op := Op.binOp BinOp.eql 9 (Operand.tmp 85) (Operand.tmp 87) 9, type := 4, pos := "laws.go:172", after := #[{ on := 29, ground := Ground.data }, { on := 31, ground := Ground.data }, { on := 26, ground := Ground.guard }], guard := some (26, true) }) (v := ?_) rfl (by kernel_rfl) (by kernel_rfl) (by kernel_rfl) (fun _ _ _ h => h) (Or.inl ⟨by rfl, ?_⟩) (by assumption) ?_
  rotate_left
  · intro w hSw; (try dsimp only at hSw); go_simp; try with_reducible rfl
  try simp only [Act.put, List.setIfInBounds_toArray, List.set_cons_zero, List.set_cons_succ]
  refine wpAnyH_take (i := 33) (oi := { dst := some 89, op := Op.pick (Operand.tmp 82) (Operand.tmp 88) (Operand.const (Value.bool false)), type := 4, pos := "laws.go:172", after := #[{ on := 26, ground := Ground.data }, { on := 32, ground := Ground.data }], guard := none }) (v := ?_) rfl (by kernel_rfl) (by kernel_rfl) (by kernel_rfl) (fun _ _ _ h => h) (Or.inl ⟨by rfl, ?_⟩) (by assumption) ?_
  rotate_left
  · intro w hSw; (try dsimp only at hSw); go_simp; try with_reducible rfl
  try simp only [Act.put, List.setIfInBounds_toArray, List.set_cons_zero, List.set_cons_succ]
  refine wpAnyH_take (i := 34) (oi := { dst := some 90, op := Op.move (Operand.tmp 89), type := 4, pos := "laws.go:172", after := #[{ on := 33, ground := Ground.data }, { on := 26, ground := Ground.chain }], guard := none }) (v := ?_) rfl (by kernel_rfl) (by kernel_rfl) (by kernel_rfl) (fun _ _ _ h => h) (Or.inl ⟨by rfl, ?_⟩) (by assumption) ?_
  rotate_left
  · intro w hSw; (try dsimp only at hSw); go_simp; try with_reducible rfl
  try simp only [Act.put, List.setIfInBounds_toArray, List.set_cons_zero, List.set_cons_succ]
  refine wpAnyH_take (i := 35) (oi := { dst := some 91, op := Op.move (Operand.tmp 12), type := 4, pos := "laws.go:172", after := #[{ on := 34, ground := Ground.guard }], guard := some (34, true) }) (v := ?_) rfl (by kernel_rfl) (by kernel_rfl) (by kernel_rfl) (fun _ _ _ h => h) (Or.inl ⟨by rfl, ?_⟩) (by assumption) ?_
  rotate_left
  · intro w hSw; (try dsimp only at hSw); go_simp; try with_reducible rfl
  try simp only [Act.put, List.setIfInBounds_toArray, List.set_cons_zero, List.set_cons_succ]
  refine wpAnyH_take (i := 36) (oi := { dst := some 92, op := Op.pick (Operand.tmp 90) (Operand.tmp 91) (Operand.const (Value.bool false)), type := 4, pos := "laws.go:172", after := #[{ on := 34, ground := Ground.data }, { on := 35, ground := Ground.data }], guard := none }) (v := ?_) rfl (by kernel_rfl) (by kernel_rfl) (by kernel_rfl) (fun _ _ _ h => h) (Or.inl ⟨by rfl, ?_⟩) (by assumption) ?_
  rotate_left
  · intro w hSw; (try dsimp only at hSw); go_simp; try with_reducible rfl
  try simp only [Act.put, List.setIfInBounds_toArray, List.set_cons_zero, List.set_cons_succ]
  refine wpAnyH_take (i := 37) (oi := { dst := some 93, op := Op.move (Operand.tmp 92), type := 4, pos := "laws.go:172", after := #[{ on := 36, ground := Ground.data }, { on := 34, ground := Ground.chain }], guard := none }) (v := ?_) rfl (by kernel_rfl) (by kernel_rfl) (by kernel_rfl) (fun _ _ _ h => h) (Or.inl ⟨by rfl, ?_⟩) (by assumption) ?_
  rotate_left
  · intro w hSw; (try dsimp only at hSw); go_simp; try with_reducible rfl
  try simp only [Act.put, List.setIfInBounds_toArray, List.set_cons_zero, List.set_cons_succ]
  refine wpAnyH_take (i := 38) (oi := { dst := some 94, op := Op.move (Operand.tmp 11), type := 22, pos := "laws.go:172", after := #[{ on := 37, ground := Ground.guard }], guard := some (37, true) }) (v := ?_) rfl (by kernel_rfl) (by kernel_rfl) (by kernel_rfl) (fun _ _ _ h => h) (Or.inl ⟨by rfl, ?_⟩) (by assumption) ?_
  rotate_left
  · intro w hSw; (try dsimp only at hSw); go_simp; try with_reducible rfl
  try simp only [Act.put, List.setIfInBounds_toArray, List.set_cons_zero, List.set_cons_succ]
  refine wpAnyH_take (i := 39) (oi := { dst := some 95, op := Op.convert 22 9 (Operand.tmp 94), type := 9, pos := "laws.go:172", after := #[{ on := 38, ground := Ground.data }, { on := 37, ground := Ground.guard }], guard := some (37, true) }) (v := ?_) rfl (by kernel_rfl) (by kernel_rfl) (by kernel_rfl) (fun _ _ _ h => h) (Or.inl ⟨by rfl, ?_⟩) (by assumption) ?_
  rotate_left
  · intro w hSw; (try dsimp only at hSw); go_simp; try with_reducible rfl
  try simp only [Act.put, List.setIfInBounds_toArray, List.set_cons_zero, List.set_cons_succ]
  refine wpAnyH_ready (rs := [40]) (by kernel_rfl) (by simp) ?_
  refine AllReadyH.cons (o := { dst := some 96, op := Op.call { callee := Callee.value (Operand.func 8), args := #[Operand.const (Value.int IntKind.i64 8), Operand.const (Value.int IntKind.i64 0), Operand.const (Value.slice none 0 0)], argTypes := #[3, 3, 22] }, type := 22, pos := "laws.go:172", after := #[{ on := 37, ground := Ground.chain }, { on := 37, ground := Ground.guard }], guard := some (37, true) }) rfl (fun K hK => ?_) AllReadyH.nil
  go_simp
  go_at_call 8; refine (frameBytes_any 8 0 (.slice none 0 0) [] wD.drew (by omega) (by omega) 0 (.inl ⟨rfl, none, 0, rfl⟩) (by simp) ⟨none, 0, rfl⟩).mono ?_; rintro e w9 ⟨v, g9, rfl, r1, r2, r3⟩; obtain ⟨c9, rfl, _⟩ := id r1; rw [frameB_length, List.length_nil] at r1 ⊢; have cv9 := conv_row r1 (by rw [frameB_length]; rfl); have H9 := Lib.hid r3; clear r1 r2 r3
  go_wp2_with fail
  refine hK.out _ _ (by (try dsimp only); exact HSS.out _ H9.out) (fun hHeld => ?_)
  clear hK K
  try simp only [Act.put, List.setIfInBounds_toArray, List.set_cons_zero, List.set_cons_succ]
  refine wpAnyH_ready (rs := [41]) (by kernel_rfl) (by simp) ?_
  refine AllReadyH.cons (o := { dst := some 97, op := Op.convert 22 9 (Operand.tmp 96), type := 9, pos := "laws.go:172", after := #[{ on := 40, ground := Ground.data }, { on := 37, ground := Ground.guard }], guard := some (37, true) }) rfl (fun K hK => ?_) AllReadyH.nil
  go_simp
  refine hK.out _ _ (by (try dsimp only); exact HSS.out _ H9.out) (fun hHeld => ?_)
  clear hK K
  try simp only [Act.put, List.setIfInBounds_toArray, List.set_cons_zero, List.set_cons_succ]
  refine wpAnyH_take (i := 42) (oi := { dst := some 98, op := Op.binOp BinOp.eql 9 (Operand.tmp 95) (Operand.tmp 97) 9, type := 4, pos := "laws.go:172", after := #[{ on := 39, ground := Ground.data }, { on := 41, ground := Ground.data }, { on := 37, ground := Ground.guard }], guard := some (37, true) }) (v := ?_) rfl (by kernel_rfl) (by kernel_rfl) (by kernel_rfl) (fun _ _ _ h => h) (Or.inl ⟨by rfl, ?_⟩) (by assumption) ?_
  rotate_left
  · intro w hSw; (try dsimp only at hSw); go_simp; try with_reducible rfl
  try simp only [Act.put, List.setIfInBounds_toArray, List.set_cons_zero, List.set_cons_succ]
  refine wpAnyH_take (i := 43) (oi := { dst := some 99, op := Op.pick (Operand.tmp 93) (Operand.tmp 98) (Operand.const (Value.bool false)), type := 4, pos := "laws.go:172", after := #[{ on := 37, ground := Ground.data }, { on := 42, ground := Ground.data }], guard := none }) (v := ?_) rfl (by kernel_rfl) (by kernel_rfl) (by kernel_rfl) (fun _ _ _ h => h) (Or.inl ⟨by rfl, ?_⟩) (by assumption) ?_
  rotate_left
  · intro w hSw; (try dsimp only at hSw); go_simp; try with_reducible rfl
  try simp only [Act.put, List.setIfInBounds_toArray, List.set_cons_zero, List.set_cons_succ]
  refine wpAnyH_take (i := 44) (oi := { dst := some 100, op := Op.move (Operand.tmp 99), type := 4, pos := "laws.go:172", after := #[{ on := 43, ground := Ground.data }, { on := 40, ground := Ground.chain }], guard := none }) (v := ?_) rfl (by kernel_rfl) (by kernel_rfl) (by kernel_rfl) (fun _ _ _ h => h) (Or.inl ⟨by rfl, ?_⟩) (by assumption) ?_
  rotate_left
  · intro w hSw; (try dsimp only at hSw); go_simp; try with_reducible rfl
  try simp only [Act.put, List.setIfInBounds_toArray, List.set_cons_zero, List.set_cons_succ]
  refine wpAnyH_take (i := 45) (oi := { dst := some 101, op := Op.move (Operand.tmp 15), type := 4, pos := "laws.go:172", after := #[{ on := 44, ground := Ground.guard }], guard := some (44, true) }) (v := ?_) rfl (by kernel_rfl) (by kernel_rfl) (by kernel_rfl) (fun _ _ _ h => h) (Or.inl ⟨by rfl, ?_⟩) (by assumption) ?_
  rotate_left
  · intro w hSw; (try dsimp only at hSw); go_simp; try with_reducible rfl
  try simp only [Act.put, List.setIfInBounds_toArray, List.set_cons_zero, List.set_cons_succ]
  refine wpAnyH_take (i := 46) (oi := { dst := some 102, op := Op.pick (Operand.tmp 100) (Operand.tmp 101) (Operand.const (Value.bool false)), type := 4, pos := "laws.go:172", after := #[{ on := 44, ground := Ground.data }, { on := 45, ground := Ground.data }], guard := none }) (v := ?_) rfl (by kernel_rfl) (by kernel_rfl) (by kernel_rfl) (fun _ _ _ h => h) (Or.inl ⟨by rfl, ?_⟩) (by assumption) ?_
  rotate_left
  · intro w hSw; (try dsimp only at hSw); go_simp; try with_reducible rfl
  try simp only [Act.put, List.setIfInBounds_toArray, List.set_cons_zero, List.set_cons_succ]
  refine wpAnyH_take (i := 47) (oi := { dst := some 103, op := Op.move (Operand.tmp 102), type := 4, pos := "laws.go:172", after := #[{ on := 46, ground := Ground.data }, { on := 44, ground := Ground.chain }], guard := none }) (v := ?_) rfl (by kernel_rfl) (by kernel_rfl) (by kernel_rfl) (fun _ _ _ h => h) (Or.inl ⟨by rfl, ?_⟩) (by assumption) ?_
  rotate_left
  · intro w hSw; (try dsimp only at hSw); go_simp; try with_reducible rfl
  try simp only [Act.put, List.setIfInBounds_toArray, List.set_cons_zero, List.set_cons_succ]
  refine wpAnyH_take (i := 48) (oi := { dst := some 104, op := Op.fieldAddr 35 (Operand.tmp 13) 0, type := 0, pos := "laws.go:172", after := #[{ on := 47, ground := Ground.guard }], guard := some (47, true) }) (v := ?_) rfl (by kernel_rfl) (by kernel_rfl) (by kernel_rfl) (fun _ _ _ h => h) (Or.inl ⟨by rfl, ?_⟩) (by assumption) ?_
  rotate_left
  · intro w hSw; (try dsimp only at hSw); go_simp; try with_reducible rfl
  try simp only [Act.put, List.setIfInBounds_toArray, List.set_cons_zero, List.set_cons_succ]
  refine wpAnyH_take (i := 49) (oi := { dst := some 105, op := Op.load 3 (Operand.tmp 104), type := 3, pos := "laws.go:172", after := #[{ on := 48, ground := Ground.data }, { on := 47, ground := Ground.guard }], guard := some (47, true) }) (v := ?_) rfl (by kernel_rfl) (by kernel_rfl) (by kernel_rfl) (fun _ _ _ h => h) (Or.inl ⟨by rfl, ?_⟩) (by assumption) ?_
  rotate_left
  · intro w hSw; (try dsimp only at hSw); go_simp; try with_reducible rfl
  try simp only [Act.put, List.setIfInBounds_toArray, List.set_cons_zero, List.set_cons_succ]
  refine wpAnyH_take (i := 50) (oi := { dst := some 106, op := Op.binOp BinOp.eql 3 (Operand.tmp 105) (Operand.const (Value.int IntKind.i64 8)) 3, type := 4, pos := "laws.go:172", after := #[{ on := 49, ground := Ground.data }, { on := 47, ground := Ground.guard }], guard := some (47, true) }) (v := ?_) rfl (by kernel_rfl) (by kernel_rfl) (by kernel_rfl) (fun _ _ _ h => h) (Or.inl ⟨by rfl, ?_⟩) (by assumption) ?_
  rotate_left
  · intro w hSw; (try dsimp only at hSw); go_simp; try with_reducible rfl
  try simp only [Act.put, List.setIfInBounds_toArray, List.set_cons_zero, List.set_cons_succ]
  refine wpAnyH_take (i := 51) (oi := { dst := some 107, op := Op.pick (Operand.tmp 103) (Operand.tmp 106) (Operand.const (Value.bool false)), type := 4, pos := "laws.go:172", after := #[{ on := 47, ground := Ground.data }, { on := 50, ground := Ground.data }], guard := none }) (v := ?_) rfl (by kernel_rfl) (by kernel_rfl) (by kernel_rfl) (fun _ _ _ h => h) (Or.inl ⟨by rfl, ?_⟩) (by assumption) ?_
  rotate_left
  · intro w hSw; (try dsimp only at hSw); go_simp; try with_reducible rfl
  try simp only [Act.put, List.setIfInBounds_toArray, List.set_cons_zero, List.set_cons_succ]
  refine wpAnyH_take (i := 52) (oi := { dst := some 108, op := Op.move (Operand.tmp 107), type := 4, pos := "laws.go:172", after := #[{ on := 51, ground := Ground.data }, { on := 47, ground := Ground.chain }], guard := none }) (v := ?_) rfl (by kernel_rfl) (by kernel_rfl) (by kernel_rfl) (fun _ _ _ h => h) (Or.inl ⟨by rfl, ?_⟩) (by assumption) ?_
  rotate_left
  · intro w hSw; (try dsimp only at hSw); go_simp; try with_reducible rfl
  try simp only [Act.put, List.setIfInBounds_toArray, List.set_cons_zero, List.set_cons_succ]
  refine wpAnyH_ready (rs := [53]) (by kernel_rfl) (by simp) ?_
  refine AllReadyH.cons (o := { dst := some 109, op := Op.call { callee := Callee.value (Operand.func 7), args := #[], argTypes := #[] }, type := 4, pos := "laws.go:172", after := #[{ on := 52, ground := Ground.chain }, { on := 52, ground := Ground.guard }], guard := some (52, true) }) rfl (fun K hK => ?_) AllReadyH.nil
  go_simp
  go_at_call 7; refine (works_any _).mono ?_; rintro e wE ⟨rfl, hk⟩; have HE := Lib.hid hk; clear hk
  go_wp2_with fail
  refine hK.out _ _ (by (try dsimp only); exact HSS.out _ (H9.out.trans HE.out (by simp))) (fun hHeld => ?_)
  clear hK K
  try simp only [Act.put, List.setIfInBounds_toArray, List.set_cons_zero, List.set_cons_succ]
  refine wpAnyH_take (i := 54) (oi := { dst := some 110, op := Op.pick (Operand.tmp 108) (Operand.tmp 109) (Operand.const (Value.bool false)), type := 4, pos := "laws.go:172", after := #[{ on := 52, ground := Ground.data }, { on := 53, ground := Ground.data }], guard := none }) (v := ?_) rfl (by kernel_rfl) (by kernel_rfl) (by kernel_rfl) (fun _ _ _ h => h) (Or.inl ⟨by rfl, ?_⟩) (by assumption) ?_
  rotate_left
  · intro w hSw; (try dsimp only at hSw); go_simp; try with_reducible rfl
  try simp only [Act.put, List.setIfInBounds_toArray, List.set_cons_zero, List.set_cons_succ]
  refine wpAnyH_take (i := 55) (oi := { dst := some 4, op := Op.assign (Operand.tmp 110), type := 4, pos := "laws.go:172", after := #[{ on := 54, ground := Ground.data }, { on := 53, ground := Ground.chain }, { on := 0, ground := Ground.phase }, { on := 1, ground := Ground.phase }, { on := 2, ground := Ground.phase }, { on := 3, ground := Ground.phase }, { on := 4, ground := Ground.phase }, { on := 5, ground := Ground.phase }, { on := 6, ground := Ground.phase }, { on := 7, ground := Ground.phase }, { on := 8, ground := Ground.phase }, { on := 9, ground := Ground.phase }, { on := 10, ground := Ground.phase }, { on := 11, ground := Ground.phase }, { on := 12, ground := Ground.phase }, { on := 13, ground := Ground.phase }, { on := 14, ground := Ground.phase }, { on := 15, ground := Ground.phase }, { on := 16, ground := Ground.phase }, { on := 17, ground := Ground.phase }, { on := 18, ground := Ground.phase }, { on := 19, ground := Ground.phase }, { on := 20, ground := Ground.phase }, { on := 21, ground := Ground.phase }, { on := 22, ground := Ground.phase }, { on := 23, ground := Ground.phase }, { on := 24, ground := Ground.phase }, { on := 25, ground := Ground.phase }, { on := 26, ground := Ground.phase }, { on := 27, ground := Ground.phase }, { on := 28, ground := Ground.phase }, { on := 29, ground := Ground.phase }, { on := 30, ground := Ground.phase }, { on := 31, ground := Ground.phase }, { on := 32, ground := Ground.phase }, { on := 33, ground := Ground.phase }, { on := 34, ground := Ground.phase }, { on := 35, ground := Ground.phase }, { on := 36, ground := Ground.phase }, { on := 37, ground := Ground.phase }, { on := 38, ground := Ground.phase }, { on := 39, ground := Ground.phase }, { on := 40, ground := Ground.phase }, { on := 41, ground := Ground.phase }, { on := 42, ground := Ground.phase }, { on := 43, ground := Ground.phase }, { on := 44, ground := Ground.phase }, { on := 45, ground := Ground.phase }, { on := 46, ground := Ground.phase }, { on := 47, ground := Ground.phase }, { on := 48, ground := Ground.phase }, { on := 49, ground := Ground.phase }, { on := 50, ground := Ground.phase }, { on := 51, ground := Ground.phase }, { on := 52, ground := Ground.phase }, { on := 53, ground := Ground.phase }, { on := 54, ground := Ground.phase }], guard := none }) (v := ?_) rfl (by kernel_rfl) (by kernel_rfl) (by kernel_rfl) (fun _ _ _ h => h) (Or.inl ⟨by rfl, ?_⟩) (by assumption) ?_
  rotate_left
  · intro w hSw; (try dsimp only at hSw); go_simp; try with_reducible rfl
  try simp only [Act.put, List.setIfInBounds_toArray, List.set_cons_zero, List.set_cons_succ]
  refine wpAnyH_done (by kernel_rfl) ?_ _
  refine NoPanic.normal ?_
  all_goals
    go_wp2_with fail
    go_ret
    exact ⟨rfl, (HK.out.trans H9.out (S := []) (S' := []) (by simp)).trans HE.out (by simp)⟩

end Go.Proofs.YtkcdakohmfodjaaGreat
