/-
  Lemmas on the way to the statement of YtkcdakohmfodjaaGreatHeader, joined out of these texts: Prop. No condition.
-/
import Derived.Test.YtkcdakohmfodjaaGreatNConvV
import Derived.Test.YtkcdakohmfodjaaGreatNRstr
namespace Go.Proofs.YtkcdakohmfodjaaGreat
open Go.RowKit
set_option linter.unusedVariables false
set_option linter.unusedSimpArgs false
/-- spec.ProperValue of v. -/
def PropVC (v : Val) : Prop := ∀ (B : Nat → Prop) (cs : List Value) (deep : Nat) (r : Int) (rm : Nat) (w : World), VHeld B w cs v → WfV v → Blk w rm #[.int .i64 r] 3 → (∀ b, B b → b ≠ rm) → deep ≤ 10 → 0 ≤ r → r ≤ 2000 →
  Calls Tryz.prog 76 #[.agg cs.toArray, .int .i64 (deep : Int), .pointer (some ⟨rm, 0, none⟩)] w fun e w' => e = .returned (.bool (propV v deep r).1) ∧ Blk w' rm #[.int .i64 (propV v deep r).2] 3 ∧ Kept [rm] w w'
/-- spec.ProperTable of l. -/
def PropFC (l : List Fld) : Prop := ∀ (B : Nat → Prop) (s : Value) (deep : Nat) (r : Int) (rm : Nat) (w : World), FSl B w s l → WfFs l → l.length ≤ 140737488355328 → Blk w rm #[.int .i64 r] 3 → (∀ b, B b → b ≠ rm) → deep ≤ 10 → 0 ≤ r → r ≤ 2000 →
  Calls Tryz.prog 53 #[s, .int .i64 (deep : Int), .pointer (some ⟨rm, 0, none⟩)] w fun e w' => e = .returned (.bool (propFs l none deep r).1) ∧ Blk w' rm #[.int .i64 (propFs l none deep r).2] 3 ∧ Kept [rm] w w'
/-- The name ahead of a place. -/
def prevName (l : List Fld) (m : Nat) : Option (List UInt8) := if m = 0 then none else (l[m - 1]?).map Fld.name
theorem size_sFld : (Tryz.prog.info? 143).map (·.size) = some 8 := by kernel_rfl
set_option maxHeartbeats 20000000 in
set_option maxRecDepth 100000 in
theorem properTable_of (l : List Fld) (hv : ∀ x, x ∈ l → PropVC x.val) : PropFC l := by
  intro B s deep r rm w hs hwf hll hrm hB hd hr0 hr1
  obtain ⟨fa, fc, rfl, hfc, hfs, hget⟩ := hs.get
  have hn : (l.length : Int) ≤ 140737488355328 := by omega
  have hd' : (deep : Int) ≤ 10 := by omega
  have H := Lib.hid (And.intro hs (And.intro hwf (And.intro hrm (And.intro hB (And.intro hget (And.intro hv hfs))))))
  clear hs hwf hrm hB hget hv hfs
  go_enter Tryz.func53, Tryz.ntmps53
  go_wp2_with fail
  go_loopw [11] (fun i W => ∃ (k : Nat) (rk : Int), k ≤ l.length ∧ i = .int .i64 (k : Int) ∧ 0 ≤ rk ∧ rk ≤ 2000 ∧ Hid (propFs l none deep r = propFs (l.drop k) (prevName l k) deep rk ∧
    Blk W rm #[.int .i64 rk] 3 ∧ Kept [rm] w W)) (fun i _ => l.length - (intOf i).toNat)
  case atStart => exact ⟨0, r, Nat.zero_le _, rfl, hr0, hr1, Lib.hid ⟨rfl, H.out.2.2.1, Kept.refl _ _⟩⟩
  case round =>
    obtain ⟨k, rk, hkl, rfl, hrk0, hrk1, HR⟩ := hrel
    by_cases hlt : k < l.length
    · obtain ⟨name, v, hx⟩ : ∃ name v, l[k]? = some (.mk name v) := by
        rw [List.getElem?_eq_getElem hlt]; cases l[k] with | mk name v => exact ⟨name, v, rfl⟩
      obtain ⟨ad, cs, rfl, hca, hvh⟩ := H.out.2.2.2.2.1 k name v hx
      have hlt' : (k : Int) < l.length := by omega
      have hBk : ∀ b, B b → b ∉ [rm] := fun b hb => by simpa using H.out.2.2.2.1 b hb
      have hca' := (hca.kept HR.out.2.2 hBk).2
      have hvh' := VHeld.kept HR.out.2.2 hBk v hvh
      obtain ⟨a0, a1, a2, a3, a4, a5, a6, rfl⟩ := hvh'.seven
      have hnl := WfFs.get l H.out.2.1 k name v hx
      have hnl1 : (name.length : Int) ≤ 140737488355328 := by have := hnl.1; omega
      have hw1 : IntKind.i64.wrap (1 + (name.length : Int)) = 1 + name.length := by rw [IntKind.wrap_i64]; omega
      have hw2 : IntKind.i64.wrap (rk - (1 + (name.length : Int))) = rk - (1 + name.length) := by rw [IntKind.wrap_i64]; omega
      have HX := Lib.hid (And.intro hx (And.intro hca' (And.intro hvh' (And.intro hnl hBk))))
      clear hx hca hca' hvh hvh' hnl hBk
      go_wp2_with (first
        | (refine wpList_load_cells rfl 143 (.tmp 14) rfl _ rfl _ HX.out.2.1 _ Tryz.underlying143 rfl size_sFld ?_)
        | (refine wpList_store_row (P := Tryz.prog) rfl rfl 143 (.tmp 8) (.tmp 15) rfl wr.heap.size rfl 143 _ [.string (bstr name), a0, a1, a2, a3, a4, a5, a6] (Blk.new wr _ _) rfl rfl (by intro u hu; rcases List.mem_cons.1 hu with rfl | hu; rfl; exact HX.out.2.2.1.one u hu) size_sFld ?_; intro w1 hb1 hk1; have HB := Lib.hid (And.intro hb1 hk1); clear hb1 hk1))
      have c0 : w1.cell? ⟨wr.heap.size, 0, none⟩ = some (.string (bstr name)) := HB.out.1.cell 0
      have hkw1 : Kept [] wr w1 := ((Kept.refl [] wr).alloc _).trans HB.out.2 (by simp)
      have hrm1 := HR.out.2.1.kept hkw1 (by simp)
      have c1 := hrm1.cell0
      have f1 := hrm1.free 0
      have HW1 := Lib.hid (And.intro hkw1 hrm1); clear hkw1 hrm1
      go_still_tail 9, (by kernel_rfl)
      change wpList _ _ _ _ _ w1.drew
      go_wp2_with fail
      obtain ⟨W2, hW2⟩ : ∃ W2, W2 = (w1.setCell ⟨rm, 0, none⟩ (.int .i64 (rk - (1 + (name.length : Int))))).drew := ⟨_, rfl⟩
      rw [← hW2]
      have hrmq : rm ≠ wr.heap.size := by have := HR.out.2.1.lt; omega
      have hb2 : Blk W2 wr.heap.size #[.string (bstr name), a0, a1, a2, a3, a4, a5, a6] 143 := by rw [hW2]; exact (HB.out.1.setCell_other (by simpa using Ne.symm hrmq) _).drew
      have hrm2 : Blk W2 rm #[.int .i64 (rk - (1 + (name.length : Int)))] 3 := by rw [hW2]; exact (HW1.out.2.setCell 0 _).drew
      have hk2 : Kept [rm] wr W2 := by rw [hW2]; exact ((HW1.out.1.mono (by simp)).setCell (by simp) _).drew
      have hdrop : l.drop k = .mk name v :: l.drop (k + 1) := by
        rw [List.drop_eq_getElem_cons hlt]; congr 1
        have := HX.out.1; rw [List.getElem?_eq_getElem hlt] at this; simpa using this
      have hcells := hb2.cell
      have z0 : W2.cell? ⟨wr.heap.size, 0, none⟩ = some (.string (bstr name)) := hcells 0
      have z1 : W2.cell? ⟨wr.heap.size, 1, none⟩ = some a0 := hcells 1
      have z2 : W2.cell? ⟨wr.heap.size, 2, none⟩ = some a1 := hcells 2
      have z3 : W2.cell? ⟨wr.heap.size, 3, none⟩ = some a2 := hcells 3
      have z4 : W2.cell? ⟨wr.heap.size, 4, none⟩ = some a3 := hcells 4
      have z5 : W2.cell? ⟨wr.heap.size, 5, none⟩ = some a4 := hcells 5
      have z6 : W2.cell? ⟨wr.heap.size, 6, none⟩ = some a5 := hcells 6
      have z7 : W2.cell? ⟨wr.heap.size, 7, none⟩ = some a6 := hcells 7
      have y0 := hrm2.cell0
      have hprop : propFs l none deep r = propFs (.mk name v :: l.drop (k + 1)) (prevName l k) deep rk := by rw [HR.out.1, hdrop]
      have hkw : Kept [rm] w W2 := HR.out.2.2.trans hk2 (fun x hx => .inl hx)
      have H2 := Lib.hid (And.intro hb2 (And.intro hrm2 (And.intro hk2 (And.intro hkw (And.intro hprop hdrop)))))
      clear hW2 hb2 hrm2 hk2 hdrop hcells hprop hkw c0 c1 f1
      by_cases hA : 255 < name.length
      · have hA' : (255 : Int) < name.length := by omega
        refine wp_region_noPanic ?_
        refine wp_region_held_drew (S := (fun w' : World => w'.cell? ⟨wr.heap.size, 0, none⟩ = some (.string (bstr name)) ∧ w'.cell? ⟨wr.heap.size, 1, none⟩ = some a0 ∧ w'.cell? ⟨wr.heap.size, 2, none⟩ = some a1 ∧ w'.cell? ⟨wr.heap.size, 3, none⟩ = some a2 ∧ w'.cell? ⟨wr.heap.size, 4, none⟩ = some a3 ∧ w'.cell? ⟨wr.heap.size, 5, none⟩ = some a4 ∧ w'.cell? ⟨wr.heap.size, 6, none⟩ = some a5 ∧ w'.cell? ⟨wr.heap.size, 7, none⟩ = some a6)) (by kernel_rfl) (by (try dsimp only); exact ⟨z0, z1, z2, z3, z4, z5, z6, z7⟩) (fun hHeld => ?_)
        refine wpAnyH_take (i := 0) (oi := { dst := some 25, op := Op.fieldAddr 143 (Operand.tmp 8) 0, type := 0, pos := "frame.go:265", after := #[], guard := none }) (v := ?_) rfl (by kernel_rfl) (by kernel_rfl) (by kernel_rfl) (fun _ _ _ h => h) (Or.inl ⟨by rfl, ?_⟩) (by assumption) ?_
        rotate_left
        · intro w hSw; (try dsimp only at hSw); go_simp; try with_reducible rfl
        try simp only [Act.put, List.setIfInBounds_toArray, List.set_cons_zero, List.set_cons_succ]
        refine wpAnyH_take (i := 1) (oi := { dst := some 26, op := Op.load 9 (Operand.tmp 25), type := 9, pos := "frame.go:265", after := #[{ on := 0, ground := Ground.data }], guard := none }) (v := ?_) rfl (by kernel_rfl) (by kernel_rfl) (by kernel_rfl) (fun _ _ _ h => h) (Or.inl ⟨by rfl, ?_⟩) (by assumption) ?_
        rotate_left
        · intro w hSw; (try dsimp only at hSw); go_simp; try with_reducible rfl
        try simp only [Act.put, List.setIfInBounds_toArray, List.set_cons_zero, List.set_cons_succ]
        refine wpAnyH_take (i := 2) (oi := { dst := some 27, op := Op.call { callee := Callee.builtin Builtin.len, args := #[Operand.tmp 26], argTypes := #[9] }, type := 3, pos := "frame.go:265", after := #[{ on := 1, ground := Ground.data }], guard := none }) (v := ?_) rfl (by kernel_rfl) (by kernel_rfl) (by kernel_rfl) (fun _ _ _ h => h) (Or.inl ⟨by rfl, ?_⟩) (by assumption) ?_
        rotate_left
        · intro w hSw; (try dsimp only at hSw); go_simp; try with_reducible rfl
        try simp only [Act.put, List.setIfInBounds_toArray, List.set_cons_zero, List.set_cons_succ]
        refine wpAnyH_take (i := 3) (oi := { dst := some 28, op := Op.binOp BinOp.gtr 3 (Operand.tmp 27) (Operand.const (Value.int IntKind.i64 255)) 3, type := 4, pos := "frame.go:265", after := #[{ on := 2, ground := Ground.data }], guard := none }) (v := ?_) rfl (by kernel_rfl) (by kernel_rfl) (by kernel_rfl) (fun _ _ _ h => h) (Or.inl ⟨by rfl, ?_⟩) (by assumption) ?_
        rotate_left
        · intro w hSw; (try dsimp only at hSw); go_simp; try with_reducible rfl
        try simp only [Act.put, List.setIfInBounds_toArray, List.set_cons_zero, List.set_cons_succ]
        refine wpAnyH_take (i := 4) (oi := { dst := some 29, op := Op.move (Operand.tmp 28), type := 4, pos := "frame.go:265", after := #[{ on := 3, ground := Ground.data }], guard := none }) (v := ?_) rfl (by kernel_rfl) (by kernel_rfl) (by kernel_rfl) (fun _ _ _ h => h) (Or.inl ⟨by rfl, ?_⟩) (by assumption) ?_
        rotate_left
        · intro w hSw; (try dsimp only at hSw); go_simp; try with_reducible rfl
        try simp only [Act.put, List.setIfInBounds_toArray, List.set_cons_zero, List.set_cons_succ]
        refine wpAnyH_take (i := 5) (oi := { dst := some 30, op := Op.move (Operand.tmp 2), type := 134, pos := "frame.go:265", after := #[{ on := 4, ground := Ground.guard }], guard := some (4, false) }) (v := undef) rfl (by kernel_rfl) (by kernel_rfl) (by kernel_rfl) (fun _ _ _ h => h) (Or.inr ⟨by rfl, rfl⟩) (by assumption) ?_
        try simp only [Act.put, List.setIfInBounds_toArray, List.set_cons_zero, List.set_cons_succ]
        refine wpAnyH_take (i := 6) (oi := { dst := some 31, op := Op.nilCheck (Operand.tmp 30), type := 0, pos := "frame.go:265", after := #[{ on := 5, ground := Ground.data }, { on := 4, ground := Ground.guard }], guard := some (4, false) }) (v := undef) rfl (by kernel_rfl) (by kernel_rfl) (by kernel_rfl) (fun _ _ _ h => h) (Or.inr ⟨by rfl, rfl⟩) (by assumption) ?_
        try simp only [Act.put, List.setIfInBounds_toArray, List.set_cons_zero, List.set_cons_succ]
        refine wpAnyH_take (i := 7) (oi := { dst := some 32, op := Op.load 3 (Operand.tmp 31), type := 3, pos := "frame.go:265", after := #[{ on := 6, ground := Ground.data }, { on := 4, ground := Ground.guard }], guard := some (4, false) }) (v := undef) rfl (by kernel_rfl) (by kernel_rfl) (by kernel_rfl) (fun _ _ _ h => h) (Or.inr ⟨by rfl, rfl⟩) (by assumption) ?_
        try simp only [Act.put, List.setIfInBounds_toArray, List.set_cons_zero, List.set_cons_succ]
        refine wpAnyH_take (i := 8) (oi := { dst := some 33, op := Op.binOp BinOp.lss 3 (Operand.tmp 32) (Operand.const (Value.int IntKind.i64 0)) 3, type := 4, pos := "frame.go:265", after := #[{ on := 7, ground := Ground.data }, { on := 4, ground := Ground.guard }], guard := some (4, false) }) (v := undef) rfl (by kernel_rfl) (by kernel_rfl) (by kernel_rfl) (fun _ _ _ h => h) (Or.inr ⟨by rfl, rfl⟩) (by assumption) ?_
        try simp only [Act.put, List.setIfInBounds_toArray, List.set_cons_zero, List.set_cons_succ]
        refine wpAnyH_take (i := 9) (oi := { dst := some 34, op := Op.pick (Operand.tmp 29) (Operand.const (Value.bool true)) (Operand.tmp 33), type := 4, pos := "frame.go:265", after := #[{ on := 4, ground := Ground.data }, { on := 8, ground := Ground.data }], guard := none }) (v := ?_) rfl (by kernel_rfl) (by kernel_rfl) (by kernel_rfl) (fun _ _ _ h => h) (Or.inl ⟨by rfl, ?_⟩) (by assumption) ?_
        rotate_left
        · intro w hSw; (try dsimp only at hSw); go_simp; try with_reducible rfl
        try simp only [Act.put, List.setIfInBounds_toArray, List.set_cons_zero, List.set_cons_succ]
        refine wpAnyH_take (i := 10) (oi := { dst := some 35, op := Op.move (Operand.tmp 34), type := 4, pos := "frame.go:265", after := #[{ on := 9, ground := Ground.data }, { on := 4, ground := Ground.chain }], guard := none }) (v := ?_) rfl (by kernel_rfl) (by kernel_rfl) (by kernel_rfl) (fun _ _ _ h => h) (Or.inl ⟨by rfl, ?_⟩) (by assumption) ?_
        rotate_left
        · intro w hSw; (try dsimp only at hSw); go_simp; try with_reducible rfl
        try simp only [Act.put, List.setIfInBounds_toArray, List.set_cons_zero, List.set_cons_succ]
        refine wpAnyH_take (i := 11) (oi := { dst := some 36, op := Op.move (Operand.tmp 7), type := 3, pos := "frame.go:265", after := #[{ on := 10, ground := Ground.guard }], guard := some (10, false) }) (v := undef) rfl (by kernel_rfl) (by kernel_rfl) (by kernel_rfl) (fun _ _ _ h => h) (Or.inr ⟨by rfl, rfl⟩) (by assumption) ?_
        try simp only [Act.put, List.setIfInBounds_toArray, List.set_cons_zero, List.set_cons_succ]
        refine wpAnyH_take (i := 12) (oi := { dst := some 37, op := Op.binOp BinOp.gtr 3 (Operand.tmp 36) (Operand.const (Value.int IntKind.i64 0)) 3, type := 4, pos := "frame.go:265", after := #[{ on := 11, ground := Ground.data }, { on := 10, ground := Ground.guard }], guard := some (10, false) }) (v := undef) rfl (by kernel_rfl) (by kernel_rfl) (by kernel_rfl) (fun _ _ _ h => h) (Or.inr ⟨by rfl, rfl⟩) (by assumption) ?_
        try simp only [Act.put, List.setIfInBounds_toArray, List.set_cons_zero, List.set_cons_succ]
        refine wpAnyH_take (i := 13) (oi := { dst := some 38, op := Op.move (Operand.tmp 37), type := 4, pos := "frame.go:265", after := #[{ on := 12, ground := Ground.data }, { on := 10, ground := Ground.chain }, { on := 10, ground := Ground.guard }], guard := some (10, false) }) (v := undef) rfl (by kernel_rfl) (by kernel_rfl) (by kernel_rfl) (fun _ _ _ h => h) (Or.inr ⟨by rfl, rfl⟩) (by assumption) ?_
        try simp only [Act.put, List.setIfInBounds_toArray, List.set_cons_zero, List.set_cons_succ]
        refine wpAnyH_take (i := 14) (oi := { dst := some 39, op := Op.move (Operand.tmp 0), type := 52, pos := "frame.go:265", after := #[{ on := 13, ground := Ground.guard }], guard := some (13, true) }) (v := undef) rfl (by kernel_rfl) (by kernel_rfl) (by kernel_rfl) (fun _ _ _ h => h) (Or.inr ⟨by rfl, rfl⟩) (by assumption) ?_
        try simp only [Act.put, List.setIfInBounds_toArray, List.set_cons_zero, List.set_cons_succ]
        refine wpAnyH_take (i := 15) (oi := { dst := some 40, op := Op.move (Operand.tmp 7), type := 3, pos := "frame.go:265", after := #[{ on := 13, ground := Ground.guard }], guard := some (13, true) }) (v := undef) rfl (by kernel_rfl) (by kernel_rfl) (by kernel_rfl) (fun _ _ _ h => h) (Or.inr ⟨by rfl, rfl⟩) (by assumption) ?_
        try simp only [Act.put, List.setIfInBounds_toArray, List.set_cons_zero, List.set_cons_succ]
        refine wpAnyH_take (i := 16) (oi := { dst := some 41, op := Op.binOp BinOp.sub 3 (Operand.tmp 40) (Operand.const (Value.int IntKind.i64 1)) 3, type := 3, pos := "frame.go:265", after := #[{ on := 15, ground := Ground.data }, { on := 13, ground := Ground.guard }], guard := some (13, true) }) (v := undef) rfl (by kernel_rfl) (by kernel_rfl) (by kernel_rfl) (fun _ _ _ h => h) (Or.inr ⟨by rfl, rfl⟩) (by assumption) ?_
        try simp only [Act.put, List.setIfInBounds_toArray, List.set_cons_zero, List.set_cons_succ]
        refine wpAnyH_take (i := 17) (oi := { dst := some 42, op := Op.indexAddr 52 (Operand.tmp 39) (Operand.tmp 41), type := 0, pos := "frame.go:265", after := #[{ on := 14, ground := Ground.data }, { on := 16, ground := Ground.data }, { on := 13, ground := Ground.guard }], guard := some (13, true) }) (v := undef) rfl (by kernel_rfl) (by kernel_rfl) (by kernel_rfl) (fun _ _ _ h => h) (Or.inr ⟨by rfl, rfl⟩) (by assumption) ?_
        try simp only [Act.put, List.setIfInBounds_toArray, List.set_cons_zero, List.set_cons_succ]
        refine wpAnyH_take (i := 18) (oi := { dst := some 43, op := Op.fieldAddr 143 (Operand.tmp 42) 0, type := 0, pos := "frame.go:265", after := #[{ on := 17, ground := Ground.data }, { on := 13, ground := Ground.guard }], guard := some (13, true) }) (v := undef) rfl (by kernel_rfl) (by kernel_rfl) (by kernel_rfl) (fun _ _ _ h => h) (Or.inr ⟨by rfl, rfl⟩) (by assumption) ?_
        try simp only [Act.put, List.setIfInBounds_toArray, List.set_cons_zero, List.set_cons_succ]
        refine wpAnyH_take (i := 19) (oi := { dst := some 44, op := Op.load 9 (Operand.tmp 43), type := 9, pos := "frame.go:265", after := #[{ on := 18, ground := Ground.data }, { on := 13, ground := Ground.guard }], guard := some (13, true) }) (v := undef) rfl (by kernel_rfl) (by kernel_rfl) (by kernel_rfl) (fun _ _ _ h => h) (Or.inr ⟨by rfl, rfl⟩) (by assumption) ?_
        try simp only [Act.put, List.setIfInBounds_toArray, List.set_cons_zero, List.set_cons_succ]
        refine wpAnyH_take (i := 20) (oi := { dst := some 45, op := Op.fieldAddr 143 (Operand.tmp 8) 0, type := 0, pos := "frame.go:265", after := #[{ on := 13, ground := Ground.guard }], guard := some (13, true) }) (v := undef) rfl (by kernel_rfl) (by kernel_rfl) (by kernel_rfl) (fun _ _ _ h => h) (Or.inr ⟨by rfl, rfl⟩) (by assumption) ?_
        try simp only [Act.put, List.setIfInBounds_toArray, List.set_cons_zero, List.set_cons_succ]
        refine wpAnyH_take (i := 21) (oi := { dst := some 46, op := Op.load 9 (Operand.tmp 45), type := 9, pos := "frame.go:265", after := #[{ on := 20, ground := Ground.data }, { on := 13, ground := Ground.guard }], guard := some (13, true) }) (v := undef) rfl (by kernel_rfl) (by kernel_rfl) (by kernel_rfl) (fun _ _ _ h => h) (Or.inr ⟨by rfl, rfl⟩) (by assumption) ?_
        try simp only [Act.put, List.setIfInBounds_toArray, List.set_cons_zero, List.set_cons_succ]
        refine wpAnyH_take (i := 22) (oi := { dst := some 47, op := Op.binOp BinOp.geq 9 (Operand.tmp 44) (Operand.tmp 46) 9, type := 4, pos := "frame.go:265", after := #[{ on := 19, ground := Ground.data }, { on := 21, ground := Ground.data }, { on := 13, ground := Ground.guard }], guard := some (13, true) }) (v := undef) rfl (by kernel_rfl) (by kernel_rfl) (by kernel_rfl) (fun _ _ _ h => h) (Or.inr ⟨by rfl, rfl⟩) (by assumption) ?_
        try simp only [Act.put, List.setIfInBounds_toArray, List.set_cons_zero, List.set_cons_succ]
        refine wpAnyH_take (i := 23) (oi := { dst := some 48, op := Op.pick (Operand.tmp 38) (Operand.tmp 47) (Operand.const (Value.bool false)), type := 4, pos := "frame.go:265", after := #[{ on := 13, ground := Ground.data }, { on := 22, ground := Ground.data }, { on := 10, ground := Ground.guard }], guard := some (10, false) }) (v := undef) rfl (by kernel_rfl) (by kernel_rfl) (by kernel_rfl) (fun _ _ _ h => h) (Or.inr ⟨by rfl, rfl⟩) (by assumption) ?_
        try simp only [Act.put, List.setIfInBounds_toArray, List.set_cons_zero, List.set_cons_succ]
        refine wpAnyH_take (i := 24) (oi := { dst := some 49, op := Op.pick (Operand.tmp 35) (Operand.const (Value.bool true)) (Operand.tmp 48), type := 4, pos := "frame.go:265", after := #[{ on := 10, ground := Ground.data }, { on := 23, ground := Ground.data }], guard := none }) (v := ?_) rfl (by kernel_rfl) (by kernel_rfl) (by kernel_rfl) (fun _ _ _ h => h) (Or.inl ⟨by rfl, ?_⟩) (by assumption) ?_
        rotate_left
        · intro w hSw; (try dsimp only at hSw); go_simp; try with_reducible rfl
        try simp only [Act.put, List.setIfInBounds_toArray, List.set_cons_zero, List.set_cons_succ]
        refine wpAnyH_take (i := 25) (oi := { dst := some 50, op := Op.move (Operand.tmp 49), type := 4, pos := "frame.go:265", after := #[{ on := 24, ground := Ground.data }, { on := 13, ground := Ground.chain }], guard := none }) (v := ?_) rfl (by kernel_rfl) (by kernel_rfl) (by kernel_rfl) (fun _ _ _ h => h) (Or.inl ⟨by rfl, ?_⟩) (by assumption) ?_
        rotate_left
        · intro w hSw; (try dsimp only at hSw); go_simp; try with_reducible rfl
        try simp only [Act.put, List.setIfInBounds_toArray, List.set_cons_zero, List.set_cons_succ]
        refine wpAnyH_take (i := 26) (oi := { dst := some 51, op := Op.fieldAddr 143 (Operand.tmp 8) 1, type := 0, pos := "frame.go:265", after := #[{ on := 25, ground := Ground.guard }], guard := some (25, false) }) (v := undef) rfl (by kernel_rfl) (by kernel_rfl) (by kernel_rfl) (fun _ _ _ h => h) (Or.inr ⟨by rfl, rfl⟩) (by assumption) ?_
        try simp only [Act.put, List.setIfInBounds_toArray, List.set_cons_zero, List.set_cons_succ]
        refine wpAnyH_take (i := 27) (oi := { dst := some 52, op := Op.load 141 (Operand.tmp 51), type := 141, pos := "frame.go:265", after := #[{ on := 26, ground := Ground.data }, { on := 25, ground := Ground.guard }], guard := some (25, false) }) (v := undef) rfl (by kernel_rfl) (by kernel_rfl) (by kernel_rfl) (fun _ _ _ h => h) (Or.inr ⟨by rfl, rfl⟩) (by assumption) ?_
        try simp only [Act.put, List.setIfInBounds_toArray, List.set_cons_zero, List.set_cons_succ]
        refine wpAnyH_take (i := 28) (oi := { dst := some 53, op := Op.move (Operand.tmp 1), type := 3, pos := "frame.go:265", after := #[{ on := 25, ground := Ground.guard }], guard := some (25, false) }) (v := undef) rfl (by kernel_rfl) (by kernel_rfl) (by kernel_rfl) (fun _ _ _ h => h) (Or.inr ⟨by rfl, rfl⟩) (by assumption) ?_
        try simp only [Act.put, List.setIfInBounds_toArray, List.set_cons_zero, List.set_cons_succ]
        refine wpAnyH_take (i := 29) (oi := { dst := some 54, op := Op.move (Operand.tmp 2), type := 134, pos := "frame.go:265", after := #[{ on := 25, ground := Ground.guard }], guard := some (25, false) }) (v := undef) rfl (by kernel_rfl) (by kernel_rfl) (by kernel_rfl) (fun _ _ _ h => h) (Or.inr ⟨by rfl, rfl⟩) (by assumption) ?_
        try simp only [Act.put, List.setIfInBounds_toArray, List.set_cons_zero, List.set_cons_succ]
        refine wpAnyH_take (i := 30) (oi := { dst := some 55, op := Op.call { callee := Callee.value (Operand.func 76), args := #[Operand.tmp 52, Operand.tmp 53, Operand.tmp 54], argTypes := #[141, 3, 134] }, type := 4, pos := "frame.go:265", after := #[{ on := 27, ground := Ground.data }, { on := 28, ground := Ground.data }, { on := 29, ground := Ground.data }, { on := 25, ground := Ground.chain }, { on := 25, ground := Ground.guard }], guard := some (25, false) }) (v := undef) rfl (by kernel_rfl) (by kernel_rfl) (by kernel_rfl) (fun _ _ _ h => h) (Or.inr ⟨by rfl, rfl⟩) (by assumption) ?_
        try simp only [Act.put, List.setIfInBounds_toArray, List.set_cons_zero, List.set_cons_succ]
        refine wpAnyH_take (i := 31) (oi := { dst := some 56, op := Op.unOp UnOp.not 4 (Operand.tmp 55), type := 4, pos := "frame.go:265", after := #[{ on := 30, ground := Ground.data }, { on := 25, ground := Ground.guard }], guard := some (25, false) }) (v := undef) rfl (by kernel_rfl) (by kernel_rfl) (by kernel_rfl) (fun _ _ _ h => h) (Or.inr ⟨by rfl, rfl⟩) (by assumption) ?_
        try simp only [Act.put, List.setIfInBounds_toArray, List.set_cons_zero, List.set_cons_succ]
        refine wpAnyH_take (i := 32) (oi := { dst := some 57, op := Op.pick (Operand.tmp 50) (Operand.const (Value.bool true)) (Operand.tmp 56), type := 4, pos := "frame.go:265", after := #[{ on := 25, ground := Ground.data }, { on := 31, ground := Ground.data }], guard := none }) (v := ?_) rfl (by kernel_rfl) (by kernel_rfl) (by kernel_rfl) (fun _ _ _ h => h) (Or.inl ⟨by rfl, ?_⟩) (by assumption) ?_
        rotate_left
        · intro w hSw; (try dsimp only at hSw); go_simp; try with_reducible rfl
        try simp only [Act.put, List.setIfInBounds_toArray, List.set_cons_zero, List.set_cons_succ]
        refine wpAnyH_done (by kernel_rfl) ?_ _
        refine NoPanic.normal ?_
        go_wp2_with fail
        go_ret
        rw [H2.out.2.2.2.2.1, propFs, if_pos (.inl hA)]
        exact ⟨rfl, H2.out.2.1.drew, H2.out.2.2.2.1.drew⟩
      · have hA' : (name.length : Int) ≤ 255 := by omega
        have hA4 : ¬ (255 : Int) < name.length := by omega
        by_cases hBr : rk - (1 + (name.length : Int)) < 0
        · 
          refine wp_region_noPanic ?_
          refine wp_region_held_drew (S := (fun w' : World => w'.cell? ⟨wr.heap.size, 0, none⟩ = some (.string (bstr name)) ∧ w'.cell? ⟨wr.heap.size, 1, none⟩ = some a0 ∧ w'.cell? ⟨wr.heap.size, 2, none⟩ = some a1 ∧ w'.cell? ⟨wr.heap.size, 3, none⟩ = some a2 ∧ w'.cell? ⟨wr.heap.size, 4, none⟩ = some a3 ∧ w'.cell? ⟨wr.heap.size, 5, none⟩ = some a4 ∧ w'.cell? ⟨wr.heap.size, 6, none⟩ = some a5 ∧ w'.cell? ⟨wr.heap.size, 7, none⟩ = some a6)) (by kernel_rfl) (by (try dsimp only); exact ⟨z0, z1, z2, z3, z4, z5, z6, z7⟩) (fun hHeld => ?_)
          refine wpAnyH_take (i := 0) (oi := { dst := some 25, op := Op.fieldAddr 143 (Operand.tmp 8) 0, type := 0, pos := "frame.go:265", after := #[], guard := none }) (v := ?_) rfl (by kernel_rfl) (by kernel_rfl) (by kernel_rfl) (fun _ _ _ h => h) (Or.inl ⟨by rfl, ?_⟩) (by assumption) ?_
          rotate_left
          · intro w hSw; (try dsimp only at hSw); go_simp; try with_reducible rfl
          try simp only [Act.put, List.setIfInBounds_toArray, List.set_cons_zero, List.set_cons_succ]
          refine wpAnyH_take (i := 1) (oi := { dst := some 26, op := Op.load 9 (Operand.tmp 25), type := 9, pos := "frame.go:265", after := #[{ on := 0, ground := Ground.data }], guard := none }) (v := ?_) rfl (by kernel_rfl) (by kernel_rfl) (by kernel_rfl) (fun _ _ _ h => h) (Or.inl ⟨by rfl, ?_⟩) (by assumption) ?_
          rotate_left
          · intro w hSw; (try dsimp only at hSw); go_simp; try with_reducible rfl
          try simp only [Act.put, List.setIfInBounds_toArray, List.set_cons_zero, List.set_cons_succ]
          refine wpAnyH_take (i := 2) (oi := { dst := some 27, op := Op.call { callee := Callee.builtin Builtin.len, args := #[Operand.tmp 26], argTypes := #[9] }, type := 3, pos := "frame.go:265", after := #[{ on := 1, ground := Ground.data }], guard := none }) (v := ?_) rfl (by kernel_rfl) (by kernel_rfl) (by kernel_rfl) (fun _ _ _ h => h) (Or.inl ⟨by rfl, ?_⟩) (by assumption) ?_
          rotate_left
          · intro w hSw; (try dsimp only at hSw); go_simp; try with_reducible rfl
          try simp only [Act.put, List.setIfInBounds_toArray, List.set_cons_zero, List.set_cons_succ]
          refine wpAnyH_take (i := 3) (oi := { dst := some 28, op := Op.binOp BinOp.gtr 3 (Operand.tmp 27) (Operand.const (Value.int IntKind.i64 255)) 3, type := 4, pos := "frame.go:265", after := #[{ on := 2, ground := Ground.data }], guard := none }) (v := ?_) rfl (by kernel_rfl) (by kernel_rfl) (by kernel_rfl) (fun _ _ _ h => h) (Or.inl ⟨by rfl, ?_⟩) (by assumption) ?_
          rotate_left
          · intro w hSw; (try dsimp only at hSw); go_simp; try with_reducible rfl
          try simp only [Act.put, List.setIfInBounds_toArray, List.set_cons_zero, List.set_cons_succ]
          refine wpAnyH_take (i := 4) (oi := { dst := some 29, op := Op.move (Operand.tmp 28), type := 4, pos := "frame.go:265", after := #[{ on := 3, ground := Ground.data }], guard := none }) (v := ?_) rfl (by kernel_rfl) (by kernel_rfl) (by kernel_rfl) (fun _ _ _ h => h) (Or.inl ⟨by rfl, ?_⟩) (by assumption) ?_
          rotate_left
          · intro w hSw; (try dsimp only at hSw); go_simp; try with_reducible rfl
          try simp only [Act.put, List.setIfInBounds_toArray, List.set_cons_zero, List.set_cons_succ]
          refine wpAnyH_take (i := 5) (oi := { dst := some 30, op := Op.move (Operand.tmp 2), type := 134, pos := "frame.go:265", after := #[{ on := 4, ground := Ground.guard }], guard := some (4, false) }) (v := ?_) rfl (by kernel_rfl) (by kernel_rfl) (by kernel_rfl) (fun _ _ _ h => h) (Or.inl ⟨by rfl, ?_⟩) (by assumption) ?_
          rotate_left
          · intro w hSw; (try dsimp only at hSw); go_simp; try with_reducible rfl
          try simp only [Act.put, List.setIfInBounds_toArray, List.set_cons_zero, List.set_cons_succ]
          refine wpAnyH_take (i := 6) (oi := { dst := some 31, op := Op.nilCheck (Operand.tmp 30), type := 0, pos := "frame.go:265", after := #[{ on := 5, ground := Ground.data }, { on := 4, ground := Ground.guard }], guard := some (4, false) }) (v := ?_) rfl (by kernel_rfl) (by kernel_rfl) (by kernel_rfl) (fun _ _ _ h => h) (Or.inl ⟨by rfl, ?_⟩) (by assumption) ?_
          rotate_left
          · intro w hSw; (try dsimp only at hSw); go_simp; try with_reducible rfl
          try simp only [Act.put, List.setIfInBounds_toArray, List.set_cons_zero, List.set_cons_succ]
          refine wpAnyH_ready (rs := [7]) (by kernel_rfl) (by simp) ?_
          refine AllReadyH.cons (o := { dst := some 32, op := Op.load 3 (Operand.tmp 31), type := 3, pos := "frame.go:265", after := #[{ on := 6, ground := Ground.data }, { on := 4, ground := Ground.guard }], guard := some (4, false) }) rfl (fun K hK => ?_) AllReadyH.nil
          go_simp
          refine hK.out _ _ (by (try dsimp only); exact ⟨z0, z1, z2, z3, z4, z5, z6, z7⟩) (fun hHeld => ?_)
          clear hK K
          try simp only [Act.put, List.setIfInBounds_toArray, List.set_cons_zero, List.set_cons_succ]
          refine wpAnyH_take (i := 8) (oi := { dst := some 33, op := Op.binOp BinOp.lss 3 (Operand.tmp 32) (Operand.const (Value.int IntKind.i64 0)) 3, type := 4, pos := "frame.go:265", after := #[{ on := 7, ground := Ground.data }, { on := 4, ground := Ground.guard }], guard := some (4, false) }) (v := ?_) rfl (by kernel_rfl) (by kernel_rfl) (by kernel_rfl) (fun _ _ _ h => h) (Or.inl ⟨by rfl, ?_⟩) (by assumption) ?_
          rotate_left
          · intro w hSw; (try dsimp only at hSw); go_simp; try with_reducible rfl
          try simp only [Act.put, List.setIfInBounds_toArray, List.set_cons_zero, List.set_cons_succ]
          refine wpAnyH_take (i := 9) (oi := { dst := some 34, op := Op.pick (Operand.tmp 29) (Operand.const (Value.bool true)) (Operand.tmp 33), type := 4, pos := "frame.go:265", after := #[{ on := 4, ground := Ground.data }, { on := 8, ground := Ground.data }], guard := none }) (v := ?_) rfl (by kernel_rfl) (by kernel_rfl) (by kernel_rfl) (fun _ _ _ h => h) (Or.inl ⟨by rfl, ?_⟩) (by assumption) ?_
          rotate_left
          · intro w hSw; (try dsimp only at hSw); go_simp; try with_reducible rfl
          try simp only [Act.put, List.setIfInBounds_toArray, List.set_cons_zero, List.set_cons_succ]
          refine wpAnyH_take (i := 10) (oi := { dst := some 35, op := Op.move (Operand.tmp 34), type := 4, pos := "frame.go:265", after := #[{ on := 9, ground := Ground.data }, { on := 4, ground := Ground.chain }], guard := none }) (v := ?_) rfl (by kernel_rfl) (by kernel_rfl) (by kernel_rfl) (fun _ _ _ h => h) (Or.inl ⟨by rfl, ?_⟩) (by assumption) ?_
          rotate_left
          · intro w hSw; (try dsimp only at hSw); go_simp; try with_reducible rfl
          try simp only [Act.put, List.setIfInBounds_toArray, List.set_cons_zero, List.set_cons_succ]
          refine wpAnyH_take (i := 11) (oi := { dst := some 36, op := Op.move (Operand.tmp 7), type := 3, pos := "frame.go:265", after := #[{ on := 10, ground := Ground.guard }], guard := some (10, false) }) (v := undef) rfl (by kernel_rfl) (by kernel_rfl) (by kernel_rfl) (fun _ _ _ h => h) (Or.inr ⟨by rfl, rfl⟩) (by assumption) ?_
          try simp only [Act.put, List.setIfInBounds_toArray, List.set_cons_zero, List.set_cons_succ]
          refine wpAnyH_take (i := 12) (oi := { dst := some 37, op := Op.binOp BinOp.gtr 3 (Operand.tmp 36) (Operand.const (Value.int IntKind.i64 0)) 3, type := 4, pos := "frame.go:265", after := #[{ on := 11, ground := Ground.data }, { on := 10, ground := Ground.guard }], guard := some (10, false) }) (v := undef) rfl (by kernel_rfl) (by kernel_rfl) (by kernel_rfl) (fun _ _ _ h => h) (Or.inr ⟨by rfl, rfl⟩) (by assumption) ?_
          try simp only [Act.put, List.setIfInBounds_toArray, List.set_cons_zero, List.set_cons_succ]
          refine wpAnyH_take (i := 13) (oi := { dst := some 38, op := Op.move (Operand.tmp 37), type := 4, pos := "frame.go:265", after := #[{ on := 12, ground := Ground.data }, { on := 10, ground := Ground.chain }, { on := 10, ground := Ground.guard }], guard := some (10, false) }) (v := undef) rfl (by kernel_rfl) (by kernel_rfl) (by kernel_rfl) (fun _ _ _ h => h) (Or.inr ⟨by rfl, rfl⟩) (by assumption) ?_
          try simp only [Act.put, List.setIfInBounds_toArray, List.set_cons_zero, List.set_cons_succ]
          refine wpAnyH_take (i := 14) (oi := { dst := some 39, op := Op.move (Operand.tmp 0), type := 52, pos := "frame.go:265", after := #[{ on := 13, ground := Ground.guard }], guard := some (13, true) }) (v := undef) rfl (by kernel_rfl) (by kernel_rfl) (by kernel_rfl) (fun _ _ _ h => h) (Or.inr ⟨by rfl, rfl⟩) (by assumption) ?_
          try simp only [Act.put, List.setIfInBounds_toArray, List.set_cons_zero, List.set_cons_succ]
          refine wpAnyH_take (i := 15) (oi := { dst := some 40, op := Op.move (Operand.tmp 7), type := 3, pos := "frame.go:265", after := #[{ on := 13, ground := Ground.guard }], guard := some (13, true) }) (v := undef) rfl (by kernel_rfl) (by kernel_rfl) (by kernel_rfl) (fun _ _ _ h => h) (Or.inr ⟨by rfl, rfl⟩) (by assumption) ?_
          try simp only [Act.put, List.setIfInBounds_toArray, List.set_cons_zero, List.set_cons_succ]
          refine wpAnyH_take (i := 16) (oi := { dst := some 41, op := Op.binOp BinOp.sub 3 (Operand.tmp 40) (Operand.const (Value.int IntKind.i64 1)) 3, type := 3, pos := "frame.go:265", after := #[{ on := 15, ground := Ground.data }, { on := 13, ground := Ground.guard }], guard := some (13, true) }) (v := undef) rfl (by kernel_rfl) (by kernel_rfl) (by kernel_rfl) (fun _ _ _ h => h) (Or.inr ⟨by rfl, rfl⟩) (by assumption) ?_
          try simp only [Act.put, List.setIfInBounds_toArray, List.set_cons_zero, List.set_cons_succ]
          refine wpAnyH_take (i := 17) (oi := { dst := some 42, op := Op.indexAddr 52 (Operand.tmp 39) (Operand.tmp 41), type := 0, pos := "frame.go:265", after := #[{ on := 14, ground := Ground.data }, { on := 16, ground := Ground.data }, { on := 13, ground := Ground.guard }], guard := some (13, true) }) (v := undef) rfl (by kernel_rfl) (by kernel_rfl) (by kernel_rfl) (fun _ _ _ h => h) (Or.inr ⟨by rfl, rfl⟩) (by assumption) ?_
          try simp only [Act.put, List.setIfInBounds_toArray, List.set_cons_zero, List.set_cons_succ]
          refine wpAnyH_take (i := 18) (oi := { dst := some 43, op := Op.fieldAddr 143 (Operand.tmp 42) 0, type := 0, pos := "frame.go:265", after := #[{ on := 17, ground := Ground.data }, { on := 13, ground := Ground.guard }], guard := some (13, true) }) (v := undef) rfl (by kernel_rfl) (by kernel_rfl) (by kernel_rfl) (fun _ _ _ h => h) (Or.inr ⟨by rfl, rfl⟩) (by assumption) ?_
          try simp only [Act.put, List.setIfInBounds_toArray, List.set_cons_zero, List.set_cons_succ]
          refine wpAnyH_take (i := 19) (oi := { dst := some 44, op := Op.load 9 (Operand.tmp 43), type := 9, pos := "frame.go:265", after := #[{ on := 18, ground := Ground.data }, { on := 13, ground := Ground.guard }], guard := some (13, true) }) (v := undef) rfl (by kernel_rfl) (by kernel_rfl) (by kernel_rfl) (fun _ _ _ h => h) (Or.inr ⟨by rfl, rfl⟩) (by assumption) ?_
          try simp only [Act.put, List.setIfInBounds_toArray, List.set_cons_zero, List.set_cons_succ]
          refine wpAnyH_take (i := 20) (oi := { dst := some 45, op := Op.fieldAddr 143 (Operand.tmp 8) 0, type := 0, pos := "frame.go:265", after := #[{ on := 13, ground := Ground.guard }], guard := some (13, true) }) (v := undef) rfl (by kernel_rfl) (by kernel_rfl) (by kernel_rfl) (fun _ _ _ h => h) (Or.inr ⟨by rfl, rfl⟩) (by assumption) ?_
          try simp only [Act.put, List.setIfInBounds_toArray, List.set_cons_zero, List.set_cons_succ]
          refine wpAnyH_take (i := 21) (oi := { dst := some 46, op := Op.load 9 (Operand.tmp 45), type := 9, pos := "frame.go:265", after := #[{ on := 20, ground := Ground.data }, { on := 13, ground := Ground.guard }], guard := some (13, true) }) (v := undef) rfl (by kernel_rfl) (by kernel_rfl) (by kernel_rfl) (fun _ _ _ h => h) (Or.inr ⟨by rfl, rfl⟩) (by assumption) ?_
          try simp only [Act.put, List.setIfInBounds_toArray, List.set_cons_zero, List.set_cons_succ]
          refine wpAnyH_take (i := 22) (oi := { dst := some 47, op := Op.binOp BinOp.geq 9 (Operand.tmp 44) (Operand.tmp 46) 9, type := 4, pos := "frame.go:265", after := #[{ on := 19, ground := Ground.data }, { on := 21, ground := Ground.data }, { on := 13, ground := Ground.guard }], guard := some (13, true) }) (v := undef) rfl (by kernel_rfl) (by kernel_rfl) (by kernel_rfl) (fun _ _ _ h => h) (Or.inr ⟨by rfl, rfl⟩) (by assumption) ?_
          try simp only [Act.put, List.setIfInBounds_toArray, List.set_cons_zero, List.set_cons_succ]
          refine wpAnyH_take (i := 23) (oi := { dst := some 48, op := Op.pick (Operand.tmp 38) (Operand.tmp 47) (Operand.const (Value.bool false)), type := 4, pos := "frame.go:265", after := #[{ on := 13, ground := Ground.data }, { on := 22, ground := Ground.data }, { on := 10, ground := Ground.guard }], guard := some (10, false) }) (v := undef) rfl (by kernel_rfl) (by kernel_rfl) (by kernel_rfl) (fun _ _ _ h => h) (Or.inr ⟨by rfl, rfl⟩) (by assumption) ?_
          try simp only [Act.put, List.setIfInBounds_toArray, List.set_cons_zero, List.set_cons_succ]
          refine wpAnyH_take (i := 24) (oi := { dst := some 49, op := Op.pick (Operand.tmp 35) (Operand.const (Value.bool true)) (Operand.tmp 48), type := 4, pos := "frame.go:265", after := #[{ on := 10, ground := Ground.data }, { on := 23, ground := Ground.data }], guard := none }) (v := ?_) rfl (by kernel_rfl) (by kernel_rfl) (by kernel_rfl) (fun _ _ _ h => h) (Or.inl ⟨by rfl, ?_⟩) (by assumption) ?_
          rotate_left
          · intro w hSw; (try dsimp only at hSw); go_simp; try with_reducible rfl
          try simp only [Act.put, List.setIfInBounds_toArray, List.set_cons_zero, List.set_cons_succ]
          refine wpAnyH_take (i := 25) (oi := { dst := some 50, op := Op.move (Operand.tmp 49), type := 4, pos := "frame.go:265", after := #[{ on := 24, ground := Ground.data }, { on := 13, ground := Ground.chain }], guard := none }) (v := ?_) rfl (by kernel_rfl) (by kernel_rfl) (by kernel_rfl) (fun _ _ _ h => h) (Or.inl ⟨by rfl, ?_⟩) (by assumption) ?_
          rotate_left
          · intro w hSw; (try dsimp only at hSw); go_simp; try with_reducible rfl
          try simp only [Act.put, List.setIfInBounds_toArray, List.set_cons_zero, List.set_cons_succ]
          refine wpAnyH_take (i := 26) (oi := { dst := some 51, op := Op.fieldAddr 143 (Operand.tmp 8) 1, type := 0, pos := "frame.go:265", after := #[{ on := 25, ground := Ground.guard }], guard := some (25, false) }) (v := undef) rfl (by kernel_rfl) (by kernel_rfl) (by kernel_rfl) (fun _ _ _ h => h) (Or.inr ⟨by rfl, rfl⟩) (by assumption) ?_
          try simp only [Act.put, List.setIfInBounds_toArray, List.set_cons_zero, List.set_cons_succ]
          refine wpAnyH_take (i := 27) (oi := { dst := some 52, op := Op.load 141 (Operand.tmp 51), type := 141, pos := "frame.go:265", after := #[{ on := 26, ground := Ground.data }, { on := 25, ground := Ground.guard }], guard := some (25, false) }) (v := undef) rfl (by kernel_rfl) (by kernel_rfl) (by kernel_rfl) (fun _ _ _ h => h) (Or.inr ⟨by rfl, rfl⟩) (by assumption) ?_
          try simp only [Act.put, List.setIfInBounds_toArray, List.set_cons_zero, List.set_cons_succ]
          refine wpAnyH_take (i := 28) (oi := { dst := some 53, op := Op.move (Operand.tmp 1), type := 3, pos := "frame.go:265", after := #[{ on := 25, ground := Ground.guard }], guard := some (25, false) }) (v := undef) rfl (by kernel_rfl) (by kernel_rfl) (by kernel_rfl) (fun _ _ _ h => h) (Or.inr ⟨by rfl, rfl⟩) (by assumption) ?_
          try simp only [Act.put, List.setIfInBounds_toArray, List.set_cons_zero, List.set_cons_succ]
          refine wpAnyH_take (i := 29) (oi := { dst := some 54, op := Op.move (Operand.tmp 2), type := 134, pos := "frame.go:265", after := #[{ on := 25, ground := Ground.guard }], guard := some (25, false) }) (v := undef) rfl (by kernel_rfl) (by kernel_rfl) (by kernel_rfl) (fun _ _ _ h => h) (Or.inr ⟨by rfl, rfl⟩) (by assumption) ?_
          try simp only [Act.put, List.setIfInBounds_toArray, List.set_cons_zero, List.set_cons_succ]
          refine wpAnyH_take (i := 30) (oi := { dst := some 55, op := Op.call { callee := Callee.value (Operand.func 76), args := #[Operand.tmp 52, Operand.tmp 53, Operand.tmp 54], argTypes := #[141, 3, 134] }, type := 4, pos := "frame.go:265", after := #[{ on := 27, ground := Ground.data }, { on := 28, ground := Ground.data }, { on := 29, ground := Ground.data }, { on := 25, ground := Ground.chain }, { on := 25, ground := Ground.guard }], guard := some (25, false) }) (v := undef) rfl (by kernel_rfl) (by kernel_rfl) (by kernel_rfl) (fun _ _ _ h => h) (Or.inr ⟨by rfl, rfl⟩) (by assumption) ?_
          try simp only [Act.put, List.setIfInBounds_toArray, List.set_cons_zero, List.set_cons_succ]
          refine wpAnyH_take (i := 31) (oi := { dst := some 56, op := Op.unOp UnOp.not 4 (Operand.tmp 55), type := 4, pos := "frame.go:265", after := #[{ on := 30, ground := Ground.data }, { on := 25, ground := Ground.guard }], guard := some (25, false) }) (v := undef) rfl (by kernel_rfl) (by kernel_rfl) (by kernel_rfl) (fun _ _ _ h => h) (Or.inr ⟨by rfl, rfl⟩) (by assumption) ?_
          try simp only [Act.put, List.setIfInBounds_toArray, List.set_cons_zero, List.set_cons_succ]
          refine wpAnyH_take (i := 32) (oi := { dst := some 57, op := Op.pick (Operand.tmp 50) (Operand.const (Value.bool true)) (Operand.tmp 56), type := 4, pos := "frame.go:265", after := #[{ on := 25, ground := Ground.data }, { on := 31, ground := Ground.data }], guard := none }) (v := ?_) rfl (by kernel_rfl) (by kernel_rfl) (by kernel_rfl) (fun _ _ _ h => h) (Or.inl ⟨by rfl, ?_⟩) (by assumption) ?_
          rotate_left
          · intro w hSw; (try dsimp only at hSw); go_simp; try with_reducible rfl
          try simp only [Act.put, List.setIfInBounds_toArray, List.set_cons_zero, List.set_cons_succ]
          refine wpAnyH_done (by kernel_rfl) ?_ _
          refine NoPanic.normal ?_
          go_wp2_with fail
          go_ret
          rw [H2.out.2.2.2.2.1, propFs, if_pos (.inr (.inl hBr))]
          exact ⟨rfl, H2.out.2.1.drew, H2.out.2.2.2.1.drew⟩
        · have hBr' : 0 ≤ rk - (1 + (name.length : Int)) := by omega
          have hB4 : ¬ rk - (1 + (name.length : Int)) < 0 := by omega
          have hvc := H.out.2.2.2.2.2.1 (.mk name v) (List.mem_of_getElem? HX.out.1) B _ deep (rk - (1 + (name.length : Int))) rm W2.drew (VHeld.kept H2.out.2.2.1.drew HX.out.2.2.2.2 v HX.out.2.2.1) HX.out.2.2.2.1.2 H2.out.2.1.drew H.out.2.2.2.1 hd hBr' (by omega)
          obtain ⟨X, hX⟩ : ∃ X, X = propV v deep (rk - (1 + (name.length : Int))) := ⟨_, rfl⟩
          have hvc' : Calls Tryz.prog 76 #[.agg [a0, a1, a2, a3, a4, a5, a6].toArray, .int .i64 (deep : Int), .pointer (some ⟨rm, 0, none⟩)] W2.drew fun e w' => e = .returned (.bool X.1) ∧ Blk w' rm #[.int .i64 X.2] 3 ∧ Kept [rm] W2.drew w' := by rw [hX]; exact hvc
          obtain ⟨bx, r1⟩ := X
          simp only at hvc'
          have HV := Lib.hid hvc'; have HX1 := Lib.hid hX.symm
          clear hvc hvc' hX
          have HA := Lib.hid (And.intro hA hBr); clear hBr hA
          rcases Nat.eq_zero_or_pos k with rfl | hpos
          · have HNO := Lib.hid (show ¬ (name.length > 255 ∨ rk - (1 + (name.length : Int)) < 0 ∨ ∃ p, prevName l 0 = some p ∧ Op.bytesLess p name = false) from fun h => by
              rcases h with h | h | ⟨p, h, _⟩
              · exact HA.out.1 h
              · exact HA.out.2 h
              · simp [prevName] at h)
            refine wp_region_noPanic ?_
            refine wp_region_held_drew (S := (fun w' : World => w'.cell? ⟨wr.heap.size, 0, none⟩ = some (.string (bstr name)) ∧ w'.cell? ⟨wr.heap.size, 1, none⟩ = some a0 ∧ w'.cell? ⟨wr.heap.size, 2, none⟩ = some a1 ∧ w'.cell? ⟨wr.heap.size, 3, none⟩ = some a2 ∧ w'.cell? ⟨wr.heap.size, 4, none⟩ = some a3 ∧ w'.cell? ⟨wr.heap.size, 5, none⟩ = some a4 ∧ w'.cell? ⟨wr.heap.size, 6, none⟩ = some a5 ∧ w'.cell? ⟨wr.heap.size, 7, none⟩ = some a6)) (by kernel_rfl) (by (try dsimp only); exact ⟨z0, z1, z2, z3, z4, z5, z6, z7⟩) (fun hHeld => ?_)
            refine wpAnyH_take (i := 0) (oi := { dst := some 25, op := Op.fieldAddr 143 (Operand.tmp 8) 0, type := 0, pos := "frame.go:265", after := #[], guard := none }) (v := ?_) rfl (by kernel_rfl) (by kernel_rfl) (by kernel_rfl) (fun _ _ _ h => h) (Or.inl ⟨by rfl, ?_⟩) (by assumption) ?_
            rotate_left
            · intro w hSw; (try dsimp only at hSw); go_simp; try with_reducible rfl
            try simp only [Act.put, List.setIfInBounds_toArray, List.set_cons_zero, List.set_cons_succ]
            refine wpAnyH_take (i := 1) (oi := { dst := some 26, op := Op.load 9 (Operand.tmp 25), type := 9, pos := "frame.go:265", after := #[{ on := 0, ground := Ground.data }], guard := none }) (v := ?_) rfl (by kernel_rfl) (by kernel_rfl) (by kernel_rfl) (fun _ _ _ h => h) (Or.inl ⟨by rfl, ?_⟩) (by assumption) ?_
            rotate_left
            · intro w hSw; (try dsimp only at hSw); go_simp; try with_reducible rfl
            try simp only [Act.put, List.setIfInBounds_toArray, List.set_cons_zero, List.set_cons_succ]
            refine wpAnyH_take (i := 2) (oi := { dst := some 27, op := Op.call { callee := Callee.builtin Builtin.len, args := #[Operand.tmp 26], argTypes := #[9] }, type := 3, pos := "frame.go:265", after := #[{ on := 1, ground := Ground.data }], guard := none }) (v := ?_) rfl (by kernel_rfl) (by kernel_rfl) (by kernel_rfl) (fun _ _ _ h => h) (Or.inl ⟨by rfl, ?_⟩) (by assumption) ?_
            rotate_left
            · intro w hSw; (try dsimp only at hSw); go_simp; try with_reducible rfl
            try simp only [Act.put, List.setIfInBounds_toArray, List.set_cons_zero, List.set_cons_succ]
            refine wpAnyH_take (i := 3) (oi := { dst := some 28, op := Op.binOp BinOp.gtr 3 (Operand.tmp 27) (Operand.const (Value.int IntKind.i64 255)) 3, type := 4, pos := "frame.go:265", after := #[{ on := 2, ground := Ground.data }], guard := none }) (v := ?_) rfl (by kernel_rfl) (by kernel_rfl) (by kernel_rfl) (fun _ _ _ h => h) (Or.inl ⟨by rfl, ?_⟩) (by assumption) ?_
            rotate_left
            · intro w hSw; (try dsimp only at hSw); go_simp; try with_reducible rfl
            try simp only [Act.put, List.setIfInBounds_toArray, List.set_cons_zero, List.set_cons_succ]
            refine wpAnyH_take (i := 4) (oi := { dst := some 29, op := Op.move (Operand.tmp 28), type := 4, pos := "frame.go:265", after := #[{ on := 3, ground := Ground.data }], guard := none }) (v := ?_) rfl (by kernel_rfl) (by kernel_rfl) (by kernel_rfl) (fun _ _ _ h => h) (Or.inl ⟨by rfl, ?_⟩) (by assumption) ?_
            rotate_left
            · intro w hSw; (try dsimp only at hSw); go_simp; try with_reducible rfl
            try simp only [Act.put, List.setIfInBounds_toArray, List.set_cons_zero, List.set_cons_succ]
            refine wpAnyH_take (i := 5) (oi := { dst := some 30, op := Op.move (Operand.tmp 2), type := 134, pos := "frame.go:265", after := #[{ on := 4, ground := Ground.guard }], guard := some (4, false) }) (v := ?_) rfl (by kernel_rfl) (by kernel_rfl) (by kernel_rfl) (fun _ _ _ h => h) (Or.inl ⟨by rfl, ?_⟩) (by assumption) ?_
            rotate_left
            · intro w hSw; (try dsimp only at hSw); go_simp; try with_reducible rfl
            try simp only [Act.put, List.setIfInBounds_toArray, List.set_cons_zero, List.set_cons_succ]
            refine wpAnyH_take (i := 6) (oi := { dst := some 31, op := Op.nilCheck (Operand.tmp 30), type := 0, pos := "frame.go:265", after := #[{ on := 5, ground := Ground.data }, { on := 4, ground := Ground.guard }], guard := some (4, false) }) (v := ?_) rfl (by kernel_rfl) (by kernel_rfl) (by kernel_rfl) (fun _ _ _ h => h) (Or.inl ⟨by rfl, ?_⟩) (by assumption) ?_
            rotate_left
            · intro w hSw; (try dsimp only at hSw); go_simp; try with_reducible rfl
            try simp only [Act.put, List.setIfInBounds_toArray, List.set_cons_zero, List.set_cons_succ]
            refine wpAnyH_ready (rs := [7]) (by kernel_rfl) (by simp) ?_
            refine AllReadyH.cons (o := { dst := some 32, op := Op.load 3 (Operand.tmp 31), type := 3, pos := "frame.go:265", after := #[{ on := 6, ground := Ground.data }, { on := 4, ground := Ground.guard }], guard := some (4, false) }) rfl (fun K hK => ?_) AllReadyH.nil
            go_simp
            refine hK.out _ _ (by (try dsimp only); exact ⟨z0, z1, z2, z3, z4, z5, z6, z7⟩) (fun hHeld => ?_)
            clear hK K
            try simp only [Act.put, List.setIfInBounds_toArray, List.set_cons_zero, List.set_cons_succ]
            refine wpAnyH_take (i := 8) (oi := { dst := some 33, op := Op.binOp BinOp.lss 3 (Operand.tmp 32) (Operand.const (Value.int IntKind.i64 0)) 3, type := 4, pos := "frame.go:265", after := #[{ on := 7, ground := Ground.data }, { on := 4, ground := Ground.guard }], guard := some (4, false) }) (v := ?_) rfl (by kernel_rfl) (by kernel_rfl) (by kernel_rfl) (fun _ _ _ h => h) (Or.inl ⟨by rfl, ?_⟩) (by assumption) ?_
            rotate_left
            · intro w hSw; (try dsimp only at hSw); go_simp; try with_reducible rfl
            try simp only [Act.put, List.setIfInBounds_toArray, List.set_cons_zero, List.set_cons_succ]
            refine wpAnyH_take (i := 9) (oi := { dst := some 34, op := Op.pick (Operand.tmp 29) (Operand.const (Value.bool true)) (Operand.tmp 33), type := 4, pos := "frame.go:265", after := #[{ on := 4, ground := Ground.data }, { on := 8, ground := Ground.data }], guard := none }) (v := ?_) rfl (by kernel_rfl) (by kernel_rfl) (by kernel_rfl) (fun _ _ _ h => h) (Or.inl ⟨by rfl, ?_⟩) (by assumption) ?_
            rotate_left
            · intro w hSw; (try dsimp only at hSw); go_simp; try with_reducible rfl
            try simp only [Act.put, List.setIfInBounds_toArray, List.set_cons_zero, List.set_cons_succ]
            refine wpAnyH_take (i := 10) (oi := { dst := some 35, op := Op.move (Operand.tmp 34), type := 4, pos := "frame.go:265", after := #[{ on := 9, ground := Ground.data }, { on := 4, ground := Ground.chain }], guard := none }) (v := ?_) rfl (by kernel_rfl) (by kernel_rfl) (by kernel_rfl) (fun _ _ _ h => h) (Or.inl ⟨by rfl, ?_⟩) (by assumption) ?_
            rotate_left
            · intro w hSw; (try dsimp only at hSw); go_simp; try with_reducible rfl
            try simp only [Act.put, List.setIfInBounds_toArray, List.set_cons_zero, List.set_cons_succ]
            refine wpAnyH_take (i := 11) (oi := { dst := some 36, op := Op.move (Operand.tmp 7), type := 3, pos := "frame.go:265", after := #[{ on := 10, ground := Ground.guard }], guard := some (10, false) }) (v := ?_) rfl (by kernel_rfl) (by kernel_rfl) (by kernel_rfl) (fun _ _ _ h => h) (Or.inl ⟨by rfl, ?_⟩) (by assumption) ?_
            rotate_left
            · intro w hSw; (try dsimp only at hSw); go_simp; try with_reducible rfl
            try simp only [Act.put, List.setIfInBounds_toArray, List.set_cons_zero, List.set_cons_succ]
            refine wpAnyH_take (i := 12) (oi := { dst := some 37, op := Op.binOp BinOp.gtr 3 (Operand.tmp 36) (Operand.const (Value.int IntKind.i64 0)) 3, type := 4, pos := "frame.go:265", after := #[{ on := 11, ground := Ground.data }, { on := 10, ground := Ground.guard }], guard := some (10, false) }) (v := ?_) rfl (by kernel_rfl) (by kernel_rfl) (by kernel_rfl) (fun _ _ _ h => h) (Or.inl ⟨by rfl, ?_⟩) (by assumption) ?_
            rotate_left
            · intro w hSw; (try dsimp only at hSw); go_simp; try with_reducible rfl
            try simp only [Act.put, List.setIfInBounds_toArray, List.set_cons_zero, List.set_cons_succ]
            refine wpAnyH_take (i := 13) (oi := { dst := some 38, op := Op.move (Operand.tmp 37), type := 4, pos := "frame.go:265", after := #[{ on := 12, ground := Ground.data }, { on := 10, ground := Ground.chain }, { on := 10, ground := Ground.guard }], guard := some (10, false) }) (v := ?_) rfl (by kernel_rfl) (by kernel_rfl) (by kernel_rfl) (fun _ _ _ h => h) (Or.inl ⟨by rfl, ?_⟩) (by assumption) ?_
            rotate_left
            · intro w hSw; (try dsimp only at hSw); go_simp; try with_reducible rfl
            try simp only [Act.put, List.setIfInBounds_toArray, List.set_cons_zero, List.set_cons_succ]
            refine wpAnyH_take (i := 14) (oi := { dst := some 39, op := Op.move (Operand.tmp 0), type := 52, pos := "frame.go:265", after := #[{ on := 13, ground := Ground.guard }], guard := some (13, true) }) (v := undef) rfl (by kernel_rfl) (by kernel_rfl) (by kernel_rfl) (fun _ _ _ h => h) (Or.inr ⟨by rfl, rfl⟩) (by assumption) ?_
            try simp only [Act.put, List.setIfInBounds_toArray, List.set_cons_zero, List.set_cons_succ]
            refine wpAnyH_take (i := 15) (oi := { dst := some 40, op := Op.move (Operand.tmp 7), type := 3, pos := "frame.go:265", after := #[{ on := 13, ground := Ground.guard }], guard := some (13, true) }) (v := undef) rfl (by kernel_rfl) (by kernel_rfl) (by kernel_rfl) (fun _ _ _ h => h) (Or.inr ⟨by rfl, rfl⟩) (by assumption) ?_
            try simp only [Act.put, List.setIfInBounds_toArray, List.set_cons_zero, List.set_cons_succ]
            refine wpAnyH_take (i := 16) (oi := { dst := some 41, op := Op.binOp BinOp.sub 3 (Operand.tmp 40) (Operand.const (Value.int IntKind.i64 1)) 3, type := 3, pos := "frame.go:265", after := #[{ on := 15, ground := Ground.data }, { on := 13, ground := Ground.guard }], guard := some (13, true) }) (v := undef) rfl (by kernel_rfl) (by kernel_rfl) (by kernel_rfl) (fun _ _ _ h => h) (Or.inr ⟨by rfl, rfl⟩) (by assumption) ?_
            try simp only [Act.put, List.setIfInBounds_toArray, List.set_cons_zero, List.set_cons_succ]
            refine wpAnyH_take (i := 17) (oi := { dst := some 42, op := Op.indexAddr 52 (Operand.tmp 39) (Operand.tmp 41), type := 0, pos := "frame.go:265", after := #[{ on := 14, ground := Ground.data }, { on := 16, ground := Ground.data }, { on := 13, ground := Ground.guard }], guard := some (13, true) }) (v := undef) rfl (by kernel_rfl) (by kernel_rfl) (by kernel_rfl) (fun _ _ _ h => h) (Or.inr ⟨by rfl, rfl⟩) (by assumption) ?_
            try simp only [Act.put, List.setIfInBounds_toArray, List.set_cons_zero, List.set_cons_succ]
            refine wpAnyH_take (i := 18) (oi := { dst := some 43, op := Op.fieldAddr 143 (Operand.tmp 42) 0, type := 0, pos := "frame.go:265", after := #[{ on := 17, ground := Ground.data }, { on := 13, ground := Ground.guard }], guard := some (13, true) }) (v := undef) rfl (by kernel_rfl) (by kernel_rfl) (by kernel_rfl) (fun _ _ _ h => h) (Or.inr ⟨by rfl, rfl⟩) (by assumption) ?_
            try simp only [Act.put, List.setIfInBounds_toArray, List.set_cons_zero, List.set_cons_succ]
            refine wpAnyH_take (i := 19) (oi := { dst := some 44, op := Op.load 9 (Operand.tmp 43), type := 9, pos := "frame.go:265", after := #[{ on := 18, ground := Ground.data }, { on := 13, ground := Ground.guard }], guard := some (13, true) }) (v := undef) rfl (by kernel_rfl) (by kernel_rfl) (by kernel_rfl) (fun _ _ _ h => h) (Or.inr ⟨by rfl, rfl⟩) (by assumption) ?_
            try simp only [Act.put, List.setIfInBounds_toArray, List.set_cons_zero, List.set_cons_succ]
            refine wpAnyH_take (i := 20) (oi := { dst := some 45, op := Op.fieldAddr 143 (Operand.tmp 8) 0, type := 0, pos := "frame.go:265", after := #[{ on := 13, ground := Ground.guard }], guard := some (13, true) }) (v := undef) rfl (by kernel_rfl) (by kernel_rfl) (by kernel_rfl) (fun _ _ _ h => h) (Or.inr ⟨by rfl, rfl⟩) (by assumption) ?_
            try simp only [Act.put, List.setIfInBounds_toArray, List.set_cons_zero, List.set_cons_succ]
            refine wpAnyH_take (i := 21) (oi := { dst := some 46, op := Op.load 9 (Operand.tmp 45), type := 9, pos := "frame.go:265", after := #[{ on := 20, ground := Ground.data }, { on := 13, ground := Ground.guard }], guard := some (13, true) }) (v := undef) rfl (by kernel_rfl) (by kernel_rfl) (by kernel_rfl) (fun _ _ _ h => h) (Or.inr ⟨by rfl, rfl⟩) (by assumption) ?_
            try simp only [Act.put, List.setIfInBounds_toArray, List.set_cons_zero, List.set_cons_succ]
            refine wpAnyH_take (i := 22) (oi := { dst := some 47, op := Op.binOp BinOp.geq 9 (Operand.tmp 44) (Operand.tmp 46) 9, type := 4, pos := "frame.go:265", after := #[{ on := 19, ground := Ground.data }, { on := 21, ground := Ground.data }, { on := 13, ground := Ground.guard }], guard := some (13, true) }) (v := undef) rfl (by kernel_rfl) (by kernel_rfl) (by kernel_rfl) (fun _ _ _ h => h) (Or.inr ⟨by rfl, rfl⟩) (by assumption) ?_
            try simp only [Act.put, List.setIfInBounds_toArray, List.set_cons_zero, List.set_cons_succ]
            refine wpAnyH_take (i := 23) (oi := { dst := some 48, op := Op.pick (Operand.tmp 38) (Operand.tmp 47) (Operand.const (Value.bool false)), type := 4, pos := "frame.go:265", after := #[{ on := 13, ground := Ground.data }, { on := 22, ground := Ground.data }, { on := 10, ground := Ground.guard }], guard := some (10, false) }) (v := ?_) rfl (by kernel_rfl) (by kernel_rfl) (by kernel_rfl) (fun _ _ _ h => h) (Or.inl ⟨by rfl, ?_⟩) (by assumption) ?_
            rotate_left
            · intro w hSw; (try dsimp only at hSw); go_simp; try with_reducible rfl
            try simp only [Act.put, List.setIfInBounds_toArray, List.set_cons_zero, List.set_cons_succ]
            refine wpAnyH_take (i := 24) (oi := { dst := some 49, op := Op.pick (Operand.tmp 35) (Operand.const (Value.bool true)) (Operand.tmp 48), type := 4, pos := "frame.go:265", after := #[{ on := 10, ground := Ground.data }, { on := 23, ground := Ground.data }], guard := none }) (v := ?_) rfl (by kernel_rfl) (by kernel_rfl) (by kernel_rfl) (fun _ _ _ h => h) (Or.inl ⟨by rfl, ?_⟩) (by assumption) ?_
            rotate_left
            · intro w hSw; (try dsimp only at hSw); go_simp; try with_reducible rfl
            try simp only [Act.put, List.setIfInBounds_toArray, List.set_cons_zero, List.set_cons_succ]
            refine wpAnyH_take (i := 25) (oi := { dst := some 50, op := Op.move (Operand.tmp 49), type := 4, pos := "frame.go:265", after := #[{ on := 24, ground := Ground.data }, { on := 13, ground := Ground.chain }], guard := none }) (v := ?_) rfl (by kernel_rfl) (by kernel_rfl) (by kernel_rfl) (fun _ _ _ h => h) (Or.inl ⟨by rfl, ?_⟩) (by assumption) ?_
            rotate_left
            · intro w hSw; (try dsimp only at hSw); go_simp; try with_reducible rfl
            try simp only [Act.put, List.setIfInBounds_toArray, List.set_cons_zero, List.set_cons_succ]
            refine wpAnyH_take (i := 26) (oi := { dst := some 51, op := Op.fieldAddr 143 (Operand.tmp 8) 1, type := 0, pos := "frame.go:265", after := #[{ on := 25, ground := Ground.guard }], guard := some (25, false) }) (v := ?_) rfl (by kernel_rfl) (by kernel_rfl) (by kernel_rfl) (fun _ _ _ h => h) (Or.inl ⟨by rfl, ?_⟩) (by assumption) ?_
            rotate_left
            · intro w hSw; (try dsimp only at hSw); go_simp; try with_reducible rfl
            try simp only [Act.put, List.setIfInBounds_toArray, List.set_cons_zero, List.set_cons_succ]
            refine wpAnyH_take (i := 27) (oi := { dst := some 52, op := Op.load 141 (Operand.tmp 51), type := 141, pos := "frame.go:265", after := #[{ on := 26, ground := Ground.data }, { on := 25, ground := Ground.guard }], guard := some (25, false) }) (v := ?_) rfl (by kernel_rfl) (by kernel_rfl) (by kernel_rfl) (fun _ _ _ h => h) (Or.inl ⟨by rfl, ?_⟩) (by assumption) ?_
            rotate_left
            · intro w hSw; (try dsimp only at hSw); go_simp; try with_reducible rfl
            try simp only [Act.put, List.setIfInBounds_toArray, List.set_cons_zero, List.set_cons_succ]
            refine wpAnyH_take (i := 28) (oi := { dst := some 53, op := Op.move (Operand.tmp 1), type := 3, pos := "frame.go:265", after := #[{ on := 25, ground := Ground.guard }], guard := some (25, false) }) (v := ?_) rfl (by kernel_rfl) (by kernel_rfl) (by kernel_rfl) (fun _ _ _ h => h) (Or.inl ⟨by rfl, ?_⟩) (by assumption) ?_
            rotate_left
            · intro w hSw; (try dsimp only at hSw); go_simp; try with_reducible rfl
            try simp only [Act.put, List.setIfInBounds_toArray, List.set_cons_zero, List.set_cons_succ]
            refine wpAnyH_take (i := 29) (oi := { dst := some 54, op := Op.move (Operand.tmp 2), type := 134, pos := "frame.go:265", after := #[{ on := 25, ground := Ground.guard }], guard := some (25, false) }) (v := ?_) rfl (by kernel_rfl) (by kernel_rfl) (by kernel_rfl) (fun _ _ _ h => h) (Or.inl ⟨by rfl, ?_⟩) (by assumption) ?_
            rotate_left
            · intro w hSw; (try dsimp only at hSw); go_simp; try with_reducible rfl
            try simp only [Act.put, List.setIfInBounds_toArray, List.set_cons_zero, List.set_cons_succ]
            refine wpAnyH_ready (rs := [30]) (by kernel_rfl) (by simp) ?_
            refine AllReadyH.cons (o := { dst := some 55, op := Op.call { callee := Callee.value (Operand.func 76), args := #[Operand.tmp 52, Operand.tmp 53, Operand.tmp 54], argTypes := #[141, 3, 134] }, type := 4, pos := "frame.go:265", after := #[{ on := 27, ground := Ground.data }, { on := 28, ground := Ground.data }, { on := 29, ground := Ground.data }, { on := 25, ground := Ground.chain }, { on := 25, ground := Ground.guard }], guard := some (25, false) }) rfl (fun K hK => ?_) AllReadyH.nil
            go_simp
            go_at_call 76; refine HV.out.mono ?_; rintro e w3 ⟨rfl, v2, v3⟩; have H3 := Lib.hid (And.intro v2 v3); clear v2 v3
            go_wp2_with fail
            refine hK.out _ _ (by (try dsimp only); have hh := H2.out.1.drew.kept (H3.out.2) (by simpa using Ne.symm hrmq); exact ⟨hh.cell 0, hh.cell 1, hh.cell 2, hh.cell 3, hh.cell 4, hh.cell 5, hh.cell 6, hh.cell 7⟩) (fun hHeld => ?_)
            clear hK K
            try simp only [Act.put, List.setIfInBounds_toArray, List.set_cons_zero, List.set_cons_succ]
            refine wpAnyH_take (i := 31) (oi := { dst := some 56, op := Op.unOp UnOp.not 4 (Operand.tmp 55), type := 4, pos := "frame.go:265", after := #[{ on := 30, ground := Ground.data }, { on := 25, ground := Ground.guard }], guard := some (25, false) }) (v := ?_) rfl (by kernel_rfl) (by kernel_rfl) (by kernel_rfl) (fun _ _ _ h => h) (Or.inl ⟨by rfl, ?_⟩) (by assumption) ?_
            rotate_left
            · intro w hSw; (try dsimp only at hSw); go_simp; try with_reducible rfl
            try simp only [Act.put, List.setIfInBounds_toArray, List.set_cons_zero, List.set_cons_succ]
            refine wpAnyH_take (i := 32) (oi := { dst := some 57, op := Op.pick (Operand.tmp 50) (Operand.const (Value.bool true)) (Operand.tmp 56), type := 4, pos := "frame.go:265", after := #[{ on := 25, ground := Ground.data }, { on := 31, ground := Ground.data }], guard := none }) (v := ?_) rfl (by kernel_rfl) (by kernel_rfl) (by kernel_rfl) (fun _ _ _ h => h) (Or.inl ⟨by rfl, ?_⟩) (by assumption) ?_
            rotate_left
            · intro w hSw; (try dsimp only at hSw); go_simp; try with_reducible rfl
            try simp only [Act.put, List.setIfInBounds_toArray, List.set_cons_zero, List.set_cons_succ]
            refine wpAnyH_done (by kernel_rfl) ?_ _
            refine NoPanic.normal ?_
            cases bx with
            | false =>
              go_wp2_with fail
              go_ret
              rw [H2.out.2.2.2.2.1, propFs, if_neg HNO.out, HX1.out, if_neg (by simp)]
              exact ⟨rfl, H3.out.1, H2.out.2.2.2.1.drew.trans H3.out.2 (fun x hx => .inl hx)⟩
            | true =>
              go_wp2_with fail
              go_roundw
              case rel =>
                have hb := (propV_iff v deep _ r1).1 HX1.out
                refine ⟨_, r1, hlt, rfl, by omega, by omega, Lib.hid ⟨?_, H3.out.1, H2.out.2.2.2.1.drew.trans H3.out.2 (fun x hx => .inl hx)⟩⟩
                rw [H2.out.2.2.2.2.1, propFs, if_neg HNO.out, HX1.out, if_pos rfl]
                simp only [prevName]
                rw [if_neg (by omega), show 0 + 1 - 1 = 0 from rfl]
                simp [HX.out.1, Fld.name]
              case measure => simp [intOf]; omega
          · obtain ⟨j, rfl⟩ : ∃ j, k = j + 1 := ⟨k - 1, by omega⟩
            obtain ⟨nm, v0, hx0⟩ : ∃ nm v0, l[j]? = some (.mk nm v0) := by
              rw [List.getElem?_eq_getElem (by omega)]; cases l[j] with | mk nm v0 => exact ⟨nm, v0, rfl⟩
            obtain ⟨ad', cs0, had, hca0, hvh0⟩ := H.out.2.2.2.2.1 j nm v0 hx0
            obtain rfl : ad = ad' := by cases had; rfl
            have hj1 : (j : Int) + 1 < l.length := by omega
            have hj0 : (0 : Int) < (j : Int) + 1 := by omega
            have hj2 : (0 : Int) ≤ (j : Int) := by omega
            have hj3 : (j : Int) < l.length := by omega
            have hwj : IntKind.i64.wrap (j : Int) = j := by rw [IntKind.wrap_i64]; omega
            have p0 : W2.drew.cell? (ad.add (j * 8)) = some (.string (bstr nm)) := by
              have := (hca0.kept H2.out.2.2.2.1.drew HX.out.2.2.2.2).2 0 _ rfl
              simpa [Addr.add] using this
            have p1 : W2.cell? (ad.add (j * 8)) = some (.string (bstr nm)) := p0
            have hprev : prevName l (j + 1) = some nm := by simp [prevName, hx0, Fld.name]
            have HP := Lib.hid (And.intro hprev hx0); clear hprev hx0 hca0 hvh0 had
            by_cases hC : Op.bytesLess nm name = false
            · 
              refine wp_region_noPanic ?_
              refine wp_region_held_drew (S := (fun w' : World => w'.cell? ⟨wr.heap.size, 0, none⟩ = some (.string (bstr name)) ∧ w'.cell? ⟨wr.heap.size, 1, none⟩ = some a0 ∧ w'.cell? ⟨wr.heap.size, 2, none⟩ = some a1 ∧ w'.cell? ⟨wr.heap.size, 3, none⟩ = some a2 ∧ w'.cell? ⟨wr.heap.size, 4, none⟩ = some a3 ∧ w'.cell? ⟨wr.heap.size, 5, none⟩ = some a4 ∧ w'.cell? ⟨wr.heap.size, 6, none⟩ = some a5 ∧ w'.cell? ⟨wr.heap.size, 7, none⟩ = some a6)) (by kernel_rfl) (by (try dsimp only); exact ⟨z0, z1, z2, z3, z4, z5, z6, z7⟩) (fun hHeld => ?_)
              refine wpAnyH_take (i := 0) (oi := { dst := some 25, op := Op.fieldAddr 143 (Operand.tmp 8) 0, type := 0, pos := "frame.go:265", after := #[], guard := none }) (v := ?_) rfl (by kernel_rfl) (by kernel_rfl) (by kernel_rfl) (fun _ _ _ h => h) (Or.inl ⟨by rfl, ?_⟩) (by assumption) ?_
              rotate_left
              · intro w hSw; (try dsimp only at hSw); go_simp; try with_reducible rfl
              try simp only [Act.put, List.setIfInBounds_toArray, List.set_cons_zero, List.set_cons_succ]
              refine wpAnyH_take (i := 1) (oi := { dst := some 26, op := Op.load 9 (Operand.tmp 25), type := 9, pos := "frame.go:265", after := #[{ on := 0, ground := Ground.data }], guard := none }) (v := ?_) rfl (by kernel_rfl) (by kernel_rfl) (by kernel_rfl) (fun _ _ _ h => h) (Or.inl ⟨by rfl, ?_⟩) (by assumption) ?_
              rotate_left
              · intro w hSw; (try dsimp only at hSw); go_simp; try with_reducible rfl
              try simp only [Act.put, List.setIfInBounds_toArray, List.set_cons_zero, List.set_cons_succ]
              refine wpAnyH_take (i := 2) (oi := { dst := some 27, op := Op.call { callee := Callee.builtin Builtin.len, args := #[Operand.tmp 26], argTypes := #[9] }, type := 3, pos := "frame.go:265", after := #[{ on := 1, ground := Ground.data }], guard := none }) (v := ?_) rfl (by kernel_rfl) (by kernel_rfl) (by kernel_rfl) (fun _ _ _ h => h) (Or.inl ⟨by rfl, ?_⟩) (by assumption) ?_
              rotate_left
              · intro w hSw; (try dsimp only at hSw); go_simp; try with_reducible rfl
              try simp only [Act.put, List.setIfInBounds_toArray, List.set_cons_zero, List.set_cons_succ]
              refine wpAnyH_take (i := 3) (oi := { dst := some 28, op := Op.binOp BinOp.gtr 3 (Operand.tmp 27) (Operand.const (Value.int IntKind.i64 255)) 3, type := 4, pos := "frame.go:265", after := #[{ on := 2, ground := Ground.data }], guard := none }) (v := ?_) rfl (by kernel_rfl) (by kernel_rfl) (by kernel_rfl) (fun _ _ _ h => h) (Or.inl ⟨by rfl, ?_⟩) (by assumption) ?_
              rotate_left
              · intro w hSw; (try dsimp only at hSw); go_simp; try with_reducible rfl
              try simp only [Act.put, List.setIfInBounds_toArray, List.set_cons_zero, List.set_cons_succ]
              refine wpAnyH_take (i := 4) (oi := { dst := some 29, op := Op.move (Operand.tmp 28), type := 4, pos := "frame.go:265", after := #[{ on := 3, ground := Ground.data }], guard := none }) (v := ?_) rfl (by kernel_rfl) (by kernel_rfl) (by kernel_rfl) (fun _ _ _ h => h) (Or.inl ⟨by rfl, ?_⟩) (by assumption) ?_
              rotate_left
              · intro w hSw; (try dsimp only at hSw); go_simp; try with_reducible rfl
              try simp only [Act.put, List.setIfInBounds_toArray, List.set_cons_zero, List.set_cons_succ]
              refine wpAnyH_take (i := 5) (oi := { dst := some 30, op := Op.move (Operand.tmp 2), type := 134, pos := "frame.go:265", after := #[{ on := 4, ground := Ground.guard }], guard := some (4, false) }) (v := ?_) rfl (by kernel_rfl) (by kernel_rfl) (by kernel_rfl) (fun _ _ _ h => h) (Or.inl ⟨by rfl, ?_⟩) (by assumption) ?_
              rotate_left
              · intro w hSw; (try dsimp only at hSw); go_simp; try with_reducible rfl
              try simp only [Act.put, List.setIfInBounds_toArray, List.set_cons_zero, List.set_cons_succ]
              refine wpAnyH_take (i := 6) (oi := { dst := some 31, op := Op.nilCheck (Operand.tmp 30), type := 0, pos := "frame.go:265", after := #[{ on := 5, ground := Ground.data }, { on := 4, ground := Ground.guard }], guard := some (4, false) }) (v := ?_) rfl (by kernel_rfl) (by kernel_rfl) (by kernel_rfl) (fun _ _ _ h => h) (Or.inl ⟨by rfl, ?_⟩) (by assumption) ?_
              rotate_left
              · intro w hSw; (try dsimp only at hSw); go_simp; try with_reducible rfl
              try simp only [Act.put, List.setIfInBounds_toArray, List.set_cons_zero, List.set_cons_succ]
              refine wpAnyH_ready (rs := [7]) (by kernel_rfl) (by simp) ?_
              refine AllReadyH.cons (o := { dst := some 32, op := Op.load 3 (Operand.tmp 31), type := 3, pos := "frame.go:265", after := #[{ on := 6, ground := Ground.data }, { on := 4, ground := Ground.guard }], guard := some (4, false) }) rfl (fun K hK => ?_) AllReadyH.nil
              go_simp
              refine hK.out _ _ (by (try dsimp only); exact ⟨z0, z1, z2, z3, z4, z5, z6, z7⟩) (fun hHeld => ?_)
              clear hK K
              try simp only [Act.put, List.setIfInBounds_toArray, List.set_cons_zero, List.set_cons_succ]
              refine wpAnyH_take (i := 8) (oi := { dst := some 33, op := Op.binOp BinOp.lss 3 (Operand.tmp 32) (Operand.const (Value.int IntKind.i64 0)) 3, type := 4, pos := "frame.go:265", after := #[{ on := 7, ground := Ground.data }, { on := 4, ground := Ground.guard }], guard := some (4, false) }) (v := ?_) rfl (by kernel_rfl) (by kernel_rfl) (by kernel_rfl) (fun _ _ _ h => h) (Or.inl ⟨by rfl, ?_⟩) (by assumption) ?_
              rotate_left
              · intro w hSw; (try dsimp only at hSw); go_simp; try with_reducible rfl
              try simp only [Act.put, List.setIfInBounds_toArray, List.set_cons_zero, List.set_cons_succ]
              refine wpAnyH_take (i := 9) (oi := { dst := some 34, op := Op.pick (Operand.tmp 29) (Operand.const (Value.bool true)) (Operand.tmp 33), type := 4, pos := "frame.go:265", after := #[{ on := 4, ground := Ground.data }, { on := 8, ground := Ground.data }], guard := none }) (v := ?_) rfl (by kernel_rfl) (by kernel_rfl) (by kernel_rfl) (fun _ _ _ h => h) (Or.inl ⟨by rfl, ?_⟩) (by assumption) ?_
              rotate_left
              · intro w hSw; (try dsimp only at hSw); go_simp; try with_reducible rfl
              try simp only [Act.put, List.setIfInBounds_toArray, List.set_cons_zero, List.set_cons_succ]
              refine wpAnyH_take (i := 10) (oi := { dst := some 35, op := Op.move (Operand.tmp 34), type := 4, pos := "frame.go:265", after := #[{ on := 9, ground := Ground.data }, { on := 4, ground := Ground.chain }], guard := none }) (v := ?_) rfl (by kernel_rfl) (by kernel_rfl) (by kernel_rfl) (fun _ _ _ h => h) (Or.inl ⟨by rfl, ?_⟩) (by assumption) ?_
              rotate_left
              · intro w hSw; (try dsimp only at hSw); go_simp; try with_reducible rfl
              try simp only [Act.put, List.setIfInBounds_toArray, List.set_cons_zero, List.set_cons_succ]
              refine wpAnyH_take (i := 11) (oi := { dst := some 36, op := Op.move (Operand.tmp 7), type := 3, pos := "frame.go:265", after := #[{ on := 10, ground := Ground.guard }], guard := some (10, false) }) (v := ?_) rfl (by kernel_rfl) (by kernel_rfl) (by kernel_rfl) (fun _ _ _ h => h) (Or.inl ⟨by rfl, ?_⟩) (by assumption) ?_
              rotate_left
              · intro w hSw; (try dsimp only at hSw); go_simp; try with_reducible rfl
              try simp only [Act.put, List.setIfInBounds_toArray, List.set_cons_zero, List.set_cons_succ]
              refine wpAnyH_take (i := 12) (oi := { dst := some 37, op := Op.binOp BinOp.gtr 3 (Operand.tmp 36) (Operand.const (Value.int IntKind.i64 0)) 3, type := 4, pos := "frame.go:265", after := #[{ on := 11, ground := Ground.data }, { on := 10, ground := Ground.guard }], guard := some (10, false) }) (v := ?_) rfl (by kernel_rfl) (by kernel_rfl) (by kernel_rfl) (fun _ _ _ h => h) (Or.inl ⟨by rfl, ?_⟩) (by assumption) ?_
              rotate_left
              · intro w hSw; (try dsimp only at hSw); go_simp; try with_reducible rfl
              try simp only [Act.put, List.setIfInBounds_toArray, List.set_cons_zero, List.set_cons_succ]
              refine wpAnyH_take (i := 13) (oi := { dst := some 38, op := Op.move (Operand.tmp 37), type := 4, pos := "frame.go:265", after := #[{ on := 12, ground := Ground.data }, { on := 10, ground := Ground.chain }, { on := 10, ground := Ground.guard }], guard := some (10, false) }) (v := ?_) rfl (by kernel_rfl) (by kernel_rfl) (by kernel_rfl) (fun _ _ _ h => h) (Or.inl ⟨by rfl, ?_⟩) (by assumption) ?_
              rotate_left
              · intro w hSw; (try dsimp only at hSw); go_simp; try with_reducible rfl
              try simp only [Act.put, List.setIfInBounds_toArray, List.set_cons_zero, List.set_cons_succ]
              refine wpAnyH_take (i := 14) (oi := { dst := some 39, op := Op.move (Operand.tmp 0), type := 52, pos := "frame.go:265", after := #[{ on := 13, ground := Ground.guard }], guard := some (13, true) }) (v := ?_) rfl (by kernel_rfl) (by kernel_rfl) (by kernel_rfl) (fun _ _ _ h => h) (Or.inl ⟨by rfl, ?_⟩) (by assumption) ?_
              rotate_left
              · intro w hSw; (try dsimp only at hSw); go_simp; try with_reducible rfl
              try simp only [Act.put, List.setIfInBounds_toArray, List.set_cons_zero, List.set_cons_succ]
              refine wpAnyH_take (i := 15) (oi := { dst := some 40, op := Op.move (Operand.tmp 7), type := 3, pos := "frame.go:265", after := #[{ on := 13, ground := Ground.guard }], guard := some (13, true) }) (v := ?_) rfl (by kernel_rfl) (by kernel_rfl) (by kernel_rfl) (fun _ _ _ h => h) (Or.inl ⟨by rfl, ?_⟩) (by assumption) ?_
              rotate_left
              · intro w hSw; (try dsimp only at hSw); go_simp; try with_reducible rfl
              try simp only [Act.put, List.setIfInBounds_toArray, List.set_cons_zero, List.set_cons_succ]
              refine wpAnyH_take (i := 16) (oi := { dst := some 41, op := Op.binOp BinOp.sub 3 (Operand.tmp 40) (Operand.const (Value.int IntKind.i64 1)) 3, type := 3, pos := "frame.go:265", after := #[{ on := 15, ground := Ground.data }, { on := 13, ground := Ground.guard }], guard := some (13, true) }) (v := ?_) rfl (by kernel_rfl) (by kernel_rfl) (by kernel_rfl) (fun _ _ _ h => h) (Or.inl ⟨by rfl, ?_⟩) (by assumption) ?_
              rotate_left
              · intro w hSw; (try dsimp only at hSw); go_simp; try with_reducible rfl
              try simp only [Act.put, List.setIfInBounds_toArray, List.set_cons_zero, List.set_cons_succ]
              refine wpAnyH_take (i := 17) (oi := { dst := some 42, op := Op.indexAddr 52 (Operand.tmp 39) (Operand.tmp 41), type := 0, pos := "frame.go:265", after := #[{ on := 14, ground := Ground.data }, { on := 16, ground := Ground.data }, { on := 13, ground := Ground.guard }], guard := some (13, true) }) (v := ?_) rfl (by kernel_rfl) (by kernel_rfl) (by kernel_rfl) (fun _ _ _ h => h) (Or.inl ⟨by rfl, ?_⟩) (by assumption) ?_
              rotate_left
              · intro w hSw; (try dsimp only at hSw); go_simp; try with_reducible rfl
              try simp only [Act.put, List.setIfInBounds_toArray, List.set_cons_zero, List.set_cons_succ]
              refine wpAnyH_take (i := 18) (oi := { dst := some 43, op := Op.fieldAddr 143 (Operand.tmp 42) 0, type := 0, pos := "frame.go:265", after := #[{ on := 17, ground := Ground.data }, { on := 13, ground := Ground.guard }], guard := some (13, true) }) (v := ?_) rfl (by kernel_rfl) (by kernel_rfl) (by kernel_rfl) (fun _ _ _ h => h) (Or.inl ⟨by rfl, ?_⟩) (by assumption) ?_
              rotate_left
              · intro w hSw; (try dsimp only at hSw); go_simp; try with_reducible rfl
              try simp only [Act.put, List.setIfInBounds_toArray, List.set_cons_zero, List.set_cons_succ]
              refine wpAnyH_take (i := 20) (oi := { dst := some 45, op := Op.fieldAddr 143 (Operand.tmp 8) 0, type := 0, pos := "frame.go:265", after := #[{ on := 13, ground := Ground.guard }], guard := some (13, true) }) (v := ?_) rfl (by kernel_rfl) (by kernel_rfl) (by kernel_rfl) (fun _ _ _ h => h) (Or.inl ⟨by rfl, ?_⟩) (by assumption) ?_
              rotate_left
              · intro w hSw; (try dsimp only at hSw); go_simp; try with_reducible rfl
              try simp only [Act.put, List.setIfInBounds_toArray, List.set_cons_zero, List.set_cons_succ]
              refine wpAnyH_take (i := 21) (oi := { dst := some 46, op := Op.load 9 (Operand.tmp 45), type := 9, pos := "frame.go:265", after := #[{ on := 20, ground := Ground.data }, { on := 13, ground := Ground.guard }], guard := some (13, true) }) (v := ?_) rfl (by kernel_rfl) (by kernel_rfl) (by kernel_rfl) (fun _ _ _ h => h) (Or.inl ⟨by rfl, ?_⟩) (by assumption) ?_
              rotate_left
              · intro w hSw; (try dsimp only at hSw); go_simp; try with_reducible rfl
              try simp only [Act.put, List.setIfInBounds_toArray, List.set_cons_zero, List.set_cons_succ]
              refine wpAnyH_ready (rs := [19]) (by kernel_rfl) (by simp) ?_
              refine AllReadyH.cons (o := { dst := some 44, op := Op.load 9 (Operand.tmp 43), type := 9, pos := "frame.go:265", after := #[{ on := 18, ground := Ground.data }, { on := 13, ground := Ground.guard }], guard := some (13, true) }) rfl (fun K hK => ?_) AllReadyH.nil
              go_simp
              refine hK.out _ _ (by (try dsimp only); exact ⟨z0, z1, z2, z3, z4, z5, z6, z7⟩) (fun hHeld => ?_)
              clear hK K
              try simp only [Act.put, List.setIfInBounds_toArray, List.set_cons_zero, List.set_cons_succ]
              refine wpAnyH_take (i := 22) (oi := { dst := some 47, op := Op.binOp BinOp.geq 9 (Operand.tmp 44) (Operand.tmp 46) 9, type := 4, pos := "frame.go:265", after := #[{ on := 19, ground := Ground.data }, { on := 21, ground := Ground.data }, { on := 13, ground := Ground.guard }], guard := some (13, true) }) (v := ?_) rfl (by kernel_rfl) (by kernel_rfl) (by kernel_rfl) (fun _ _ _ h => h) (Or.inl ⟨by rfl, ?_⟩) (by assumption) ?_
              rotate_left
              · intro w hSw; (try dsimp only at hSw); go_simp; try with_reducible rfl
              try simp only [Act.put, List.setIfInBounds_toArray, List.set_cons_zero, List.set_cons_succ]
              refine wpAnyH_take (i := 23) (oi := { dst := some 48, op := Op.pick (Operand.tmp 38) (Operand.tmp 47) (Operand.const (Value.bool false)), type := 4, pos := "frame.go:265", after := #[{ on := 13, ground := Ground.data }, { on := 22, ground := Ground.data }, { on := 10, ground := Ground.guard }], guard := some (10, false) }) (v := ?_) rfl (by kernel_rfl) (by kernel_rfl) (by kernel_rfl) (fun _ _ _ h => h) (Or.inl ⟨by rfl, ?_⟩) (by assumption) ?_
              rotate_left
              · intro w hSw; (try dsimp only at hSw); go_simp; try with_reducible rfl
              try simp only [Act.put, List.setIfInBounds_toArray, List.set_cons_zero, List.set_cons_succ]
              refine wpAnyH_take (i := 24) (oi := { dst := some 49, op := Op.pick (Operand.tmp 35) (Operand.const (Value.bool true)) (Operand.tmp 48), type := 4, pos := "frame.go:265", after := #[{ on := 10, ground := Ground.data }, { on := 23, ground := Ground.data }], guard := none }) (v := ?_) rfl (by kernel_rfl) (by kernel_rfl) (by kernel_rfl) (fun _ _ _ h => h) (Or.inl ⟨by rfl, ?_⟩) (by assumption) ?_
              rotate_left
              · intro w hSw; (try dsimp only at hSw); go_simp; try with_reducible rfl
              try simp only [Act.put, List.setIfInBounds_toArray, List.set_cons_zero, List.set_cons_succ]
              refine wpAnyH_take (i := 25) (oi := { dst := some 50, op := Op.move (Operand.tmp 49), type := 4, pos := "frame.go:265", after := #[{ on := 24, ground := Ground.data }, { on := 13, ground := Ground.chain }], guard := none }) (v := ?_) rfl (by kernel_rfl) (by kernel_rfl) (by kernel_rfl) (fun _ _ _ h => h) (Or.inl ⟨by rfl, ?_⟩) (by assumption) ?_
              rotate_left
              · intro w hSw; (try dsimp only at hSw); go_simp; try with_reducible rfl
              try simp only [Act.put, List.setIfInBounds_toArray, List.set_cons_zero, List.set_cons_succ]
              refine wpAnyH_take (i := 26) (oi := { dst := some 51, op := Op.fieldAddr 143 (Operand.tmp 8) 1, type := 0, pos := "frame.go:265", after := #[{ on := 25, ground := Ground.guard }], guard := some (25, false) }) (v := undef) rfl (by kernel_rfl) (by kernel_rfl) (by kernel_rfl) (fun _ _ _ h => h) (Or.inr ⟨by rfl, rfl⟩) (by assumption) ?_
              try simp only [Act.put, List.setIfInBounds_toArray, List.set_cons_zero, List.set_cons_succ]
              refine wpAnyH_take (i := 27) (oi := { dst := some 52, op := Op.load 141 (Operand.tmp 51), type := 141, pos := "frame.go:265", after := #[{ on := 26, ground := Ground.data }, { on := 25, ground := Ground.guard }], guard := some (25, false) }) (v := undef) rfl (by kernel_rfl) (by kernel_rfl) (by kernel_rfl) (fun _ _ _ h => h) (Or.inr ⟨by rfl, rfl⟩) (by assumption) ?_
              try simp only [Act.put, List.setIfInBounds_toArray, List.set_cons_zero, List.set_cons_succ]
              refine wpAnyH_take (i := 28) (oi := { dst := some 53, op := Op.move (Operand.tmp 1), type := 3, pos := "frame.go:265", after := #[{ on := 25, ground := Ground.guard }], guard := some (25, false) }) (v := undef) rfl (by kernel_rfl) (by kernel_rfl) (by kernel_rfl) (fun _ _ _ h => h) (Or.inr ⟨by rfl, rfl⟩) (by assumption) ?_
              try simp only [Act.put, List.setIfInBounds_toArray, List.set_cons_zero, List.set_cons_succ]
              refine wpAnyH_take (i := 29) (oi := { dst := some 54, op := Op.move (Operand.tmp 2), type := 134, pos := "frame.go:265", after := #[{ on := 25, ground := Ground.guard }], guard := some (25, false) }) (v := undef) rfl (by kernel_rfl) (by kernel_rfl) (by kernel_rfl) (fun _ _ _ h => h) (Or.inr ⟨by rfl, rfl⟩) (by assumption) ?_
              try simp only [Act.put, List.setIfInBounds_toArray, List.set_cons_zero, List.set_cons_succ]
              refine wpAnyH_take (i := 30) (oi := { dst := some 55, op := Op.call { callee := Callee.value (Operand.func 76), args := #[Operand.tmp 52, Operand.tmp 53, Operand.tmp 54], argTypes := #[141, 3, 134] }, type := 4, pos := "frame.go:265", after := #[{ on := 27, ground := Ground.data }, { on := 28, ground := Ground.data }, { on := 29, ground := Ground.data }, { on := 25, ground := Ground.chain }, { on := 25, ground := Ground.guard }], guard := some (25, false) }) (v := undef) rfl (by kernel_rfl) (by kernel_rfl) (by kernel_rfl) (fun _ _ _ h => h) (Or.inr ⟨by rfl, rfl⟩) (by assumption) ?_
              try simp only [Act.put, List.setIfInBounds_toArray, List.set_cons_zero, List.set_cons_succ]
              refine wpAnyH_take (i := 31) (oi := { dst := some 56, op := Op.unOp UnOp.not 4 (Operand.tmp 55), type := 4, pos := "frame.go:265", after := #[{ on := 30, ground := Ground.data }, { on := 25, ground := Ground.guard }], guard := some (25, false) }) (v := undef) rfl (by kernel_rfl) (by kernel_rfl) (by kernel_rfl) (fun _ _ _ h => h) (Or.inr ⟨by rfl, rfl⟩) (by assumption) ?_
              try simp only [Act.put, List.setIfInBounds_toArray, List.set_cons_zero, List.set_cons_succ]
              refine wpAnyH_take (i := 32) (oi := { dst := some 57, op := Op.pick (Operand.tmp 50) (Operand.const (Value.bool true)) (Operand.tmp 56), type := 4, pos := "frame.go:265", after := #[{ on := 25, ground := Ground.data }, { on := 31, ground := Ground.data }], guard := none }) (v := ?_) rfl (by kernel_rfl) (by kernel_rfl) (by kernel_rfl) (fun _ _ _ h => h) (Or.inl ⟨by rfl, ?_⟩) (by assumption) ?_
              rotate_left
              · intro w hSw; (try dsimp only at hSw); go_simp; try with_reducible rfl
              try simp only [Act.put, List.setIfInBounds_toArray, List.set_cons_zero, List.set_cons_succ]
              refine wpAnyH_done (by kernel_rfl) ?_ _
              refine NoPanic.normal ?_
              go_wp2_with fail
              go_ret
              rw [H2.out.2.2.2.2.1, propFs, if_pos (.inr (.inr ⟨nm, HP.out.1, hC⟩))]
              exact ⟨rfl, H2.out.2.1.drew, H2.out.2.2.2.1.drew⟩
            · have hC' : Op.bytesLess nm name = true := by simpa using hC
              have HNO := Lib.hid (show ¬ (name.length > 255 ∨ rk - (1 + (name.length : Int)) < 0 ∨ ∃ p, prevName l (j + 1) = some p ∧ Op.bytesLess p name = false) from fun h => by
                rcases h with h | h | ⟨p, h, h2⟩
                · exact HA.out.1 h
                · exact HA.out.2 h
                · rw [HP.out.1] at h; cases h; exact hC h2)
              clear hC
              refine wp_region_noPanic ?_
              refine wp_region_held_drew (S := (fun w' : World => w'.cell? ⟨wr.heap.size, 0, none⟩ = some (.string (bstr name)) ∧ w'.cell? ⟨wr.heap.size, 1, none⟩ = some a0 ∧ w'.cell? ⟨wr.heap.size, 2, none⟩ = some a1 ∧ w'.cell? ⟨wr.heap.size, 3, none⟩ = some a2 ∧ w'.cell? ⟨wr.heap.size, 4, none⟩ = some a3 ∧ w'.cell? ⟨wr.heap.size, 5, none⟩ = some a4 ∧ w'.cell? ⟨wr.heap.size, 6, none⟩ = some a5 ∧ w'.cell? ⟨wr.heap.size, 7, none⟩ = some a6)) (by kernel_rfl) (by (try dsimp only); exact ⟨z0, z1, z2, z3, z4, z5, z6, z7⟩) (fun hHeld => ?_)
              refine wpAnyH_take (i := 0) (oi := { dst := some 25, op := Op.fieldAddr 143 (Operand.tmp 8) 0, type := 0, pos := "frame.go:265", after := #[], guard := none }) (v := ?_) rfl (by kernel_rfl) (by kernel_rfl) (by kernel_rfl) (fun _ _ _ h => h) (Or.inl ⟨by rfl, ?_⟩) (by assumption) ?_
              rotate_left
              · intro w hSw; (try dsimp only at hSw); go_simp; try with_reducible rfl
              try simp only [Act.put, List.setIfInBounds_toArray, List.set_cons_zero, List.set_cons_succ]
              refine wpAnyH_take (i := 1) (oi := { dst := some 26, op := Op.load 9 (Operand.tmp 25), type := 9, pos := "frame.go:265", after := #[{ on := 0, ground := Ground.data }], guard := none }) (v := ?_) rfl (by kernel_rfl) (by kernel_rfl) (by kernel_rfl) (fun _ _ _ h => h) (Or.inl ⟨by rfl, ?_⟩) (by assumption) ?_
              rotate_left
              · intro w hSw; (try dsimp only at hSw); go_simp; try with_reducible rfl
              try simp only [Act.put, List.setIfInBounds_toArray, List.set_cons_zero, List.set_cons_succ]
              refine wpAnyH_take (i := 2) (oi := { dst := some 27, op := Op.call { callee := Callee.builtin Builtin.len, args := #[Operand.tmp 26], argTypes := #[9] }, type := 3, pos := "frame.go:265", after := #[{ on := 1, ground := Ground.data }], guard := none }) (v := ?_) rfl (by kernel_rfl) (by kernel_rfl) (by kernel_rfl) (fun _ _ _ h => h) (Or.inl ⟨by rfl, ?_⟩) (by assumption) ?_
              rotate_left
              · intro w hSw; (try dsimp only at hSw); go_simp; try with_reducible rfl
              try simp only [Act.put, List.setIfInBounds_toArray, List.set_cons_zero, List.set_cons_succ]
              refine wpAnyH_take (i := 3) (oi := { dst := some 28, op := Op.binOp BinOp.gtr 3 (Operand.tmp 27) (Operand.const (Value.int IntKind.i64 255)) 3, type := 4, pos := "frame.go:265", after := #[{ on := 2, ground := Ground.data }], guard := none }) (v := ?_) rfl (by kernel_rfl) (by kernel_rfl) (by kernel_rfl) (fun _ _ _ h => h) (Or.inl ⟨by rfl, ?_⟩) (by assumption) ?_
              rotate_left
              · intro w hSw; (try dsimp only at hSw); go_simp; try with_reducible rfl
              try simp only [Act.put, List.setIfInBounds_toArray, List.set_cons_zero, List.set_cons_succ]
              refine wpAnyH_take (i := 4) (oi := { dst := some 29, op := Op.move (Operand.tmp 28), type := 4, pos := "frame.go:265", after := #[{ on := 3, ground := Ground.data }], guard := none }) (v := ?_) rfl (by kernel_rfl) (by kernel_rfl) (by kernel_rfl) (fun _ _ _ h => h) (Or.inl ⟨by rfl, ?_⟩) (by assumption) ?_
              rotate_left
              · intro w hSw; (try dsimp only at hSw); go_simp; try with_reducible rfl
              try simp only [Act.put, List.setIfInBounds_toArray, List.set_cons_zero, List.set_cons_succ]
              refine wpAnyH_take (i := 5) (oi := { dst := some 30, op := Op.move (Operand.tmp 2), type := 134, pos := "frame.go:265", after := #[{ on := 4, ground := Ground.guard }], guard := some (4, false) }) (v := ?_) rfl (by kernel_rfl) (by kernel_rfl) (by kernel_rfl) (fun _ _ _ h => h) (Or.inl ⟨by rfl, ?_⟩) (by assumption) ?_
              rotate_left
              · intro w hSw; (try dsimp only at hSw); go_simp; try with_reducible rfl
              try simp only [Act.put, List.setIfInBounds_toArray, List.set_cons_zero, List.set_cons_succ]
              refine wpAnyH_take (i := 6) (oi := { dst := some 31, op := Op.nilCheck (Operand.tmp 30), type := 0, pos := "frame.go:265", after := #[{ on := 5, ground := Ground.data }, { on := 4, ground := Ground.guard }], guard := some (4, false) }) (v := ?_) rfl (by kernel_rfl) (by kernel_rfl) (by kernel_rfl) (fun _ _ _ h => h) (Or.inl ⟨by rfl, ?_⟩) (by assumption) ?_
              rotate_left
              · intro w hSw; (try dsimp only at hSw); go_simp; try with_reducible rfl
              try simp only [Act.put, List.setIfInBounds_toArray, List.set_cons_zero, List.set_cons_succ]
              refine wpAnyH_ready (rs := [7]) (by kernel_rfl) (by simp) ?_
              refine AllReadyH.cons (o := { dst := some 32, op := Op.load 3 (Operand.tmp 31), type := 3, pos := "frame.go:265", after := #[{ on := 6, ground := Ground.data }, { on := 4, ground := Ground.guard }], guard := some (4, false) }) rfl (fun K hK => ?_) AllReadyH.nil
              go_simp
              refine hK.out _ _ (by (try dsimp only); exact ⟨z0, z1, z2, z3, z4, z5, z6, z7⟩) (fun hHeld => ?_)
              clear hK K
              try simp only [Act.put, List.setIfInBounds_toArray, List.set_cons_zero, List.set_cons_succ]
              refine wpAnyH_take (i := 8) (oi := { dst := some 33, op := Op.binOp BinOp.lss 3 (Operand.tmp 32) (Operand.const (Value.int IntKind.i64 0)) 3, type := 4, pos := "frame.go:265", after := #[{ on := 7, ground := Ground.data }, { on := 4, ground := Ground.guard }], guard := some (4, false) }) (v := ?_) rfl (by kernel_rfl) (by kernel_rfl) (by kernel_rfl) (fun _ _ _ h => h) (Or.inl ⟨by rfl, ?_⟩) (by assumption) ?_
              rotate_left
              · intro w hSw; (try dsimp only at hSw); go_simp; try with_reducible rfl
              try simp only [Act.put, List.setIfInBounds_toArray, List.set_cons_zero, List.set_cons_succ]
              refine wpAnyH_take (i := 9) (oi := { dst := some 34, op := Op.pick (Operand.tmp 29) (Operand.const (Value.bool true)) (Operand.tmp 33), type := 4, pos := "frame.go:265", after := #[{ on := 4, ground := Ground.data }, { on := 8, ground := Ground.data }], guard := none }) (v := ?_) rfl (by kernel_rfl) (by kernel_rfl) (by kernel_rfl) (fun _ _ _ h => h) (Or.inl ⟨by rfl, ?_⟩) (by assumption) ?_
              rotate_left
              · intro w hSw; (try dsimp only at hSw); go_simp; try with_reducible rfl
              try simp only [Act.put, List.setIfInBounds_toArray, List.set_cons_zero, List.set_cons_succ]
              refine wpAnyH_take (i := 10) (oi := { dst := some 35, op := Op.move (Operand.tmp 34), type := 4, pos := "frame.go:265", after := #[{ on := 9, ground := Ground.data }, { on := 4, ground := Ground.chain }], guard := none }) (v := ?_) rfl (by kernel_rfl) (by kernel_rfl) (by kernel_rfl) (fun _ _ _ h => h) (Or.inl ⟨by rfl, ?_⟩) (by assumption) ?_
              rotate_left
              · intro w hSw; (try dsimp only at hSw); go_simp; try with_reducible rfl
              try simp only [Act.put, List.setIfInBounds_toArray, List.set_cons_zero, List.set_cons_succ]
              refine wpAnyH_take (i := 11) (oi := { dst := some 36, op := Op.move (Operand.tmp 7), type := 3, pos := "frame.go:265", after := #[{ on := 10, ground := Ground.guard }], guard := some (10, false) }) (v := ?_) rfl (by kernel_rfl) (by kernel_rfl) (by kernel_rfl) (fun _ _ _ h => h) (Or.inl ⟨by rfl, ?_⟩) (by assumption) ?_
              rotate_left
              · intro w hSw; (try dsimp only at hSw); go_simp; try with_reducible rfl
              try simp only [Act.put, List.setIfInBounds_toArray, List.set_cons_zero, List.set_cons_succ]
              refine wpAnyH_take (i := 12) (oi := { dst := some 37, op := Op.binOp BinOp.gtr 3 (Operand.tmp 36) (Operand.const (Value.int IntKind.i64 0)) 3, type := 4, pos := "frame.go:265", after := #[{ on := 11, ground := Ground.data }, { on := 10, ground := Ground.guard }], guard := some (10, false) }) (v := ?_) rfl (by kernel_rfl) (by kernel_rfl) (by kernel_rfl) (fun _ _ _ h => h) (Or.inl ⟨by rfl, ?_⟩) (by assumption) ?_
              rotate_left
              · intro w hSw; (try dsimp only at hSw); go_simp; try with_reducible rfl
              try simp only [Act.put, List.setIfInBounds_toArray, List.set_cons_zero, List.set_cons_succ]
              refine wpAnyH_take (i := 13) (oi := { dst := some 38, op := Op.move (Operand.tmp 37), type := 4, pos := "frame.go:265", after := #[{ on := 12, ground := Ground.data }, { on := 10, ground := Ground.chain }, { on := 10, ground := Ground.guard }], guard := some (10, false) }) (v := ?_) rfl (by kernel_rfl) (by kernel_rfl) (by kernel_rfl) (fun _ _ _ h => h) (Or.inl ⟨by rfl, ?_⟩) (by assumption) ?_
              rotate_left
              · intro w hSw; (try dsimp only at hSw); go_simp; try with_reducible rfl
              try simp only [Act.put, List.setIfInBounds_toArray, List.set_cons_zero, List.set_cons_succ]
              refine wpAnyH_take (i := 14) (oi := { dst := some 39, op := Op.move (Operand.tmp 0), type := 52, pos := "frame.go:265", after := #[{ on := 13, ground := Ground.guard }], guard := some (13, true) }) (v := ?_) rfl (by kernel_rfl) (by kernel_rfl) (by kernel_rfl) (fun _ _ _ h => h) (Or.inl ⟨by rfl, ?_⟩) (by assumption) ?_
              rotate_left
              · intro w hSw; (try dsimp only at hSw); go_simp; try with_reducible rfl
              try simp only [Act.put, List.setIfInBounds_toArray, List.set_cons_zero, List.set_cons_succ]
              refine wpAnyH_take (i := 15) (oi := { dst := some 40, op := Op.move (Operand.tmp 7), type := 3, pos := "frame.go:265", after := #[{ on := 13, ground := Ground.guard }], guard := some (13, true) }) (v := ?_) rfl (by kernel_rfl) (by kernel_rfl) (by kernel_rfl) (fun _ _ _ h => h) (Or.inl ⟨by rfl, ?_⟩) (by assumption) ?_
              rotate_left
              · intro w hSw; (try dsimp only at hSw); go_simp; try with_reducible rfl
              try simp only [Act.put, List.setIfInBounds_toArray, List.set_cons_zero, List.set_cons_succ]
              refine wpAnyH_take (i := 16) (oi := { dst := some 41, op := Op.binOp BinOp.sub 3 (Operand.tmp 40) (Operand.const (Value.int IntKind.i64 1)) 3, type := 3, pos := "frame.go:265", after := #[{ on := 15, ground := Ground.data }, { on := 13, ground := Ground.guard }], guard := some (13, true) }) (v := ?_) rfl (by kernel_rfl) (by kernel_rfl) (by kernel_rfl) (fun _ _ _ h => h) (Or.inl ⟨by rfl, ?_⟩) (by assumption) ?_
              rotate_left
              · intro w hSw; (try dsimp only at hSw); go_simp; try with_reducible rfl
              try simp only [Act.put, List.setIfInBounds_toArray, List.set_cons_zero, List.set_cons_succ]
              refine wpAnyH_take (i := 17) (oi := { dst := some 42, op := Op.indexAddr 52 (Operand.tmp 39) (Operand.tmp 41), type := 0, pos := "frame.go:265", after := #[{ on := 14, ground := Ground.data }, { on := 16, ground := Ground.data }, { on := 13, ground := Ground.guard }], guard := some (13, true) }) (v := ?_) rfl (by kernel_rfl) (by kernel_rfl) (by kernel_rfl) (fun _ _ _ h => h) (Or.inl ⟨by rfl, ?_⟩) (by assumption) ?_
              rotate_left
              · intro w hSw; (try dsimp only at hSw); go_simp; try with_reducible rfl
              try simp only [Act.put, List.setIfInBounds_toArray, List.set_cons_zero, List.set_cons_succ]
              refine wpAnyH_take (i := 18) (oi := { dst := some 43, op := Op.fieldAddr 143 (Operand.tmp 42) 0, type := 0, pos := "frame.go:265", after := #[{ on := 17, ground := Ground.data }, { on := 13, ground := Ground.guard }], guard := some (13, true) }) (v := ?_) rfl (by kernel_rfl) (by kernel_rfl) (by kernel_rfl) (fun _ _ _ h => h) (Or.inl ⟨by rfl, ?_⟩) (by assumption) ?_
              rotate_left
              · intro w hSw; (try dsimp only at hSw); go_simp; try with_reducible rfl
              try simp only [Act.put, List.setIfInBounds_toArray, List.set_cons_zero, List.set_cons_succ]
              refine wpAnyH_take (i := 20) (oi := { dst := some 45, op := Op.fieldAddr 143 (Operand.tmp 8) 0, type := 0, pos := "frame.go:265", after := #[{ on := 13, ground := Ground.guard }], guard := some (13, true) }) (v := ?_) rfl (by kernel_rfl) (by kernel_rfl) (by kernel_rfl) (fun _ _ _ h => h) (Or.inl ⟨by rfl, ?_⟩) (by assumption) ?_
              rotate_left
              · intro w hSw; (try dsimp only at hSw); go_simp; try with_reducible rfl
              try simp only [Act.put, List.setIfInBounds_toArray, List.set_cons_zero, List.set_cons_succ]
              refine wpAnyH_take (i := 21) (oi := { dst := some 46, op := Op.load 9 (Operand.tmp 45), type := 9, pos := "frame.go:265", after := #[{ on := 20, ground := Ground.data }, { on := 13, ground := Ground.guard }], guard := some (13, true) }) (v := ?_) rfl (by kernel_rfl) (by kernel_rfl) (by kernel_rfl) (fun _ _ _ h => h) (Or.inl ⟨by rfl, ?_⟩) (by assumption) ?_
              rotate_left
              · intro w hSw; (try dsimp only at hSw); go_simp; try with_reducible rfl
              try simp only [Act.put, List.setIfInBounds_toArray, List.set_cons_zero, List.set_cons_succ]
              refine wpAnyH_ready (rs := [19]) (by kernel_rfl) (by simp) ?_
              refine AllReadyH.cons (o := { dst := some 44, op := Op.load 9 (Operand.tmp 43), type := 9, pos := "frame.go:265", after := #[{ on := 18, ground := Ground.data }, { on := 13, ground := Ground.guard }], guard := some (13, true) }) rfl (fun K hK => ?_) AllReadyH.nil
              go_simp
              refine hK.out _ _ (by (try dsimp only); exact ⟨z0, z1, z2, z3, z4, z5, z6, z7⟩) (fun hHeld => ?_)
              clear hK K
              try simp only [Act.put, List.setIfInBounds_toArray, List.set_cons_zero, List.set_cons_succ]
              refine wpAnyH_take (i := 22) (oi := { dst := some 47, op := Op.binOp BinOp.geq 9 (Operand.tmp 44) (Operand.tmp 46) 9, type := 4, pos := "frame.go:265", after := #[{ on := 19, ground := Ground.data }, { on := 21, ground := Ground.data }, { on := 13, ground := Ground.guard }], guard := some (13, true) }) (v := ?_) rfl (by kernel_rfl) (by kernel_rfl) (by kernel_rfl) (fun _ _ _ h => h) (Or.inl ⟨by rfl, ?_⟩) (by assumption) ?_
              rotate_left
              · intro w hSw; (try dsimp only at hSw); go_simp; try with_reducible rfl
              try simp only [Act.put, List.setIfInBounds_toArray, List.set_cons_zero, List.set_cons_succ]
              refine wpAnyH_take (i := 23) (oi := { dst := some 48, op := Op.pick (Operand.tmp 38) (Operand.tmp 47) (Operand.const (Value.bool false)), type := 4, pos := "frame.go:265", after := #[{ on := 13, ground := Ground.data }, { on := 22, ground := Ground.data }, { on := 10, ground := Ground.guard }], guard := some (10, false) }) (v := ?_) rfl (by kernel_rfl) (by kernel_rfl) (by kernel_rfl) (fun _ _ _ h => h) (Or.inl ⟨by rfl, ?_⟩) (by assumption) ?_
              rotate_left
              · intro w hSw; (try dsimp only at hSw); go_simp; try with_reducible rfl
              try simp only [Act.put, List.setIfInBounds_toArray, List.set_cons_zero, List.set_cons_succ]
              refine wpAnyH_take (i := 24) (oi := { dst := some 49, op := Op.pick (Operand.tmp 35) (Operand.const (Value.bool true)) (Operand.tmp 48), type := 4, pos := "frame.go:265", after := #[{ on := 10, ground := Ground.data }, { on := 23, ground := Ground.data }], guard := none }) (v := ?_) rfl (by kernel_rfl) (by kernel_rfl) (by kernel_rfl) (fun _ _ _ h => h) (Or.inl ⟨by rfl, ?_⟩) (by assumption) ?_
              rotate_left
              · intro w hSw; (try dsimp only at hSw); go_simp; try with_reducible rfl
              try simp only [Act.put, List.setIfInBounds_toArray, List.set_cons_zero, List.set_cons_succ]
              refine wpAnyH_take (i := 25) (oi := { dst := some 50, op := Op.move (Operand.tmp 49), type := 4, pos := "frame.go:265", after := #[{ on := 24, ground := Ground.data }, { on := 13, ground := Ground.chain }], guard := none }) (v := ?_) rfl (by kernel_rfl) (by kernel_rfl) (by kernel_rfl) (fun _ _ _ h => h) (Or.inl ⟨by rfl, ?_⟩) (by assumption) ?_
              rotate_left
              · intro w hSw; (try dsimp only at hSw); go_simp; try with_reducible rfl
              try simp only [Act.put, List.setIfInBounds_toArray, List.set_cons_zero, List.set_cons_succ]
              refine wpAnyH_take (i := 26) (oi := { dst := some 51, op := Op.fieldAddr 143 (Operand.tmp 8) 1, type := 0, pos := "frame.go:265", after := #[{ on := 25, ground := Ground.guard }], guard := some (25, false) }) (v := ?_) rfl (by kernel_rfl) (by kernel_rfl) (by kernel_rfl) (fun _ _ _ h => h) (Or.inl ⟨by rfl, ?_⟩) (by assumption) ?_
              rotate_left
              · intro w hSw; (try dsimp only at hSw); go_simp; try with_reducible rfl
              try simp only [Act.put, List.setIfInBounds_toArray, List.set_cons_zero, List.set_cons_succ]
              refine wpAnyH_take (i := 27) (oi := { dst := some 52, op := Op.load 141 (Operand.tmp 51), type := 141, pos := "frame.go:265", after := #[{ on := 26, ground := Ground.data }, { on := 25, ground := Ground.guard }], guard := some (25, false) }) (v := ?_) rfl (by kernel_rfl) (by kernel_rfl) (by kernel_rfl) (fun _ _ _ h => h) (Or.inl ⟨by rfl, ?_⟩) (by assumption) ?_
              rotate_left
              · intro w hSw; (try dsimp only at hSw); go_simp; try with_reducible rfl
              try simp only [Act.put, List.setIfInBounds_toArray, List.set_cons_zero, List.set_cons_succ]
              refine wpAnyH_take (i := 28) (oi := { dst := some 53, op := Op.move (Operand.tmp 1), type := 3, pos := "frame.go:265", after := #[{ on := 25, ground := Ground.guard }], guard := some (25, false) }) (v := ?_) rfl (by kernel_rfl) (by kernel_rfl) (by kernel_rfl) (fun _ _ _ h => h) (Or.inl ⟨by rfl, ?_⟩) (by assumption) ?_
              rotate_left
              · intro w hSw; (try dsimp only at hSw); go_simp; try with_reducible rfl
              try simp only [Act.put, List.setIfInBounds_toArray, List.set_cons_zero, List.set_cons_succ]
              refine wpAnyH_take (i := 29) (oi := { dst := some 54, op := Op.move (Operand.tmp 2), type := 134, pos := "frame.go:265", after := #[{ on := 25, ground := Ground.guard }], guard := some (25, false) }) (v := ?_) rfl (by kernel_rfl) (by kernel_rfl) (by kernel_rfl) (fun _ _ _ h => h) (Or.inl ⟨by rfl, ?_⟩) (by assumption) ?_
              rotate_left
              · intro w hSw; (try dsimp only at hSw); go_simp; try with_reducible rfl
              try simp only [Act.put, List.setIfInBounds_toArray, List.set_cons_zero, List.set_cons_succ]
              refine wpAnyH_ready (rs := [30]) (by kernel_rfl) (by simp) ?_
              refine AllReadyH.cons (o := { dst := some 55, op := Op.call { callee := Callee.value (Operand.func 76), args := #[Operand.tmp 52, Operand.tmp 53, Operand.tmp 54], argTypes := #[141, 3, 134] }, type := 4, pos := "frame.go:265", after := #[{ on := 27, ground := Ground.data }, { on := 28, ground := Ground.data }, { on := 29, ground := Ground.data }, { on := 25, ground := Ground.chain }, { on := 25, ground := Ground.guard }], guard := some (25, false) }) rfl (fun K hK => ?_) AllReadyH.nil
              go_simp
              go_at_call 76; refine HV.out.mono ?_; rintro e w3 ⟨rfl, v2, v3⟩; have H3 := Lib.hid (And.intro v2 v3); clear v2 v3
              go_wp2_with fail
              refine hK.out _ _ (by (try dsimp only); have hh := H2.out.1.drew.kept (H3.out.2) (by simpa using Ne.symm hrmq); exact ⟨hh.cell 0, hh.cell 1, hh.cell 2, hh.cell 3, hh.cell 4, hh.cell 5, hh.cell 6, hh.cell 7⟩) (fun hHeld => ?_)
              clear hK K
              try simp only [Act.put, List.setIfInBounds_toArray, List.set_cons_zero, List.set_cons_succ]
              refine wpAnyH_take (i := 31) (oi := { dst := some 56, op := Op.unOp UnOp.not 4 (Operand.tmp 55), type := 4, pos := "frame.go:265", after := #[{ on := 30, ground := Ground.data }, { on := 25, ground := Ground.guard }], guard := some (25, false) }) (v := ?_) rfl (by kernel_rfl) (by kernel_rfl) (by kernel_rfl) (fun _ _ _ h => h) (Or.inl ⟨by rfl, ?_⟩) (by assumption) ?_
              rotate_left
              · intro w hSw; (try dsimp only at hSw); go_simp; try with_reducible rfl
              try simp only [Act.put, List.setIfInBounds_toArray, List.set_cons_zero, List.set_cons_succ]
              refine wpAnyH_take (i := 32) (oi := { dst := some 57, op := Op.pick (Operand.tmp 50) (Operand.const (Value.bool true)) (Operand.tmp 56), type := 4, pos := "frame.go:265", after := #[{ on := 25, ground := Ground.data }, { on := 31, ground := Ground.data }], guard := none }) (v := ?_) rfl (by kernel_rfl) (by kernel_rfl) (by kernel_rfl) (fun _ _ _ h => h) (Or.inl ⟨by rfl, ?_⟩) (by assumption) ?_
              rotate_left
              · intro w hSw; (try dsimp only at hSw); go_simp; try with_reducible rfl
              try simp only [Act.put, List.setIfInBounds_toArray, List.set_cons_zero, List.set_cons_succ]
              refine wpAnyH_done (by kernel_rfl) ?_ _
              refine NoPanic.normal ?_
              cases bx with
              | false =>
                go_wp2_with fail
                go_ret
                rw [H2.out.2.2.2.2.1, propFs, if_neg HNO.out, HX1.out, if_neg (by simp)]
                exact ⟨rfl, H3.out.1, H2.out.2.2.2.1.drew.trans H3.out.2 (fun x hx => .inl hx)⟩
              | true =>
                go_wp2_with fail
                go_roundw
                case rel =>
                  have hb := (propV_iff v deep _ r1).1 HX1.out
                  refine ⟨_, r1, hlt, rfl, by omega, by omega, Lib.hid ⟨?_, H3.out.1, H2.out.2.2.2.1.drew.trans H3.out.2 (fun x hx => .inl hx)⟩⟩
                  rw [H2.out.2.2.2.2.1, propFs, if_neg HNO.out, HX1.out, if_pos rfl]
                  simp only [prevName]
                  rw [if_neg (by omega), show j + 1 + 1 - 1 = j + 1 from rfl]
                  simp [HX.out.1, Fld.name]
                case measure => simp [intOf]; omega
    · have hkn : (k : Int) = l.length := by omega
      go_wp2_with fail
      go_ret
      have hp := HR.out.1
      rw [List.drop_of_length_le (by omega)] at hp
      rw [hp, propFs]
      exact ⟨rfl, HR.out.2.1, HR.out.2.2⟩
end Go.Proofs.YtkcdakohmfodjaaGreat
