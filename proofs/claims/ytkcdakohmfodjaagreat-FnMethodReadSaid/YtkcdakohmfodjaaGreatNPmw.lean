/-
  Lemmas on the way to the statement of YtkcdakohmfodjaaGreatMethodRead, joined out of these texts: Pmw. No condition.
-/
import Derived.Test.YtkcdakohmfodjaaGreatNToldV
namespace Go.Proofs.YtkcdakohmfodjaaGreat
open Go.RowKit
set_option linter.unusedVariables false
set_option linter.unusedSimpArgs false
/-- The walk of parseMethodFrame at the method m of class c, whose read is fr. -/
def PmW (c m : Nat) (fr : FuncId) (T PT : TypeId) (zero : List Value) : Prop :=
  ∀ (bs rest : List UInt8) (L : List MArg) (Q : List (Value × List Fld) → List Value → Prop) (ch sz : Nat) {w : World} {rr mb b d : Nat},
    (∀ (w : World) (msg : Nat), MS w b d msg T [] [] zero bs w → Calls Tryz.prog fr #[.pointer (some ⟨msg, 0, none⟩), bufR b] w fun e w' => e = .returned .nilIface ∧ ∃ loc tabs cells, Q tabs cells ∧ MS w b d msg T loc tabs cells rest w') →
    (∀ tabs cells, Q tabs cells → ∀ (B : Nat → Prop) (w : World) (msg : Nat), B msg → Blk w msg cells.toArray T → (∀ t ∈ tabs, TabAt B w t.1 t.2) → MsgOk B w (.iface PT (.pointer (some ⟨msg, 0, none⟩))) c m L) →
    RS w rr mb b d (Lib.beBytes 2 c ++ (Lib.beBytes 2 m ++ bs)) → (Lib.beBytes 2 c ++ (Lib.beBytes 2 m ++ bs)).length ≤ 900000000 →
    Calls Tryz.prog 60 #[.pointer (some ⟨rr, 0, none⟩), .int .u16 (ch : Int), .int .u32 (sz : Int)] w fun e w' => ∃ F, e = .returned (.tuple #[F, .nilIface]) ∧ Parsed rr mb b d rest (PmRes w ch c m L) F w w'
theorem pmw_mk {c m : Nat} {fr : FuncId} {T PT : TypeId} {zero : List Value} (h : ∀ c' m' : Nat, c' = c → m' = m → PmW c' m' fr T PT zero) : PmW c m fr T PT zero := h c m rfl rfl
/-- The end of the walk. -/
theorem pm_end {w w3 w5 : World} {rr mb b d ch c m : Nat} {l bs rest : List UInt8} {T PT : TypeId} {loc loc' : List (Nat × Value)} {tabs' : List (Value × List Fld)} {cells0 zero cells' : List Value} {L : List MArg} (h : RS w rr mb b d l)
    (hm3 : MS (w.alloc (.cells cells0.toArray 130)) b d w.heap.size 130 loc [] [.int .u16 (ch : Int), .int .u16 (c : Int), .int .u16 (m : Int), .nilIface] bs w3)
    (hm : MS (w3.alloc (.cells zero.toArray T)) b d w3.heap.size T loc' tabs' cells' rest w5)
    (hmsg : ∀ (B : Nat → Prop) (w : World) (msg : Nat), B msg → Blk w msg cells'.toArray T → (∀ t ∈ tabs', TabAt B w t.1 t.2) → MsgOk B w (.iface PT (.pointer (some ⟨msg, 0, none⟩))) c m L) :
    Parsed rr mb b d rest (PmRes w ch c m L) (.iface 124 (.pointer (some ⟨w.heap.size, 0, none⟩))) w (w5.setCell ⟨w.heap.size, 3, none⟩ (.iface PT (.pointer (some ⟨w3.heap.size, 0, none⟩)))) := by
  have hfr := pm_frame h hm3 hm
  obtain ⟨r1, r2, r3⟩ := pm_fin (MSG := .iface PT (.pointer (some ⟨w3.heap.size, 0, none⟩))) h hfr.2 hm.rd hfr.1
  have hks : Kept [w.heap.size] w5 (w5.setCell ⟨w.heap.size, 3, none⟩ (.iface PT (.pointer (some ⟨w3.heap.size, 0, none⟩)))) := (Kept.refl _ w5).setCell (by simp) _
  have hz : w.heap.size < w3.heap.size := Nat.lt_of_lt_of_le hm3.mlt hm3.kept.size
  have hbk := hm.blk.kept hks (by simp; omega)
  refine ⟨r1, r2, w.heap.size, _, rfl, Nat.le_refl _, r3, hmsg _ _ _ ⟨Nat.le_of_lt hz, hbk.lt⟩ hbk fun t ht => ?_⟩
  exact ((hm.tabs t ht).kept hks (fun x hx => by have hx : (w3.alloc _).heap.size ≤ x := hx; simp at hx ⊢; omega)).mono (fun x hx hlt => ⟨by have hx : (w3.alloc _).heap.size ≤ x := hx; simp at hx; omega, hlt⟩)
set_option maxHeartbeats 16000000 in
set_option maxRecDepth 100000 in
theorem pmw_0 : PmW 10 10 78 202 200 [.int .u8 0, .int .u8 0, .map none, .string ⟨#[]⟩, .string ⟨#[]⟩] ∧
    PmW 10 11 79 206 204 [.map none, .string ⟨#[]⟩, .string ⟨#[]⟩, .string ⟨#[]⟩] ∧
    PmW 10 20 80 209 207 [.string ⟨#[]⟩] ∧
    PmW 10 21 81 212 210 [.string ⟨#[]⟩] ∧
    PmW 10 30 82 215 213 [.int .u16 0, .int .u32 0, .int .u16 0] ∧
    PmW 10 31 83 217 216 [.int .u16 0, .int .u32 0, .int .u16 0] ∧
    PmW 10 40 84 220 218 [.string ⟨#[]⟩, .string ⟨#[]⟩, .bool false] ∧
    PmW 10 41 85 223 221 [.string ⟨#[]⟩] := by
  refine ⟨?_, ?_, ?_, ?_, ?_, ?_, ?_, ?_⟩ <;>
    (refine pmw_mk fun c m hc hm => ?_
     have HC := Lib.hid (And.intro hc hm); clear hc hm
     intro bs rest L Q ch sz w rr mb b d hread hmsg h hl
     have hm0 := pm_start h hl [.int .u16 (ch : Int), .int .u16 0, .int .u16 0, .nilIface] 130
     obtain ⟨w1, hw1⟩ : ∃ w1, w1 = w.alloc (.cells [.int .u16 (ch : Int), .int .u16 0, .int .u16 0, .nilIface].toArray 130) := ⟨_, rfl⟩
     have q1 : w1.cell? ⟨rr, 0, none⟩ = some (bufR b) := by rw [hw1]; exact pm_rr h hm0
     have HH := Lib.hid (And.intro h hm0); have HW := Lib.hid hw1; have HR := Lib.hid (And.intro hread hmsg)
     clear h hl hm0 hw1 hread hmsg
     go_enter Tryz.func60, Tryz.ntmps60
     go_wp2_with fail
     rw [show w.alloc _ = w1 from HW.out.symm]
     go_still_tail 8, (by kernel_rfl)
     change wpList _ _ _ _ _ w1.drew
     go_upto_region 4 with (go_at_call 77; have hq := ms_u16 c (by rw [HC.out.1]; decide) _ (by have := HH.out.2; rw [← HW.out] at this; exact this.drew) 1 _ rfl; refine hq.mono ?_; clear hq; rintro e w2 ⟨rfl, hm⟩; have q2 : w2.cell? ⟨rr, 0, none⟩ = some (bufR b) := by { rw [HW.out] at hm; exact pm_rr HH.out.1 hm }; have HM2 := Lib.hid hm; clear hm)
     go_still_tail 8, (by kernel_rfl)
     change wpList _ _ _ _ _ w2.drew
     go_upto_region 6 with (go_at_call 77; have hq := ms_u16 m (by rw [HC.out.2]; decide) _ HM2.out.drew 2 _ rfl; refine hq.mono ?_; clear hq; rintro e w3 ⟨rfl, hm⟩; have q3 : w3.cell? ⟨rr, 0, none⟩ = some (bufR b) := by { rw [HW.out] at hm; exact pm_rr HH.out.1 hm }; have c1 := hm.cell (i := 1) rfl; have c2 := hm.cell (i := 2) rfl; rw [HC.out.1, Int.cast_ofNat_Int] at c1; rw [HC.out.2, Int.cast_ofNat_Int] at c2; have q4 := fun (Z : Array Value) T => ((Kept.refl [] w3).alloc (.cells Z T)).cell q3 (by simp); have HM3 := Lib.hid hm; clear hm)
     go_wp2_with (have hq := HR.out.1 _ _ (pm_msg HH.out.1 (by have := HM3.out; rw [HW.out] at this; exact this) _); (with_reducible refine hq.mono ?_); clear hq; rintro e w5 ⟨rfl, loc, tabs, cells, hQ, hm⟩; have hfr := pm_frame HH.out.1 (by have := HM3.out; rw [HW.out] at this; exact this) hm; have z3 : w5.cell? ⟨w.heap.size, 3, none⟩ = some .nilIface := hfr.1.cell 3; have y3 := hfr.1.free 3; have H5 := Lib.hid (And.intro hm hQ); clear hm hfr hQ)
     go_ret2
     exact ⟨_, rfl, pm_end HH.out.1 (by have := HM3.out; rw [HW.out] at this; exact this) H5.out.1 (HR.out.2 _ _ H5.out.2)⟩)
set_option maxHeartbeats 16000000 in
set_option maxRecDepth 100000 in
theorem pmw_1 : PmW 10 50 86 226 224 [.int .u16 0, .string ⟨#[]⟩, .int .u16 0, .int .u16 0] ∧
    PmW 10 51 87 229 227 [] ∧
    PmW 10 60 88 232 230 [.string ⟨#[]⟩] ∧
    PmW 10 61 89 234 233 [] ∧
    PmW 10 70 90 237 235 [.string ⟨#[]⟩, .string ⟨#[]⟩] ∧
    PmW 10 71 91 239 238 [] ∧
    PmW 20 10 93 242 241 [.string ⟨#[]⟩] ∧
    PmW 20 11 94 244 243 [.string ⟨#[]⟩] := by
  refine ⟨?_, ?_, ?_, ?_, ?_, ?_, ?_, ?_⟩ <;>
    (refine pmw_mk fun c m hc hm => ?_
     have HC := Lib.hid (And.intro hc hm); clear hc hm
     intro bs rest L Q ch sz w rr mb b d hread hmsg h hl
     have hm0 := pm_start h hl [.int .u16 (ch : Int), .int .u16 0, .int .u16 0, .nilIface] 130
     obtain ⟨w1, hw1⟩ : ∃ w1, w1 = w.alloc (.cells [.int .u16 (ch : Int), .int .u16 0, .int .u16 0, .nilIface].toArray 130) := ⟨_, rfl⟩
     have q1 : w1.cell? ⟨rr, 0, none⟩ = some (bufR b) := by rw [hw1]; exact pm_rr h hm0
     have HH := Lib.hid (And.intro h hm0); have HW := Lib.hid hw1; have HR := Lib.hid (And.intro hread hmsg)
     clear h hl hm0 hw1 hread hmsg
     go_enter Tryz.func60, Tryz.ntmps60
     go_wp2_with fail
     rw [show w.alloc _ = w1 from HW.out.symm]
     go_still_tail 8, (by kernel_rfl)
     change wpList _ _ _ _ _ w1.drew
     go_upto_region 4 with (go_at_call 77; have hq := ms_u16 c (by rw [HC.out.1]; decide) _ (by have := HH.out.2; rw [← HW.out] at this; exact this.drew) 1 _ rfl; refine hq.mono ?_; clear hq; rintro e w2 ⟨rfl, hm⟩; have q2 : w2.cell? ⟨rr, 0, none⟩ = some (bufR b) := by { rw [HW.out] at hm; exact pm_rr HH.out.1 hm }; have HM2 := Lib.hid hm; clear hm)
     go_still_tail 8, (by kernel_rfl)
     change wpList _ _ _ _ _ w2.drew
     go_upto_region 6 with (go_at_call 77; have hq := ms_u16 m (by rw [HC.out.2]; decide) _ HM2.out.drew 2 _ rfl; refine hq.mono ?_; clear hq; rintro e w3 ⟨rfl, hm⟩; have q3 : w3.cell? ⟨rr, 0, none⟩ = some (bufR b) := by { rw [HW.out] at hm; exact pm_rr HH.out.1 hm }; have c1 := hm.cell (i := 1) rfl; have c2 := hm.cell (i := 2) rfl; rw [HC.out.1, Int.cast_ofNat_Int] at c1; rw [HC.out.2, Int.cast_ofNat_Int] at c2; have q4 := fun (Z : Array Value) T => ((Kept.refl [] w3).alloc (.cells Z T)).cell q3 (by simp); have HM3 := Lib.hid hm; clear hm)
     go_wp2_with (have hq := HR.out.1 _ _ (pm_msg HH.out.1 (by have := HM3.out; rw [HW.out] at this; exact this) _); (with_reducible refine hq.mono ?_); clear hq; rintro e w5 ⟨rfl, loc, tabs, cells, hQ, hm⟩; have hfr := pm_frame HH.out.1 (by have := HM3.out; rw [HW.out] at this; exact this) hm; have z3 : w5.cell? ⟨w.heap.size, 3, none⟩ = some .nilIface := hfr.1.cell 3; have y3 := hfr.1.free 3; have H5 := Lib.hid (And.intro hm hQ); clear hm hfr hQ)
     go_ret2
     exact ⟨_, rfl, pm_end HH.out.1 (by have := HM3.out; rw [HW.out] at this; exact this) H5.out.1 (HR.out.2 _ _ H5.out.2)⟩)
set_option maxHeartbeats 16000000 in
set_option maxRecDepth 100000 in
theorem pmw_2 : PmW 20 20 95 247 245 [.bool false] ∧
    PmW 20 21 96 249 248 [.bool false] ∧
    PmW 20 40 97 251 250 [.int .u16 0, .string ⟨#[]⟩, .int .u16 0, .int .u16 0] ∧
    PmW 20 41 98 253 252 [] ∧
    PmW 40 10 99 256 254 [.int .u16 0, .string ⟨#[]⟩, .string ⟨#[]⟩, .bool false, .bool false, .bool false, .bool false, .bool false, .map none] ∧
    PmW 40 11 100 258 257 [] ∧
    PmW 40 20 101 261 259 [.int .u16 0, .string ⟨#[]⟩, .bool false, .bool false] ∧
    PmW 40 21 102 263 262 [] := by
  refine ⟨?_, ?_, ?_, ?_, ?_, ?_, ?_, ?_⟩ <;>
    (refine pmw_mk fun c m hc hm => ?_
     have HC := Lib.hid (And.intro hc hm); clear hc hm
     intro bs rest L Q ch sz w rr mb b d hread hmsg h hl
     have hm0 := pm_start h hl [.int .u16 (ch : Int), .int .u16 0, .int .u16 0, .nilIface] 130
     obtain ⟨w1, hw1⟩ : ∃ w1, w1 = w.alloc (.cells [.int .u16 (ch : Int), .int .u16 0, .int .u16 0, .nilIface].toArray 130) := ⟨_, rfl⟩
     have q1 : w1.cell? ⟨rr, 0, none⟩ = some (bufR b) := by rw [hw1]; exact pm_rr h hm0
     have HH := Lib.hid (And.intro h hm0); have HW := Lib.hid hw1; have HR := Lib.hid (And.intro hread hmsg)
     clear h hl hm0 hw1 hread hmsg
     go_enter Tryz.func60, Tryz.ntmps60
     go_wp2_with fail
     rw [show w.alloc _ = w1 from HW.out.symm]
     go_still_tail 8, (by kernel_rfl)
     change wpList _ _ _ _ _ w1.drew
     go_upto_region 4 with (go_at_call 77; have hq := ms_u16 c (by rw [HC.out.1]; decide) _ (by have := HH.out.2; rw [← HW.out] at this; exact this.drew) 1 _ rfl; refine hq.mono ?_; clear hq; rintro e w2 ⟨rfl, hm⟩; have q2 : w2.cell? ⟨rr, 0, none⟩ = some (bufR b) := by { rw [HW.out] at hm; exact pm_rr HH.out.1 hm }; have HM2 := Lib.hid hm; clear hm)
     go_still_tail 8, (by kernel_rfl)
     change wpList _ _ _ _ _ w2.drew
     go_upto_region 6 with (go_at_call 77; have hq := ms_u16 m (by rw [HC.out.2]; decide) _ HM2.out.drew 2 _ rfl; refine hq.mono ?_; clear hq; rintro e w3 ⟨rfl, hm⟩; have q3 : w3.cell? ⟨rr, 0, none⟩ = some (bufR b) := by { rw [HW.out] at hm; exact pm_rr HH.out.1 hm }; have c1 := hm.cell (i := 1) rfl; have c2 := hm.cell (i := 2) rfl; rw [HC.out.1, Int.cast_ofNat_Int] at c1; rw [HC.out.2, Int.cast_ofNat_Int] at c2; have q4 := fun (Z : Array Value) T => ((Kept.refl [] w3).alloc (.cells Z T)).cell q3 (by simp); have HM3 := Lib.hid hm; clear hm)
     go_wp2_with (have hq := HR.out.1 _ _ (pm_msg HH.out.1 (by have := HM3.out; rw [HW.out] at this; exact this) _); (with_reducible refine hq.mono ?_); clear hq; rintro e w5 ⟨rfl, loc, tabs, cells, hQ, hm⟩; have hfr := pm_frame HH.out.1 (by have := HM3.out; rw [HW.out] at this; exact this) hm; have z3 : w5.cell? ⟨w.heap.size, 3, none⟩ = some .nilIface := hfr.1.cell 3; have y3 := hfr.1.free 3; have H5 := Lib.hid (And.intro hm hQ); clear hm hfr hQ)
     go_ret2
     exact ⟨_, rfl, pm_end HH.out.1 (by have := HM3.out; rw [HW.out] at this; exact this) H5.out.1 (HR.out.2 _ _ H5.out.2)⟩)
set_option maxHeartbeats 16000000 in
set_option maxRecDepth 100000 in
theorem pmw_3 : PmW 40 30 103 266 264 [.int .u16 0, .string ⟨#[]⟩, .string ⟨#[]⟩, .string ⟨#[]⟩, .bool false, .map none] ∧
    PmW 40 31 104 268 267 [] ∧
    PmW 40 40 105 270 269 [.int .u16 0, .string ⟨#[]⟩, .string ⟨#[]⟩, .string ⟨#[]⟩, .bool false, .map none] ∧
    PmW 40 51 106 272 271 [] ∧
    PmW 50 10 107 275 273 [.int .u16 0, .string ⟨#[]⟩, .bool false, .bool false, .bool false, .bool false, .bool false, .map none] ∧
    PmW 50 11 108 278 276 [.string ⟨#[]⟩, .int .u32 0, .int .u32 0] ∧
    PmW 50 20 109 281 279 [.int .u16 0, .string ⟨#[]⟩, .string ⟨#[]⟩, .string ⟨#[]⟩, .bool false, .map none] ∧
    PmW 50 21 110 283 282 [] := by
  refine ⟨?_, ?_, ?_, ?_, ?_, ?_, ?_, ?_⟩ <;>
    (refine pmw_mk fun c m hc hm => ?_
     have HC := Lib.hid (And.intro hc hm); clear hc hm
     intro bs rest L Q ch sz w rr mb b d hread hmsg h hl
     have hm0 := pm_start h hl [.int .u16 (ch : Int), .int .u16 0, .int .u16 0, .nilIface] 130
     obtain ⟨w1, hw1⟩ : ∃ w1, w1 = w.alloc (.cells [.int .u16 (ch : Int), .int .u16 0, .int .u16 0, .nilIface].toArray 130) := ⟨_, rfl⟩
     have q1 : w1.cell? ⟨rr, 0, none⟩ = some (bufR b) := by rw [hw1]; exact pm_rr h hm0
     have HH := Lib.hid (And.intro h hm0); have HW := Lib.hid hw1; have HR := Lib.hid (And.intro hread hmsg)
     clear h hl hm0 hw1 hread hmsg
     go_enter Tryz.func60, Tryz.ntmps60
     go_wp2_with fail
     rw [show w.alloc _ = w1 from HW.out.symm]
     go_still_tail 8, (by kernel_rfl)
     change wpList _ _ _ _ _ w1.drew
     go_upto_region 4 with (go_at_call 77; have hq := ms_u16 c (by rw [HC.out.1]; decide) _ (by have := HH.out.2; rw [← HW.out] at this; exact this.drew) 1 _ rfl; refine hq.mono ?_; clear hq; rintro e w2 ⟨rfl, hm⟩; have q2 : w2.cell? ⟨rr, 0, none⟩ = some (bufR b) := by { rw [HW.out] at hm; exact pm_rr HH.out.1 hm }; have HM2 := Lib.hid hm; clear hm)
     go_still_tail 8, (by kernel_rfl)
     change wpList _ _ _ _ _ w2.drew
     go_upto_region 6 with (go_at_call 77; have hq := ms_u16 m (by rw [HC.out.2]; decide) _ HM2.out.drew 2 _ rfl; refine hq.mono ?_; clear hq; rintro e w3 ⟨rfl, hm⟩; have q3 : w3.cell? ⟨rr, 0, none⟩ = some (bufR b) := by { rw [HW.out] at hm; exact pm_rr HH.out.1 hm }; have c1 := hm.cell (i := 1) rfl; have c2 := hm.cell (i := 2) rfl; rw [HC.out.1, Int.cast_ofNat_Int] at c1; rw [HC.out.2, Int.cast_ofNat_Int] at c2; have q4 := fun (Z : Array Value) T => ((Kept.refl [] w3).alloc (.cells Z T)).cell q3 (by simp); have HM3 := Lib.hid hm; clear hm)
     go_wp2_with (have hq := HR.out.1 _ _ (pm_msg HH.out.1 (by have := HM3.out; rw [HW.out] at this; exact this) _); (with_reducible refine hq.mono ?_); clear hq; rintro e w5 ⟨rfl, loc, tabs, cells, hQ, hm⟩; have hfr := pm_frame HH.out.1 (by have := HM3.out; rw [HW.out] at this; exact this) hm; have z3 : w5.cell? ⟨w.heap.size, 3, none⟩ = some .nilIface := hfr.1.cell 3; have y3 := hfr.1.free 3; have H5 := Lib.hid (And.intro hm hQ); clear hm hfr hQ)
     go_ret2
     exact ⟨_, rfl, pm_end HH.out.1 (by have := HM3.out; rw [HW.out] at this; exact this) H5.out.1 (HR.out.2 _ _ H5.out.2)⟩)
end Go.Proofs.YtkcdakohmfodjaaGreat
