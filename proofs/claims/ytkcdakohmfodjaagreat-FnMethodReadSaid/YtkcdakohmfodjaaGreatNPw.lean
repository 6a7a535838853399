/-
  Lemmas on the way to the statement of YtkcdakohmfodjaaGreatMethodRead, joined out of these texts: Pw. No condition.
-/
import Derived.Test.YtkcdakohmfodjaaGreatNToldV
namespace Go.Proofs.YtkcdakohmfodjaaGreat
open Go.RowKit
set_option linter.unusedVariables false
set_option linter.unusedSimpArgs false
/-- The walk of parseMethodFrame at the method m of class c, whose read is fr. -/
def PmW (c m : Nat) (fr : FuncId) (T PT : TypeId) (zero : List Value) : Prop :=
  ∀ (bs rest : List UInt8) (L : List MArg) (Q : List (Value × List Fld) → List Value → Prop) (ch sz : Nat) {w : World} {rr mb b d : Nat},
    (∀ (w : World) (msg : Nat), MS w b d msg T [] [] zero bs w → Calls Tryz.prog fr #[.pointer (some ⟨msg, 0, none⟩), bufR b] w fun e w' => e = .returned .nilIface ∧ ∃ loc tabs cells, Q tabs cells ∧ MS w b d msg T loc tabs cells rest w') →
    (∀ tabs cells, Q tabs cells → ∀ (B : Nat → Prop) (w : World) (msg : Nat), B msg → Blk w msg cells.toArray T → (∀ t ∈ tabs, TabAt B w t.1 t.2) → MsgOk B w (.iface PT (.pointer (some ⟨msg, 0, none⟩))) c m L) →
    RS w rr mb b d (Lib.beBytes 2 c ++ (Lib.beBytes 2 m ++ bs)) → (Lib.beBytes 2 c ++ (Lib.beBytes 2 m ++ bs)).length ≤ 900000000 →
    Calls Tryz.prog 60 #[.pointer (some ⟨rr, 0, none⟩), .int .u16 (ch : Int), .int .u32 (sz : Int)] w fun e w' => ∃ F, e = .returned (.tuple #[F, .nilIface]) ∧ Parsed rr mb b d rest (PmRes w ch c m L) F w w'
theorem pmw_mk {c m : Nat} {fr : FuncId} {T PT : TypeId} {zero : List Value} (h : ∀ c' m' : Nat, c' = c → m' = m → PmW c' m' fr T PT zero) : PmW c m fr T PT zero := h c m rfl rfl
/-- The end of the walk. -/
theorem pm_end {w w3 w5 : World} {rr mb b d ch c m : Nat} {l bs rest : List UInt8} {T PT : TypeId} {loc loc' : List (Nat × Value)} {tabs' : List (Value × List Fld)} {cells0 zero cells' : List Value} {L : List MArg} (h : RS w rr mb b d l)
    (hm3 : MS (w.alloc (.cells cells0.toArray 130)) b d w.heap.size 130 loc [] [.int .u16 (ch : Int), .int .u16 (c : Int), .int .u16 (m : Int), .nilIface] bs w3)
    (hm : MS (w3.alloc (.cells zero.toArray T)) b d w3.heap.size T loc' tabs' cells' rest w5)
    (hmsg : ∀ (B : Nat → Prop) (w : World) (msg : Nat), B msg → Blk w msg cells'.toArray T → (∀ t ∈ tabs', TabAt B w t.1 t.2) → MsgOk B w (.iface PT (.pointer (some ⟨msg, 0, none⟩))) c m L) :
    Parsed rr mb b d rest (PmRes w ch c m L) (.iface 124 (.pointer (some ⟨w.heap.size, 0, none⟩))) w (w5.setCell ⟨w.heap.size, 3, none⟩ (.iface PT (.pointer (some ⟨w3.heap.size, 0, none⟩)))) := by
  have hfr := pm_frame h hm3 hm
  obtain ⟨r1, r2, r3⟩ := pm_fin (MSG := .iface PT (.pointer (some ⟨w3.heap.size, 0, none⟩))) h hfr.2 hm.rd hfr.1
  have hks : Kept [w.heap.size] w5 (w5.setCell ⟨w.heap.size, 3, none⟩ (.iface PT (.pointer (some ⟨w3.heap.size, 0, none⟩)))) := (Kept.refl _ w5).setCell (by simp) _
  have hz : w.heap.size < w3.heap.size := Nat.lt_of_lt_of_le hm3.mlt hm3.kept.size
  have hbk := hm.blk.kept hks (by simp; omega)
  refine ⟨r1, r2, w.heap.size, _, rfl, Nat.le_refl _, r3, hmsg _ _ _ ⟨Nat.le_of_lt hz, hbk.lt⟩ hbk fun t ht => ?_⟩
  exact ((hm.tabs t ht).kept hks (fun x hx => by have hx : (w3.alloc _).heap.size ≤ x := hx; simp at hx ⊢; omega)).mono (fun x hx hlt => ⟨by have hx : (w3.alloc _).heap.size ≤ x := hx; simp at hx; omega, hlt⟩)
end Go.Proofs.YtkcdakohmfodjaaGreat
