/-
  The plain buffer: its length, its bytes, a read out of it, a write onto it.
-/
import Derived.Test.YtkcdakohmfodjaaGreatProg
import Derived.Test.YtkcdakohmfodjaaGreatApp
namespace Go.Proofs.YtkcdakohmfodjaaGreat
open Go.RowKit
set_option linter.unusedVariables false
set_option linter.unusedSimpArgs false

set_option maxHeartbeats 400000 in
theorem len_any (b : Nat) (ao : Option Addr) (n c : Nat) (w : World) (h0 : w.cell? ⟨b, 0, none⟩ = some (.slice ao n c)) :
    Calls Tryz.prog 44 #[.pointer (some ⟨b, 0, none⟩)] w fun e w' => e = .returned (.int .i64 n) ∧ w = w' := by
  go_enter Tryz.func44, Tryz.ntmps44
  go_wp2
  go_ret
  exact ⟨rfl, rfl⟩

set_option maxHeartbeats 400000 in
theorem bytes_any (b : Nat) (v : Value) (w : World) (h0 : w.cell? ⟨b, 0, none⟩ = some v) :
    Calls Tryz.prog 75 #[.pointer (some ⟨b, 0, none⟩)] w fun e w' => e = .returned v ∧ w = w' := by
  go_enter Tryz.func75, Tryz.ntmps75
  go_wp2
  go_ret
  exact ⟨rfl, rfl⟩

set_option maxHeartbeats 400000 in
theorem read_end (b : Nat) (ao bo : Option Addr) (c n m : Nat) (w : World) (h0 : w.cell? ⟨b, 0, none⟩ = some (.slice ao 0 c)) (hn : ((n : Int) == 0) = false) :
    Calls Tryz.prog 237 #[.pointer (some ⟨b, 0, none⟩), .slice bo n m] w fun e w' =>
      e = .returned (.tuple #[.int .i64 0, .iface 194 (.string ⟨#[69, 79, 70]⟩)]) ∧ w = w' := by
  go_enter Tryz.func237, Tryz.ntmps237
  go_wp2
  go_ret2
  exact ⟨rfl, rfl⟩

/-- The buffer at block b, whose bytes lie in block d, is about to give l. -/
def Buf (w : World) (b d : Nat) (l : List UInt8) : Prop :=
  ∃ ao c, Blk w b #[.slice ao l.length c] 113 ∧ l.length ≤ c ∧
    (l ≠ [] → ∃ off, ao = some ⟨d, off, none⟩ ∧ ∀ j v, (u8s l)[j]? = some v → w.cell? ⟨d, off + j, none⟩ = some v)

theorem Buf.kept {S : List Nat} {w w' : World} {b d : Nat} {l : List UInt8} (h : Buf w b d l) (hk : Kept S w w') (hb : b ∉ S) (hd : d ∉ S) : Buf w' b d l := by
  obtain ⟨ao, c, h1, h2, h3⟩ := h
  refine ⟨ao, c, h1.kept hk hb, h2, fun hl => ?_⟩
  obtain ⟨off, h4, h5⟩ := h3 hl
  exact ⟨off, h4, fun j v hj => hk.cell (h5 j v hj) hd⟩

theorem min_nat (a b : Nat) : Nat.min a b = min a b := rfl

set_option maxHeartbeats 400000 in
theorem read_some {te : TypeId} (b d off c g o n m : Nat) (l : List UInt8) (cur : List Value) (w : World) (hb : Blk w b #[.slice (some ⟨d, off, none⟩) l.length c] 113) (hc : l.length ≤ c)
    (hs : ∀ j v, (u8s l)[j]? = some v → w.cell? ⟨d, off + j, none⟩ = some v) (hl : 0 < l.length) (hg : Blk w g cur.toArray te) (hfit : o + n ≤ cur.length) (hbg : b ≠ g) (k : Nat) (hk : k = min l.length n) :
    Calls Tryz.prog 237 #[.pointer (some ⟨b, 0, none⟩), .slice (some ⟨g, o, none⟩) n m] w fun e w' => e = .returned (.tuple #[.int .i64 (k : Int), .nilIface]) ∧
      ∃ w1, Blk w1 g (splice cur o (u8s (l.take k))).toArray te ∧ Kept [g] w w1 ∧
        w' = w1.setCell ⟨b, 0, none⟩ (.slice (if c = k then some ⟨d, off, none⟩ else some ⟨d, off + k, none⟩) (l.length - k) (c - k)) := by
  have h0 := hb.cell0
  have hne : ((l.length : Int) == 0) = false := by simp only [beq_eq_false_iff_ne]; omega
  have hk1 : (k : Int) ≤ l.length := by omega
  have hk2 : (l.length : Int) ≤ c := by omega
  have hs' : ∀ j v, (u8s (l.take k))[j]? = some v → w.cell? ((⟨d, off, none⟩ : Addr).add j) = some v := fun j v hj => by
    rw [addr_add]
    apply hs
    rw [u8s_get] at hj ⊢
    rw [List.getElem?_take] at hj
    split at hj
    · exact hj
    · simp at hj
  have HS := Lib.hid hs'
  have HK := Lib.hid hk; clear hk hs'
  go_enter Tryz.func237, Tryz.ntmps237
  go_wp2_with (with_reducible refine wpList_copy2 rfl (.tmp 17) (.tmp 21) 22 22 rfl 5 Tryz.underlying22 (by kernel_rfl) g o n m ⟨d, off, none⟩ l.length c rfl rfl cur te hg (u8s (l.take k)) k ?hn HK.out ?hsrc ?hfit (u8s_one _) ?_)
  case hn => simp; omega
  case hsrc => exact HS.out
  case hfit => have := HK.out; omega
  intro w1 hg1 hk1
  have hb1 := hb.kept hk1 (by simp [hbg])
  have h0 := hb1.cell0
  have hf := hb1.free 0
  have HP := Lib.hid (And.intro hg1 hk1)
  clear hg1 hk1 hs hb hg hne hb1
  go_wp2
  all_goals
    go_ret2
    exact ⟨rfl, w1, HP.out.1, HP.out.2, rfl⟩

theorem u8s_drop_get {l : List UInt8} {k j : Nat} {v : Value} (h : (u8s (l.drop k))[j]? = some v) : (u8s l)[k + j]? = some v := by
  rw [u8s_get] at h ⊢
  rw [List.getElem?_drop] at h
  exact h

/-- A read out of a buffer that is not empty: as many bytes as there are, or as there is room for. -/
theorem read_any {te : TypeId} (b d g o n m : Nat) (l : List UInt8) (cur : List Value) (w : World) (hb : Buf w b d l) (hl : l ≠ []) (hg : Blk w g cur.toArray te) (hfit : o + n ≤ cur.length)
    (hbg : b ≠ g) (hbd : b ≠ d) (hdg : d ≠ g) (k : Nat) (hk : k = min l.length n) :
    Calls Tryz.prog 237 #[.pointer (some ⟨b, 0, none⟩), .slice (some ⟨g, o, none⟩) n m] w fun e w' => e = .returned (.tuple #[.int .i64 (k : Int), .nilIface]) ∧
      Buf w' b d (l.drop k) ∧ Blk w' g (splice cur o (u8s (l.take k))).toArray te ∧ Kept [b, g] w w' := by
  obtain ⟨ao, c, h1, h2, h3⟩ := hb
  obtain ⟨off, rfl, h5⟩ := h3 hl
  refine (read_some b d off c g o n m l cur w h1 h2 h5 (List.length_pos_iff.2 hl) hg hfit hbg k hk).mono fun e w' h => ?_
  obtain ⟨rfl, w1, hg1, hk1, rfl⟩ := h
  have hb1 : Blk w1 b #[.slice (some ⟨d, off, none⟩) l.length c] 113 := h1.kept hk1 (by simp [hbg])
  refine ⟨rfl, ⟨if c = k then some ⟨d, off, none⟩ else some ⟨d, off + k, none⟩, c - k, ?_, by simp; omega, fun hne => ?_⟩, hg1.setCell_other (by simpa using Ne.symm hbg) _, ?_⟩
  · have := hb1.setCell 0 (.slice (if c = k then some ⟨d, off, none⟩ else some ⟨d, off + k, none⟩) (l.length - k) (c - k))
    simpa using this
  · have hlt : k < l.length := by
      have : 0 < (l.drop k).length := List.length_pos_iff.2 hne
      simp at this; omega
    refine ⟨off + k, by rw [if_neg (by omega)], fun j v hj => ?_⟩
    have hc := hk1.cell (h5 (k + j) v (u8s_drop_get hj)) (by simp [hdg])
    rw [World.cell?_of_block (Below.heap_setCell _ _ _ _ (by simpa using Ne.symm hbd))]
    rw [Nat.add_assoc]; exact hc
  · exact (hk1.mono (by simp)).setCell (by simp) _

theorem read_none (b d n m : Nat) (bo : Option Addr) (w : World) (hb : Buf w b d []) (hn : 0 < n) :
    Calls Tryz.prog 237 #[.pointer (some ⟨b, 0, none⟩), .slice bo n m] w fun e w' =>
      e = .returned (.tuple #[.int .i64 0, .iface 194 (.string ⟨#[69, 79, 70]⟩)]) ∧ w = w' := by
  obtain ⟨ao, c, h1, _, _⟩ := hb
  exact read_end b ao bo c n m w h1.cell0 (by simp only [beq_eq_false_iff_ne]; omega)

theorem blen_any (b d : Nat) (l : List UInt8) (w : World) (hb : Buf w b d l) :
    Calls Tryz.prog 44 #[.pointer (some ⟨b, 0, none⟩)] w fun e w' => e = .returned (.int .i64 (l.length : Int)) ∧ w = w' := by
  obtain ⟨ao, c, h1, _, _⟩ := hb
  exact len_any b ao l.length c w h1.cell0

end Go.Proofs.YtkcdakohmfodjaaGreat
