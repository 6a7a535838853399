/-
  A body and a heartbeat, read: what the reader makes of a payload.
-/
import Derived.Test.YtkcdakohmfodjaaGreatShort
import Derived.Test.YtkcdakohmfodjaaGreatBe
namespace Go.Proofs.YtkcdakohmfodjaaGreat
open Go.RowKit
set_option linter.unusedVariables false
set_option linter.unusedSimpArgs false

/-- The reader at block rr: over the buffer at b (bytes in d), its limit at mb, which is 0: none. -/
structure RS (w : World) (rr mb b d : Nat) (l : List UInt8) : Prop where
  blk : Blk w rr #[.iface 111 (.pointer (some ⟨b, 0, none⟩)), .pointer (some ⟨mb, 0, none⟩)] 119
  max : Blk w mb #[.int .u32 0] 70
  buf : Buf w b d l
  bd : b ≠ d
  rb : rr ≠ b
  mb' : mb ≠ b
  dlt : d < w.heap.size

theorem RS.kept {S : List Nat} {w w' : World} {rr mb b d : Nat} {l : List UInt8} (h : RS w rr mb b d l) (hk : Kept S w w') (h1 : rr ∉ S) (h2 : mb ∉ S) (h3 : b ∉ S) (h4 : d ∉ S) : RS w' rr mb b d l :=
  ⟨h.blk.kept hk h1, h.max.kept hk h2, h.buf.kept hk h3 h4, h.bd, h.rb, h.mb', Nat.lt_of_lt_of_le h.dlt hk.size⟩

theorem RS.step {S : List Nat} {w w' : World} {rr mb b d : Nat} {l l' : List UInt8} (h : RS w rr mb b d l) (hk : Kept S w w') (h1 : rr ∉ S) (h2 : mb ∉ S) (hb : Buf w' b d l') : RS w' rr mb b d l' :=
  ⟨h.blk.kept hk h1, h.max.kept hk h2, hb, h.bd, h.rb, h.mb', Nat.lt_of_lt_of_le h.dlt hk.size⟩

theorem RS.blt {w : World} {rr mb b d : Nat} {l : List UInt8} (h : RS w rr mb b d l) : b < w.heap.size := by
  obtain ⟨_, _, h1, _⟩ := h.buf; exact h1.lt

theorem Rd.buf_inv {w : World} {b d : Nat} {l : List UInt8} {ps Ns} (h : Rd w (.iface 111 (.pointer (some ⟨b, 0, none⟩))) ps d Ns l) : Buf w b d l := by
  generalize hr : (Value.iface 111 (.pointer (some ⟨b, 0, none⟩))) = r at h
  cases h with
  | buf b' d l hb hne => simp at hr; subst hr; exact hb
  | lim R ps d Ns l q N => simp at hr

theorem avail_nil (l : List UInt8) : avail [] l = l.length := rfl

set_option maxHeartbeats 400000 in
theorem parseBody_ok (rr mb b d ch n : Nat) (l : List UInt8) (w : World) (h : RS w rr mb b d l) (hl : Small l.length) (hn : n ≤ 65536) (h0 : 0 < n) (hnl : n ≤ l.length) :
    Calls Tryz.prog 62 #[.pointer (some ⟨rr, 0, none⟩), .int .u16 (ch : Int), .int .u32 (n : Int)] w fun e w' =>
      ∃ f g, e = .returned (.tuple #[.iface 85 (.pointer (some ⟨f, 0, none⟩)), .nilIface]) ∧ w.heap.size ≤ f ∧ w.heap.size ≤ g ∧
        Blk w' f #[.int .u16 (ch : Int), .slice (some ⟨g, 0, none⟩) n n] 87 ∧ Blk w' g (u8s (l.take n)).toArray 5 ∧ RS w' rr mb b d (l.drop n) ∧ Kept [b] w w' := by
  have hr0 : w.cell? ⟨rr, 0, none⟩ = some (.iface 111 (.pointer (some ⟨b, 0, none⟩))) := h.blk.cell 0
  have hlt : rr < w.heap.size := h.blk.lt
  have hkp : Kept [] w (w.alloc (.cells #[.int .u16 (ch : Int), .slice none 0 0] 87)) := (Kept.refl [] w).alloc _
  have hnb : Blk (w.alloc (.cells #[.int .u16 (ch : Int), .slice none 0 0] 87)) w.heap.size #[.int .u16 (ch : Int), .slice none 0 0] 87 := Blk.new w _ _
  have h2 := h.kept hkp (by simp) (by simp) (by simp) (by simp)
  have hc := readBytes_any (.buf b d l h2.buf h2.bd) hl n hn h0 hnl h2.dlt
  have hbn : w.heap.size ≠ b := by have := h.blt; omega
  have HC := Lib.hid hc; have HN := Lib.hid (And.intro hnb hkp); have H := Lib.hid h
  clear hc hnb hkp h2 h
  have hw : IntKind.i64.wrap (n : Int) = n := by rw [IntKind.wrap_i64]; omega
  go_enter Tryz.func62, Tryz.ntmps62
  go_wp2_with (go_at_call 148; refine HC.out.mono ?_; rintro e w2 ⟨g, rfl, hg0, hg1, hg2, hg3⟩; have hf2 := HN.out.1.kept hg3 (by simpa using hbn); have q1 : w2.cell? ⟨w.heap.size, 1, none⟩ = some (.slice none 0 0) := hf2.cell 1; have q2 := hf2.free 1; have HF := Lib.hid (And.intro hf2 (And.intro hg0 (And.intro hg1 (And.intro hg2 hg3)))); clear hf2 hg0 hg1 hg2 hg3)
  go_ret2
  obtain ⟨k1, k2, k3, k4, k5⟩ := HF.out
  have hk := (HN.out.2.mono (S' := [b]) (by simp)).trans k5 (by simp)
  have hg2 : w.heap.size + 1 ≤ g := by simpa using k2
  have k6 : Kept [b] w (w2.setCell ⟨w.heap.size, 1, none⟩ (.slice (some ⟨g, 0, none⟩) n n)) := hk.setCell (by simp) _
  have hb2 : Buf (w2.setCell ⟨w.heap.size, 1, none⟩ (.slice (some ⟨g, 0, none⟩) n n)) b d (l.drop n) := by
    refine Buf.kept k4.buf_inv ((Kept.refl [w.heap.size] w2).setCell (by simp) _) (by simpa using Ne.symm hbn) ?_
    have := H.out.dlt; simp; omega
  refine ⟨w.heap.size, g, rfl, Nat.le_refl _, by omega, k1.setCell 1 _, k3.setCell_other (by simp; omega) _, H.out.step k6 ?_ ?_ hb2, k6⟩
  · simpa using H.out.rb
  · simpa using H.out.mb'

set_option maxHeartbeats 400000 in
theorem parseBody_none (rr mb b d ch : Nat) (l : List UInt8) (w : World) (h : RS w rr mb b d l) :
    Calls Tryz.prog 62 #[.pointer (some ⟨rr, 0, none⟩), .int .u16 (ch : Int), .int .u32 0] w fun e w' =>
      ∃ f g, e = .returned (.tuple #[.iface 85 (.pointer (some ⟨f, 0, none⟩)), .nilIface]) ∧ w.heap.size ≤ f ∧ w.heap.size ≤ g ∧
        Blk w' f #[.int .u16 (ch : Int), .slice (some ⟨g, 0, none⟩) 0 0] 87 ∧ Blk w' g #[] 5 ∧ RS w' rr mb b d l ∧ Kept [] w w' := by
  have hr0 : w.cell? ⟨rr, 0, none⟩ = some (.iface 111 (.pointer (some ⟨b, 0, none⟩))) := h.blk.cell 0
  have hlt : rr < w.heap.size := h.blk.lt
  have hz := readBytes_zero (.iface 111 (.pointer (some ⟨b, 0, none⟩)))
  have H := Lib.hid h
  have HZ := Lib.hid hz
  clear h hz
  go_enter Tryz.func62, Tryz.ntmps62
  go_wp2_with (go_at_call 148; refine (HZ.out _).mono ?_; rintro e w2 ⟨rfl, rfl⟩)
  go_ret2
  have hk : Kept [] w ((w.alloc (.cells #[.int .u16 (ch : Int), .slice (some ⟨w.heap.size + 1, 0, none⟩) 0 0] 87)).alloc (.cells #[] 5)) := ((Kept.refl [] w).alloc _).alloc _
  refine ⟨w.heap.size, w.heap.size + 1, rfl, Nat.le_refl _, by omega, (Blk.new w _ _).alloc _, Blk.new_at (by simp), H.out.kept hk (by simp) (by simp) (by simp) (by simp), hk⟩

set_option maxHeartbeats 400000 in
theorem parseBody_short (rr mb b d ch n : Nat) (l : List UInt8) (w : World) (h : RS w rr mb b d l) (hn : n ≤ 65536) (hnl : l.length < n) :
    Calls Tryz.prog 62 #[.pointer (some ⟨rr, 0, none⟩), .int .u16 (ch : Int), .int .u32 (n : Int)] w fun e w' =>
      ∃ v, Err v ∧ e = .returned (.tuple #[.nilIface, v]) ∧ Kept [b] w w' ∧ HasB w' b := by
  have hr0 : w.cell? ⟨rr, 0, none⟩ = some (.iface 111 (.pointer (some ⟨b, 0, none⟩))) := h.blk.cell 0
  have hlt : rr < w.heap.size := h.blk.lt
  have hkp : Kept [] w (w.alloc (.cells #[.int .u16 (ch : Int), .slice none 0 0] 87)) := (Kept.refl [] w).alloc _
  have hnb : Blk (w.alloc (.cells #[.int .u16 (ch : Int), .slice none 0 0] 87)) w.heap.size #[.int .u16 (ch : Int), .slice none 0 0] 87 := Blk.new w _ _
  have h2 := h.kept hkp (by simp) (by simp) (by simp) (by simp)
  have hc := readBytes_short h2.buf h2.bd n hn hnl h2.dlt
  have hbn : w.heap.size ≠ b := by have := h.blt; omega
  have HC := Lib.hid hc; have HN := Lib.hid (And.intro hnb hkp); have H := Lib.hid h
  clear hc hnb hkp h2 h
  have hw : IntKind.i64.wrap (n : Int) = n := by rw [IntKind.wrap_i64]; omega
  go_enter Tryz.func62, Tryz.ntmps62
  go_wp2_with (go_at_call 148; refine HC.out.mono ?_; rintro e w2 ⟨v, hv, rfl, hg3, hg4⟩; have hf2 := HN.out.1.kept hg3 (by simpa using hbn); have q1 : w2.cell? ⟨w.heap.size, 1, none⟩ = some (.slice none 0 0) := hf2.cell 1; have q2 := hf2.free 1; have HF := Lib.hid (And.intro hg3 hg4); clear hf2 hg3 hg4; rcases hv with rfl | rfl)
  all_goals
    go_ret2
    refine ⟨_, by first | exact .inl rfl | exact .inr rfl, rfl, ((HN.out.2.mono (S' := [b]) (by simp)).trans HF.out.1 (by simp)).setCell (by simp) _, HF.out.2.kept ((Kept.refl [w.heap.size] w2).setCell (by simp) _) (by simpa using Ne.symm hbn)⟩

set_option maxHeartbeats 400000 in
theorem parseBeat_ok (rr : Nat) (w : World) :
    Calls Tryz.prog 63 #[.pointer (some ⟨rr, 0, none⟩), .int .u16 0, .int .u32 0] w fun e w' =>
      e = .returned (.tuple #[.iface 89 (.pointer (some ⟨w.heap.size, 0, none⟩)), .nilIface]) ∧ w.alloc (.cells #[.int .u16 0] 91) = w' := by
  go_enter Tryz.func63, Tryz.ntmps63
  go_wp2
  go_ret2
  exact ⟨rfl, rfl⟩

end Go.Proofs.YtkcdakohmfodjaaGreat
