/-
  ParseFrame of a body's frame and of a heartbeat's.
-/
import Derived.Test.YtkcdakohmfodjaaGreatFrBody2
import Derived.Test.YtkcdakohmfodjaaGreatFrmOk
namespace Go.Proofs.YtkcdakohmfodjaaGreat
open Go.RowKit
set_option linter.unusedVariables false
set_option linter.unusedSimpArgs false

/-- What the reading of a body's frame gives. -/
def BodyGot (ch : Nat) (m : List UInt8) (base : Nat) (cs : List Value) (n : Nat) (w2 : World) : Prop :=
  n = 0 ∧ ∃ g c, cs = bodyCells ch (.slice (some ⟨g, 0, none⟩) m.length c) ∧ Row w2 (.slice (some ⟨g, 0, none⟩) m.length c) g m ∧ base ≤ g

/-- What the reading of a heartbeat's frame gives. -/
def BeatGot (base : Nat) (cs : List Value) (n : Nat) (w2 : World) : Prop := n = 0 ∧ cs = beatCells 0

theorem RS.buf_blk {w : World} {rr mb b d : Nat} (h : RS w rr mb b d []) : ∃ ao c, Blk w b #[.slice ao 0 c] 113 := by
  obtain ⟨ao, c, h1, _⟩ := h.buf
  exact ⟨ao, c, h1⟩

theorem got_body (ch : Nat) (m : List UInt8) (hch : ch ≤ 65535) (hm : m.length ≤ 65536) (s : Value) (d0 : Nat) (w : World) (hs : BytesAt w s d0 (frameB 3 ch m)) : FrameGot s w (BodyGot ch m) := by
  unfold FrameGot
  refine (zzread_any s d0 (frameB 3 ch m) w hs (by rw [frameB_length]; omega) (fun F v n w' => v = .nilIface ∧ n = 0 ∧ Kept [] w w' ∧ ∃ f g c, F = .iface 85 (.pointer (some ⟨f, 0, none⟩)) ∧
      Blk w' f #[.int .u16 (ch : Int), .slice (some ⟨g, 0, none⟩) m.length c] 87 ∧ Blk w' g (u8s m).toArray 5) fun w2 rr mb b d hrs hrr hmb hbb hd hk => ?_).mono fun e w' hh => ?_
  · rw [frameB3] at hrs
    have hbt := hrs.blt
    refine (frame_ok_3 rr mb b d _ _ _ _ _ _ (m ++ [206]) [] w2 hrs (by unfold Small; simp; omega) (by unfold Small; simp)
      (fun F w3 => ∃ f g c, F = .iface 85 (.pointer (some ⟨f, 0, none⟩)) ∧ w2.heap.size < f ∧ w2.heap.size < g ∧ Blk w3 f #[.int .u16 (ch : Int), .slice (some ⟨g, 0, none⟩) m.length c] 87 ∧ Blk w3 g (u8s m).toArray 5)
      ?_ ?_).mono fun e w' h => ?_
    · rintro F w3 w4 ⟨f, g, c, rfl, h1, h2, h3, h4⟩ hk4
      exact ⟨f, g, c, rfl, h1, h2, h3.kept hk4 (nin2 (by omega) (by omega)), h4.kept hk4 (nin2 (by omega) (by omega))⟩
    · intro w3 hr3 hlt
      rw [be2_num ch (by omega), be4_len m.length (by omega)]
      refine (body_parsed rr mb b d ch m.length m [206] w3 hr3 (by unfold Small; simp; omega) hm rfl).mono fun e w' h => ?_
      obtain ⟨F, rfl, h1⟩ := h
      refine ⟨F, rfl, h1.rs, h1.kept, ?_⟩
      obtain ⟨f, g, c, rfl, h2, h3, _, h4, h5⟩ := h1.res
      exact ⟨f, g, c, rfl, by omega, by omega, h4, h5⟩
    · obtain ⟨F, rfl, h1, h2, f, g, c, rfl, h3, h4, h5, h6⟩ := h
      obtain ⟨ao, cb, hb⟩ := h1.buf_blk
      exact ⟨_, .nilIface, ao, 0, cb, rfl, hb, rfl, rfl, hk.trans h2 (by simp; omega), f, g, c, rfl, h5, h6⟩
  · obtain ⟨F, v, n, rfl, rfl, rfl, hk, f, g, c, rfl, h1, h2⟩ := hh
    refine ⟨_, 0, rfl, hk, ?_⟩
    have hsrc : Src w' (.slice (some ⟨g, 0, none⟩) m.length c) g m := .inr ⟨⟨g, 0, none⟩, c, rfl, rfl, fun j v hj => by
      rw [addr_add, Nat.zero_add, h2.cell j]; simpa using hj⟩
    refine (frame_body f ch g _ m m.length rfl w' hch h1 hsrc ⟨_, _, rfl⟩ (by omega)).mono fun e w2 h => ?_
    obtain ⟨g2, c2, rfl, h3, h4, h5⟩ := h
    exact ⟨_, rfl, body_length _ _, body_one _ _ rfl, h5, rfl, g2, c2, rfl, h3, Nat.le_trans hk.size h4⟩

theorem frameB8 : frameB 8 0 [] = 8 :: 0 :: 0 :: 0 :: 0 :: 0 :: 0 :: [206] := by rw [frameB_head]; rfl

theorem got_beat (s : Value) (d0 : Nat) (w : World) (hs : BytesAt w s d0 (frameB 8 0 [])) : FrameGot s w BeatGot := by
  unfold FrameGot
  refine (zzread_any s d0 (frameB 8 0 []) w hs (by rw [frameB_length]; simp) (fun F v n w' => v = .nilIface ∧ n = 0 ∧ Kept [] w w' ∧ ∃ f, F = .iface 89 (.pointer (some ⟨f, 0, none⟩)) ∧
      Blk w' f #[.int .u16 0] 91) fun w2 rr mb b d hrs hrr hmb hbb hd hk => ?_).mono fun e w' hh => ?_
  · rw [frameB8] at hrs
    have hbt := hrs.blt
    refine (frame_ok_8 rr mb b d _ _ _ _ _ _ [206] [] w2 hrs (by unfold Small; simp) (by unfold Small; simp)
      (fun F w3 => ∃ f, F = .iface 89 (.pointer (some ⟨f, 0, none⟩)) ∧ w2.heap.size < f ∧ Blk w3 f #[.int .u16 0] 91)
      ?_ ?_).mono fun e w' h => ?_
    · rintro F w3 w4 ⟨f, rfl, h1, h3⟩ hk4
      exact ⟨f, rfl, h1, h3.kept hk4 (nin2 (by omega) (by omega))⟩
    · intro w3 hr3 hlt
      refine (parseBeat_ok rr w3).mono fun e w' h => ?_
      obtain ⟨rfl, rfl⟩ := h
      have hk3 : Kept [] w3 (w3.alloc (.cells #[.int .u16 0] 91)) := (Kept.refl [] w3).alloc _
      exact ⟨_, rfl, hr3.kept hk3 (by simp) (by simp) (by simp) (by simp), hk3.mono (by simp), w3.heap.size, rfl, hlt, Blk.new _ _ _⟩
    · obtain ⟨F, rfl, h1, h2, f, rfl, h3, h5⟩ := h
      obtain ⟨ao, cb, hb⟩ := h1.buf_blk
      exact ⟨_, .nilIface, ao, 0, cb, rfl, hb, rfl, rfl, hk.trans h2 (by simp; omega), f, rfl, h5⟩
  · obtain ⟨F, v, n, rfl, rfl, rfl, hk, f, rfl, h1⟩ := hh
    refine ⟨_, 0, rfl, hk, ?_⟩
    refine (frame_beat f 0 w' (by omega) h1.cell0).mono fun e w2 h => ?_
    obtain ⟨rfl, h5⟩ := h
    exact ⟨_, rfl, beat_length 0, beat_one 0, h5, rfl, rfl⟩

end Go.Proofs.YtkcdakohmfodjaaGreat
