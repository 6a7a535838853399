/-
  Lemmas on the way to the statement of YtkcdakohmfodjaaGreatHeader, joined out of these texts: GotH. No condition.
-/
import Derived.Test.YtkcdakohmfodjaaGreatNFrHead
import Derived.Test.YtkcdakohmfodjaaGreatNFrmOk
import Derived.Test.YtkcdakohmfodjaaGreatNOpenP
import Derived.Test.YtkcdakohmfodjaaGreatNRfix
namespace Go.Proofs.YtkcdakohmfodjaaGreat
open Go.RowKit
set_option linter.unusedVariables false
set_option linter.unusedSimpArgs false
theorem be4_num (n : Nat) (h : n < 4294967296) : Lib.beNat [UInt8.ofNat (n / 16777216), UInt8.ofNat (n / 65536), UInt8.ofNat (n / 256), UInt8.ofNat n] = n := by
  rw [← be4]; exact Lib.beNat_beBytes 4 n (by omega)
/-- What the reading of a header's frame gives. -/
def HeadGot (ch cl sz : Nat) (p : HP) (k : Nat) (base : Nat) (cs : List Value) (n : Nat) (w2 : World) : Prop :=
  n = k ∧ ∃ hv, cs = headCells ch cl sz p.norm hv ∧ FSl (fun b => base ≤ b) w2 hv (normFs p.hdr)
theorem frameB2_behind (ch : Nat) (p behind : List UInt8) : frameB 2 ch p ++ behind = 2 :: UInt8.ofNat (ch / 256) :: UInt8.ofNat ch :: UInt8.ofNat (p.length / 16777216) :: UInt8.ofNat (p.length / 65536) :: UInt8.ofNat (p.length / 256) :: UInt8.ofNat p.length :: (p ++ (206 :: behind)) := by
  rw [frameB_head]; simp
theorem got_head (p : HP) (hp : properP p = true) (hwf : WfP p) (ch cl sz : Nat) (hch : ch ≤ 65535) (hcl : cl < 65536) (hsz : sz < 18446744073709551616)
    (behind : List UInt8) (hbl : behind.length ≤ 100) (s : Value) (d0 : Nat) (w : World) (hs : BytesAt w s d0 (frameB 2 ch (headerB cl sz p) ++ behind)) : FrameGot s w (HeadGot ch cl sz p behind.length) := by
  have hlen := headerB_len cl sz hp
  unfold FrameGot
  refine (zzread_any s d0 _ w hs (by rw [List.length_append, frameB_length]; omega) (fun F v n w' => v = .nilIface ∧ n = behind.length ∧ Kept [] w w' ∧ ∃ f hd B, F = .iface 94 (.pointer (some ⟨f, 0, none⟩)) ∧
      Blk w' f (hfOf ch cl sz p hd) TH ∧ HdP B w' p hd) fun w2 rr mb b d hrs hrr hmb hbb hd hk => ?_).mono fun e w' hh => ?_
  · rw [frameB2_behind] at hrs
    have hbt := hrs.blt
    refine (frame_ok_2 rr mb b d _ _ _ _ _ _ _ behind w2 hrs (by unfold Small; simp; omega) (by unfold Small; omega)
      (fun F w3 => ∃ f hd, F = .iface 94 (.pointer (some ⟨f, 0, none⟩)) ∧ w2.heap.size < f ∧ Blk w3 f (hfOf ch cl sz p hd) TH ∧ HdP (fun x => w2.heap.size < x) w3 p hd)
      ?_ ?_).mono fun e w' h => ?_
    · rintro F w3 w4 ⟨f, hd, rfl, h1, h3, h4⟩ hk4
      exact ⟨f, hd, rfl, h1, h3.kept hk4 (nin2 (by omega) (by omega)), h4.kept hk4 (fun x hx => nin2 (by omega) (by omega))⟩
    · intro w3 hr3 hlt
      rw [be2_num ch (by omega), be4_num _ (by omega)]
      refine (phead_any p hp hwf ch cl sz hcl hsz rr mb b d (206 :: behind) w3 hr3 (by simp; omega) _ rfl (by omega)).mono fun e w' h => ?_
      obtain ⟨F, rfl, h1⟩ := h
      refine ⟨F, rfl, h1.rs, h1.kept, ?_⟩
      obtain ⟨hd, rfl, h2, h3⟩ := h1.res
      exact ⟨w3.heap.size, hd, rfl, hlt, h2, h3.mono (fun x hx _ => by omega)⟩
    · obtain ⟨F, rfl, h1, h2, f, hd, rfl, h3, h4, h5⟩ := h
      obtain ⟨ao, cb, hb, _⟩ := h1.buf
      exact ⟨_, .nilIface, _, behind.length, cb, rfl, hb, rfl, rfl, hk.trans h2 (by simp; omega), f, hd, _, rfl, h4, h5⟩
  · obtain ⟨F, v, n, rfl, rfl, rfl, hk, f, hd, B, rfl, h1, h2⟩ := hh
    refine ⟨_, behind.length, rfl, hk, ?_⟩
    refine (frame_head f ch cl sz p hp hwf hd B w' hch hcl h1 h2).mono fun e w2 h => ?_
    obtain ⟨hv, rfl, h3, h4⟩ := h
    exact ⟨_, rfl, head_length _ _ _ _ _, head_one _ _ _ _ _ h3.one, h4, rfl, hv, rfl, h3.mono (fun b hb _ => Nat.le_trans hk.size hb)⟩
end Go.Proofs.YtkcdakohmfodjaaGreat
