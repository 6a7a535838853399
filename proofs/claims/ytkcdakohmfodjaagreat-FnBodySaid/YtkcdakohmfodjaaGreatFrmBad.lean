/-
  ReadFrame that fails: an unknown kind, a payload that is cut, a mark that is cut or another. (Printed by wip/gen/frame.py.)
-/
import Derived.Test.YtkcdakohmfodjaaGreatFrm
namespace Go.Proofs.YtkcdakohmfodjaaGreat
open Go.RowKit
set_option linter.unusedVariables false
set_option linter.unusedSimpArgs false

set_option maxHeartbeats 1000000 in
set_option maxRecDepth 100000 in
theorem frame_bad (rr mb b d : Nat) (c0 c1 s0 s1 s2 s3 : UInt8) (rest : List UInt8) (w : World) (h : RS w rr mb b d (3 :: c0 :: c1 :: s0 :: s1 :: s2 :: s3 :: rest)) (hl : Small (rest.length + 7)) (z : UInt8) (rest' : List UInt8) (hz : ((z.toNat : Int) != 206) = true) (hl' : Small (rest'.length + 1))
    (hp : ∀ w2, RS w2 rr mb b d rest → w.heap.size < w2.heap.size → Calls Tryz.prog 62 #[.pointer (some ⟨rr, 0, none⟩), .int .u16 (Lib.beNat [c0, c1] : Nat), .int .u32 (Lib.beNat [s0, s1, s2, s3] : Nat)] w2 fun e w' =>
      ∃ F, e = .returned (.tuple #[F, .nilIface]) ∧ Parsed rr mb b d (z :: rest') (fun _ _ => True) F w2 w') :
    Calls Tryz.prog 43 #[.pointer (some ⟨rr, 0, none⟩)] w fun e w' => ∃ v, Err' v ∧ e = .returned (.tuple #[.nilIface, v]) ∧ Kept [b] w w' ∧ HasB w' b := by
  have hr0 : w.cell? ⟨rr, 0, none⟩ = some (.iface 111 (.pointer (some ⟨b, 0, none⟩))) := h.blk.cell 0
  have hlt : rr < w.heap.size := h.blk.lt
  have hmt : mb < w.heap.size := h.max.lt
  have hbt : b < w.heap.size := h.blt
  have hdt : d < w.heap.size := h.dlt
  have hc := head_read rr mb b d 3 c0 c1 s0 s1 s2 s3 rest w h hl
  generalize hsc : w.heap.size = sc at *
  have hsb : sc ≠ b := by omega
  have hsd : sc ≠ d := by omega
  have hsr : rr ≠ sc := by omega
  have hsm : mb ≠ sc := by omega
  have HC := Lib.hid hc; have HS := Lib.hid hsc
  have HP := Lib.hid hp; have HL := Lib.hid hl'
  clear hp hl'
  clear hc h hl hbt hdt
  go_enter Tryz.func43, Tryz.ntmps43
  go_wp2
  go_region_with (go_at_call 56; refine (HC.out 1).mono ?_; rintro e w1 ⟨rfl, hH⟩)
  obtain ⟨⟨q0, q1, q2, q3, q4, q5, q6⟩, r0, r1, r2⟩ := hH.facts
  have HH := Lib.hid hH; clear hH
  go_wp2_with (first
    | (go_at_call 57; refine HH.out.be16.mono ?_; rintro e w' ⟨rfl, k1, rfl⟩)
    | (go_at_call 58; refine (HH.out.be32 _).mono ?_; rintro e w' ⟨rfl, k2, rfl⟩)
    | (go_at_call 62; refine (HP.out _ (HH.out.2.1.kept (drewN_kept _ _ []) (by simp) (by simp) (by simp) (by simp)) (Nat.lt_of_lt_of_le (by have := HH.out.1.lt; exact this) (drewN_kept _ _ []).size)).mono ?_; rintro e w3 ⟨F, rfl, hF⟩; have hG := Parsed.later HH.out _ rfl hF hsb; have t0 := hG.1; have HG := Lib.hid hG.2; have HF := Lib.hid hF; clear hG hF))
  go_region_with (go_at_call 56; refine (tail_read sc rr mb b d z _ rest' w3 HF.out.rs HL.out HG.out.1 (by simp) hsb hsd hsr hsm 1).mono ?_; rintro e w4 ⟨rfl, hT1, hT2, hT3⟩)
  all_goals
    have HT := Lib.hid (And.intro hT2 hT1.buf.has); clear hT1 hT2
    go_wp2_with (go_at_call 64; refine (errFrame_any _).mono ?_; rintro e w' ⟨rfl, o, rfl⟩)
    go_ret2
    refine ⟨_, .inr ⟨_, rfl⟩, rfl, ?_, HT.out.2.kept ((Kept.refl [] _).alloc _) (by simp)⟩
    refine Kept.alloc ?_ _
    exact (HG.out.2.trans HT.out.1 (fun x hx => .inl hx)).mono (by simp [hsc])

set_option maxHeartbeats 1000000 in
set_option maxRecDepth 100000 in
theorem frame_cut (rr mb b d : Nat) (c0 c1 s0 s1 s2 s3 : UInt8) (rest : List UInt8) (w : World) (h : RS w rr mb b d (3 :: c0 :: c1 :: s0 :: s1 :: s2 :: s3 :: rest)) (hl : Small (rest.length + 7))
    (hp : ∀ w2, RS w2 rr mb b d rest → w.heap.size < w2.heap.size → Calls Tryz.prog 62 #[.pointer (some ⟨rr, 0, none⟩), .int .u16 (Lib.beNat [c0, c1] : Nat), .int .u32 (Lib.beNat [s0, s1, s2, s3] : Nat)] w2 fun e w' =>
      ∃ F, e = .returned (.tuple #[F, .nilIface]) ∧ Parsed rr mb b d ([]) (fun _ _ => True) F w2 w') :
    Calls Tryz.prog 43 #[.pointer (some ⟨rr, 0, none⟩)] w fun e w' => ∃ v, Err' v ∧ e = .returned (.tuple #[.nilIface, v]) ∧ Kept [b] w w' ∧ HasB w' b := by
  have hr0 : w.cell? ⟨rr, 0, none⟩ = some (.iface 111 (.pointer (some ⟨b, 0, none⟩))) := h.blk.cell 0
  have hlt : rr < w.heap.size := h.blk.lt
  have hmt : mb < w.heap.size := h.max.lt
  have hbt : b < w.heap.size := h.blt
  have hdt : d < w.heap.size := h.dlt
  have hc := head_read rr mb b d 3 c0 c1 s0 s1 s2 s3 rest w h hl
  generalize hsc : w.heap.size = sc at *
  have hsb : sc ≠ b := by omega
  have hsd : sc ≠ d := by omega
  have hsr : rr ≠ sc := by omega
  have hsm : mb ≠ sc := by omega
  have HC := Lib.hid hc; have HS := Lib.hid hsc
  have HP := Lib.hid hp
  clear hp
  clear hc h hl hbt hdt
  go_enter Tryz.func43, Tryz.ntmps43
  go_wp2
  go_region_with (go_at_call 56; refine (HC.out 1).mono ?_; rintro e w1 ⟨rfl, hH⟩)
  obtain ⟨⟨q0, q1, q2, q3, q4, q5, q6⟩, r0, r1, r2⟩ := hH.facts
  have HH := Lib.hid hH; clear hH
  go_wp2_with (first
    | (go_at_call 57; refine HH.out.be16.mono ?_; rintro e w' ⟨rfl, k1, rfl⟩)
    | (go_at_call 58; refine (HH.out.be32 _).mono ?_; rintro e w' ⟨rfl, k2, rfl⟩)
    | (go_at_call 62; refine (HP.out _ (HH.out.2.1.kept (drewN_kept _ _ []) (by simp) (by simp) (by simp) (by simp)) (Nat.lt_of_lt_of_le (by have := HH.out.1.lt; exact this) (drewN_kept _ _ []).size)).mono ?_; rintro e w3 ⟨F, rfl, hF⟩; have hG := Parsed.later HH.out _ rfl hF hsb; have t0 := hG.1; have HG := Lib.hid hG.2; have HF := Lib.hid hF; clear hG hF))
  go_region_with (go_at_call 56; refine (tail_short sc rr mb b d _ w3 HF.out.rs HG.out.1 (by simp) hsb hsd 1).mono ?_; rintro e w4 ⟨v, hv, rfl, hT2⟩)
  all_goals
    have HT := Lib.hid hT2; clear hT2
    rcases hv with rfl | rfl
  all_goals
    go_wp2
    go_ret2
    refine ⟨_, .inl (by first | exact .inl rfl | exact .inr rfl), rfl, ?_, HT.out.2⟩
    exact (HG.out.2.trans HT.out.1 (fun x hx => .inl hx)).mono (by simp [hsc])

set_option maxHeartbeats 1000000 in
set_option maxRecDepth 100000 in
theorem frame_err (rr mb b d : Nat) (c0 c1 s0 s1 s2 s3 : UInt8) (rest : List UInt8) (w : World) (h : RS w rr mb b d (3 :: c0 :: c1 :: s0 :: s1 :: s2 :: s3 :: rest)) (hl : Small (rest.length + 7))
    (hp : ∀ w2, RS w2 rr mb b d rest → w.heap.size < w2.heap.size → Calls Tryz.prog 62 #[.pointer (some ⟨rr, 0, none⟩), .int .u16 (Lib.beNat [c0, c1] : Nat), .int .u32 (Lib.beNat [s0, s1, s2, s3] : Nat)] w2 fun e w' =>
      ∃ v, Err v ∧ e = .returned (.tuple #[.nilIface, v]) ∧ Kept [b] w2 w' ∧ HasB w' b) :
    Calls Tryz.prog 43 #[.pointer (some ⟨rr, 0, none⟩)] w fun e w' => ∃ v, Err' v ∧ e = .returned (.tuple #[.nilIface, v]) ∧ Kept [b] w w' ∧ HasB w' b := by
  have hr0 : w.cell? ⟨rr, 0, none⟩ = some (.iface 111 (.pointer (some ⟨b, 0, none⟩))) := h.blk.cell 0
  have hlt : rr < w.heap.size := h.blk.lt
  have hmt : mb < w.heap.size := h.max.lt
  have hbt : b < w.heap.size := h.blt
  have hdt : d < w.heap.size := h.dlt
  have hc := head_read rr mb b d 3 c0 c1 s0 s1 s2 s3 rest w h hl
  generalize hsc : w.heap.size = sc at *
  have hsb : sc ≠ b := by omega
  have hsd : sc ≠ d := by omega
  have hsr : rr ≠ sc := by omega
  have hsm : mb ≠ sc := by omega
  have HC := Lib.hid hc; have HS := Lib.hid hsc
  have HP := Lib.hid hp
  clear hp
  clear hc h hl hbt hdt
  go_enter Tryz.func43, Tryz.ntmps43
  go_wp2
  go_region_with (go_at_call 56; refine (HC.out 1).mono ?_; rintro e w1 ⟨rfl, hH⟩)
  obtain ⟨⟨q0, q1, q2, q3, q4, q5, q6⟩, r0, r1, r2⟩ := hH.facts
  have HH := Lib.hid hH; clear hH
  go_wp2_with (first
    | (go_at_call 57; refine HH.out.be16.mono ?_; rintro e w' ⟨rfl, k1, rfl⟩)
    | (go_at_call 58; refine (HH.out.be32 _).mono ?_; rintro e w' ⟨rfl, k2, rfl⟩)
    | (go_at_call 62; refine (HP.out _ (HH.out.2.1.kept (drewN_kept _ _ []) (by simp) (by simp) (by simp) (by simp)) (Nat.lt_of_lt_of_le (by have := HH.out.1.lt; exact this) (drewN_kept _ _ []).size)).mono ?_; rintro e w3 ⟨v, hv, rfl, hF, hB⟩; have HG := Lib.hid (And.intro ((HH.out.2.2.trans (drewN_kept _ _ []) (by simp)).trans hF (by simp)) hB); clear hF hB; rcases hv with rfl | rfl))
  all_goals
    go_ret2
    refine ⟨_, .inl (by first | exact .inl rfl | exact .inr rfl), rfl, ?_, HG.out.2⟩
    exact HG.out.1.mono (by simp [hsc])

set_option maxHeartbeats 1000000 in
set_option maxRecDepth 100000 in
theorem frame_unknown (rr mb b d : Nat) (kd : UInt8) (c0 c1 s0 s1 s2 s3 : UInt8) (rest : List UInt8) (w : World) (h : RS w rr mb b d (kd :: c0 :: c1 :: s0 :: s1 :: s2 :: s3 :: rest)) (hl : Small (rest.length + 7)) (e1 : ((kd.toNat : Int) == 1) = false) (e2 : ((kd.toNat : Int) == 2) = false) (e3 : ((kd.toNat : Int) == 3) = false) (e8 : ((kd.toNat : Int) == 8) = false) :
    Calls Tryz.prog 43 #[.pointer (some ⟨rr, 0, none⟩)] w fun e w' => ∃ v, Err' v ∧ e = .returned (.tuple #[.nilIface, v]) ∧ Kept [b] w w' ∧ HasB w' b := by
  have hr0 : w.cell? ⟨rr, 0, none⟩ = some (.iface 111 (.pointer (some ⟨b, 0, none⟩))) := h.blk.cell 0
  have hlt : rr < w.heap.size := h.blk.lt
  have hmt : mb < w.heap.size := h.max.lt
  have hbt : b < w.heap.size := h.blt
  have hdt : d < w.heap.size := h.dlt
  have hc := head_read rr mb b d kd c0 c1 s0 s1 s2 s3 rest w h hl
  generalize hsc : w.heap.size = sc at *
  have hsb : sc ≠ b := by omega
  have hsd : sc ≠ d := by omega
  have hsr : rr ≠ sc := by omega
  have hsm : mb ≠ sc := by omega
  have HC := Lib.hid hc; have HS := Lib.hid hsc
  clear hc h hl hbt hdt
  go_enter Tryz.func43, Tryz.ntmps43
  go_wp2
  go_region_with (go_at_call 56; refine (HC.out 1).mono ?_; rintro e w1 ⟨rfl, hH⟩)
  obtain ⟨⟨q0, q1, q2, q3, q4, q5, q6⟩, r0, r1, r2⟩ := hH.facts
  have HH := Lib.hid hH; clear hH
  go_wp2_with (first
    | (go_at_call 57; refine HH.out.be16.mono ?_; rintro e w' ⟨rfl, k1, rfl⟩)
    | (go_at_call 58; refine (HH.out.be32 _).mono ?_; rintro e w' ⟨rfl, k2, rfl⟩)
    | (go_at_call 64; refine (errFrame_any _).mono ?_; rintro e w' ⟨rfl, o, rfl⟩))
  go_ret2
  refine ⟨_, .inr ⟨_, rfl⟩, rfl, ?_, (HH.out.2.1.buf.has.kept (drewN_kept w1 (k1 + k2) []) (by simp)).kept ((Kept.refl [] _).alloc _) (by simp)⟩
  have hk2 : Kept [sc, b] w (w1.drewN (k1 + k2)) := HH.out.2.2.trans (drewN_kept w1 _ []) (by simp)
  have hk3 : Kept [b] w (w1.drewN (k1 + k2)) := hk2.mono (by simp [hsc])
  exact hk3.alloc _

end Go.Proofs.YtkcdakohmfodjaaGreat
