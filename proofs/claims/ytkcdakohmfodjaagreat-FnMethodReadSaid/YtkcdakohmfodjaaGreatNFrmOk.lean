/-
  Lemmas on the way to the statement of YtkcdakohmfodjaaGreatMethodRead, joined out of these texts: FrmOk. No condition.
-/
import Derived.Test.YtkcdakohmfodjaaGreatMAH
namespace Go.Proofs.YtkcdakohmfodjaaGreat
open Go.RowKit
set_option linter.unusedVariables false
set_option linter.unusedSimpArgs false
set_option maxHeartbeats 1000000 in
set_option maxRecDepth 100000 in
theorem frame_ok_1 (rr mb b d : Nat) (c0 c1 s0 s1 s2 s3 : UInt8) (rest rest' : List UInt8) (w : World) (h : RS w rr mb b d (1 :: c0 :: c1 :: s0 :: s1 :: s2 :: s3 :: rest)) (hl : Small (rest.length + 7)) (hl' : Small (rest'.length + 1))
    (R : Value → World → Prop) (hR : ∀ F w1 w2, R F w1 → Kept [w.heap.size, b] w1 w2 → R F w2)
    (hp : ∀ w2, RS w2 rr mb b d rest → w.heap.size < w2.heap.size → Calls Tryz.prog 60 #[.pointer (some ⟨rr, 0, none⟩), .int .u16 (Lib.beNat [c0, c1] : Nat), .int .u32 (Lib.beNat [s0, s1, s2, s3] : Nat)] w2 fun e w' =>
      ∃ F, e = .returned (.tuple #[F, .nilIface]) ∧ Parsed rr mb b d (206 :: rest') R F w2 w') :
    Calls Tryz.prog 43 #[.pointer (some ⟨rr, 0, none⟩)] w fun e w' => ∃ F, e = .returned (.tuple #[F, .nilIface]) ∧ RS w' rr mb b d rest' ∧ Kept [b] w w' ∧ R F w' := by
  have hr0 : w.cell? ⟨rr, 0, none⟩ = some (.iface 111 (.pointer (some ⟨b, 0, none⟩))) := h.blk.cell 0
  have hlt : rr < w.heap.size := h.blk.lt
  have hmt : mb < w.heap.size := h.max.lt
  have hbt : b < w.heap.size := h.blt
  have hdt : d < w.heap.size := h.dlt
  have hc := head_read rr mb b d 1 c0 c1 s0 s1 s2 s3 rest w h hl
  generalize hsc : w.heap.size = sc at *
  have hsb : sc ≠ b := by omega
  have hsd : sc ≠ d := by omega
  have hsr : rr ≠ sc := by omega
  have hsm : mb ≠ sc := by omega
  have HC := Lib.hid hc; have HP := Lib.hid hp; have HR := Lib.hid hR; have HS := Lib.hid hsc; have HL := Lib.hid hl'
  clear hc h hp hR hl hbt hdt hl'
  go_enter Tryz.func43, Tryz.ntmps43
  go_wp2
  go_region_with (go_at_call 56; refine (HC.out 1).mono ?_; rintro e w1 ⟨rfl, hH⟩)
  obtain ⟨⟨q0, q1, q2, q3, q4, q5, q6⟩, r0, r1, r2⟩ := hH.facts
  have HH := Lib.hid hH; clear hH
  go_wp2_with (first
    | (go_at_call 57; refine HH.out.be16.mono ?_; rintro e w' ⟨rfl, k1, rfl⟩)
    | (go_at_call 58; refine (HH.out.be32 _).mono ?_; rintro e w' ⟨rfl, k2, rfl⟩)
    | (go_at_call 60; refine (HP.out _ (HH.out.2.1.kept (drewN_kept _ _ []) (by simp) (by simp) (by simp) (by simp)) (Nat.lt_of_lt_of_le (by have := HH.out.1.lt; exact this) (drewN_kept _ _ []).size)).mono ?_; rintro e w3 ⟨F, rfl, hF⟩; have hG := Parsed.later HH.out _ rfl hF hsb; have t0 := hG.1; have HG := Lib.hid hG.2; have HF := Lib.hid hF; clear hG hF))
  go_region_with (go_at_call 56; refine (tail_read sc rr mb b d 206 _ rest' w3 HF.out.rs HL.out HG.out.1 (by simp) hsb hsd hsr hsm 1).mono ?_; rintro e w4 ⟨rfl, hT1, hT2, hT3⟩)
  all_goals
    have HT := Lib.hid (And.intro hT1 hT2); clear hT1 hT2
    have t1 : w4.cell? ⟨sc, 0, none⟩ = some (.int .u8 206) := hT3
    clear hT3
    go_wp2
    go_ret2
    refine ⟨F, rfl, HT.out.1, ?_, HR.out F _ _ HF.out.res (HT.out.2.mono (by simp))⟩
    exact (HG.out.2.trans HT.out.2 (fun x hx => .inl hx)).mono (by simp [hsc])
end Go.Proofs.YtkcdakohmfodjaaGreat
