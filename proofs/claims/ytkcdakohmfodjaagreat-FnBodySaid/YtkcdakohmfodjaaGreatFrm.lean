/-
  ReadFrame: the head of a frame, the payload by its own contract, the mark at the end. (Printed by wip/gen/frame.py.)
-/
import Derived.Test.YtkcdakohmfodjaaGreatParse
namespace Go.Proofs.YtkcdakohmfodjaaGreat
open Go.RowKit
set_option linter.unusedVariables false
set_option linter.unusedSimpArgs false

/-- The seven zero bytes of the scratch row. -/
abbrev scr0 : Obj := .cells #[.int .u8 0, .int .u8 0, .int .u8 0, .int .u8 0, .int .u8 0, .int .u8 0, .int .u8 0] 157

/-- What holds behind the reading of a frame's head: the scratch row has it. -/
def Headed (sc rr mb b d : Nat) (k c0 c1 s0 s1 s2 s3 : UInt8) (rest : List UInt8) (w w1 : World) : Prop :=
  Blk w1 sc (u8s [k, c0, c1, s0, s1, s2, s3]).toArray 157 ∧ RS w1 rr mb b d rest ∧ Kept [sc, b] w w1

theorem head_read (rr mb b d : Nat) (k c0 c1 s0 s1 s2 s3 : UInt8) (rest : List UInt8) (w : World) (h : RS w rr mb b d (k :: c0 :: c1 :: s0 :: s1 :: s2 :: s3 :: rest)) (hl : Small (rest.length + 7)) :
    ∀ n, Calls Tryz.prog 56 #[.iface 111 (.pointer (some ⟨b, 0, none⟩)), .slice (some ⟨w.heap.size, 0, none⟩) 7 7] ((w.alloc scr0).drewN n) fun e w' =>
      e = .returned (.tuple #[.int .i64 7, .nilIface]) ∧ Headed w.heap.size rr mb b d k c0 c1 s0 s1 s2 s3 rest w w' := by
  intro n
  have hk : Kept [] w ((w.alloc scr0).drewN n) := ((Kept.refl [] w).alloc _).trans (drewN_kept _ n []) (by simp)
  have h2 := h.kept hk (by simp) (by simp) (by simp) (by simp)
  have hrd : Rd ((w.alloc scr0).drewN n) (.iface 111 (.pointer (some ⟨b, 0, none⟩))) [b] d [] _ := .buf b d _ h2.buf h2.bd
  have hb := h.blt
  have hd := h.dlt
  have hnew : Blk ((w.alloc scr0).drewN n) w.heap.size (u8s [0, 0, 0, 0, 0, 0, 0]).toArray 157 := Blk.new w _ _
  refine (hrd.full (by simpa [Small] using hl) 7 7 w.heap.size 0 _ (by omega) (Nat.le_refl _) (by unfold Small; omega) hnew (by simp) (by simp; omega) (by omega) (by simp [avail])).mono fun e w' hh => ?_
  obtain ⟨rfl, g1, g2, g3⟩ := hh
  refine ⟨rfl, g2, ?_, (hk.mono (by simp)).trans g3 (by simp)⟩
  have := g1.buf_inv
  refine h2.step g3 ?_ ?_ this
  · have := h.rb; have := h.blk.lt; simp; omega
  · have := h.mb'; have := h.max.lt; simp; omega

theorem head_short (rr mb b d : Nat) (l : List UInt8) (w : World) (h : RS w rr mb b d l) (hl : l.length < 7) :
    ∀ n, Calls Tryz.prog 56 #[.iface 111 (.pointer (some ⟨b, 0, none⟩)), .slice (some ⟨w.heap.size, 0, none⟩) 7 7] ((w.alloc scr0).drewN n) fun e w' =>
      ∃ v, Err v ∧ e = .returned (.tuple #[.int .i64 (l.length : Int), v]) ∧ Kept [b] w w' ∧ HasB w' b := by
  intro n
  have hk : Kept [] w ((w.alloc scr0).drewN n) := ((Kept.refl [] w).alloc _).trans (drewN_kept _ n []) (by simp)
  have h2 := h.kept hk (by simp) (by simp) (by simp) (by simp)
  have hb := h.blt
  have hd := h.dlt
  have hnew : Blk ((w.alloc scr0).drewN n) w.heap.size (u8s [0, 0, 0, 0, 0, 0, 0]).toArray 157 := Blk.new w _ _
  refine (h2.buf.short h2.bd w.heap.size 0 7 7 _ hl (Nat.le_refl _) (by unfold Small; omega) hnew (by simp) (by omega) (by omega)).mono fun e w' hh => ?_
  obtain ⟨v, hv, rfl, g1, g2⟩ := hh
  exact ⟨v, hv, rfl, (hk.mono (by simp)).trans g1 (by simp), g2.has⟩

/-- The mark at the end is read into the scratch row's first byte. -/
theorem tail_read (sc rr mb b d : Nat) (z : UInt8) (cur : List Value) (rest : List UInt8) (w : World) (h : RS w rr mb b d (z :: rest)) (hl : Small (rest.length + 1)) (hs : Blk w sc cur.toArray 157) (hc : cur.length = 7) (hb : sc ≠ b) (hd : sc ≠ d) (hr : rr ≠ sc) (hm : mb ≠ sc) :
    ∀ n, Calls Tryz.prog 56 #[.iface 111 (.pointer (some ⟨b, 0, none⟩)), .slice (some ⟨sc, 0, none⟩) 1 7] (w.drewN n) fun e w' =>
      e = .returned (.tuple #[.int .i64 1, .nilIface]) ∧ RS w' rr mb b d rest ∧ Kept [sc, b] w w' ∧ w'.cell? ⟨sc, 0, none⟩ = some (.int .u8 (z.toNat : Int)) := by
  intro n
  have hk : Kept [] w (w.drewN n) := drewN_kept _ n []
  have h2 := h.kept hk (by simp) (by simp) (by simp) (by simp)
  have hrd : Rd (w.drewN n) (.iface 111 (.pointer (some ⟨b, 0, none⟩))) [b] d [] _ := .buf b d _ h2.buf h2.bd
  refine (hrd.full (by simpa [Small] using hl) 1 7 sc 0 cur (by omega) (by omega) (by unfold Small; omega) (hs.kept hk (by simp)) (by omega) (by simpa using hb) hd (by simp [avail])).mono fun e w' hh => ?_
  obtain ⟨rfl, g1, g2, g3⟩ := hh
  refine ⟨rfl, h2.step g3 ?_ ?_ g1.buf_inv, (hk.mono (by simp)).trans g3 (by simp), ?_⟩
  · have := h.rb; simp; omega
  · have := h.mb'; simp; omega
  · have := g2.cell 0
    simpa [splice] using this

theorem tail_short (sc rr mb b d : Nat) (cur : List Value) (w : World) (h : RS w rr mb b d []) (hs : Blk w sc cur.toArray 157) (hc : cur.length = 7) (hb : sc ≠ b) (hd : sc ≠ d) :
    ∀ n, Calls Tryz.prog 56 #[.iface 111 (.pointer (some ⟨b, 0, none⟩)), .slice (some ⟨sc, 0, none⟩) 1 7] (w.drewN n) fun e w' =>
      ∃ v, Err v ∧ e = .returned (.tuple #[.int .i64 0, v]) ∧ Kept [sc, b] w w' ∧ HasB w' b := by
  intro n
  have hk : Kept [] w (w.drewN n) := drewN_kept _ n []
  have h2 := h.kept hk (by simp) (by simp) (by simp) (by simp)
  refine (h2.buf.short h2.bd sc 0 1 7 cur (by simp) (by omega) (by unfold Small; omega) (hs.kept hk (by simp)) (by omega) (Ne.symm hb) (Ne.symm hd)).mono fun e w' hh => ?_
  obtain ⟨v, hv, rfl, g1, g2⟩ := hh
  exact ⟨v, hv, rfl, (hk.mono (by simp)).trans g1 (by simp), g2.has⟩

set_option maxHeartbeats 400000 in
set_option maxRecDepth 100000 in
theorem frame_short (rr mb b d : Nat) (l : List UInt8) (w : World) (h : RS w rr mb b d l) (hl : l.length < 7) :
    Calls Tryz.prog 43 #[.pointer (some ⟨rr, 0, none⟩)] w fun e w' => ∃ v, Err v ∧ e = .returned (.tuple #[.nilIface, v]) ∧ Kept [b] w w' ∧ HasB w' b := by
  have hr0 : w.cell? ⟨rr, 0, none⟩ = some (.iface 111 (.pointer (some ⟨b, 0, none⟩))) := h.blk.cell 0
  have hlt : rr < w.heap.size := h.blk.lt
  have hc := head_short rr mb b d l w h hl
  have HC := Lib.hid hc; clear hc h
  go_enter Tryz.func43, Tryz.ntmps43
  go_wp2
  go_region_with (go_at_call 56; refine (HC.out 1).mono ?_; rintro e w' ⟨v, hv, rfl, hR⟩)
  all_goals
    have HR := Lib.hid hR; clear hR
    rcases hv with rfl | rfl
  all_goals
    go_wp2
    go_ret2
    refine ⟨_, by first | exact .inl rfl | exact .inr rfl, rfl, HR.out⟩

/-- An error that is there, the package's own among them. -/
def Err' (v : Value) : Prop := Err v ∨ ∃ p, v = .iface 162 (.pointer p)

theorem Headed.facts {sc rr mb b d : Nat} {k c0 c1 s0 s1 s2 s3 : UInt8} {rest : List UInt8} {w w1 : World} (h : Headed sc rr mb b d k c0 c1 s0 s1 s2 s3 rest w w1) :
    (w1.cell? ⟨sc, 0, none⟩ = some (.int .u8 (k.toNat : Int)) ∧ w1.cell? ⟨sc, 1, none⟩ = some (.int .u8 (c0.toNat : Int)) ∧ w1.cell? ⟨sc, 2, none⟩ = some (.int .u8 (c1.toNat : Int)) ∧
      w1.cell? ⟨sc, 3, none⟩ = some (.int .u8 (s0.toNat : Int)) ∧ w1.cell? ⟨sc, 4, none⟩ = some (.int .u8 (s1.toNat : Int)) ∧ w1.cell? ⟨sc, 5, none⟩ = some (.int .u8 (s2.toNat : Int)) ∧ w1.cell? ⟨sc, 6, none⟩ = some (.int .u8 (s3.toNat : Int))) ∧
    (w1.cell? ⟨rr, 0, none⟩ = some (.iface 111 (.pointer (some ⟨b, 0, none⟩))) ∧ w1.cell? ⟨rr, 1, none⟩ = some (.pointer (some ⟨mb, 0, none⟩)) ∧ w1.cell? ⟨mb, 0, none⟩ = some (.int .u32 0)) :=
  ⟨⟨h.1.cell 0, h.1.cell 1, h.1.cell 2, h.1.cell 3, h.1.cell 4, h.1.cell 5, h.1.cell 6⟩, h.2.1.blk.cell 0, h.2.1.blk.cell 1, h.2.1.max.cell 0⟩

theorem Headed.be16 {sc rr mb b d : Nat} {k c0 c1 s0 s1 s2 s3 : UInt8} {rest : List UInt8} {w w1 : World} (h : Headed sc rr mb b d k c0 c1 s0 s1 s2 s3 rest w w1) :
    Calls Tryz.prog 57 #[.slice (some ⟨sc, 1, none⟩) 2 6] w1 fun e w' => e = .returned (.int .u16 (Lib.beNat [c0, c1] : Nat)) ∧ ∃ k, w' = w1.drewN k :=
  be16_any sc 1 2 6 c0 c1 w1 (Nat.le_refl _) h.facts.1.2.1 h.facts.1.2.2.1

theorem Headed.be32 {sc rr mb b d : Nat} {k c0 c1 s0 s1 s2 s3 : UInt8} {rest : List UInt8} {w w1 : World} (h : Headed sc rr mb b d k c0 c1 s0 s1 s2 s3 rest w w1) (n : Nat) :
    Calls Tryz.prog 58 #[.slice (some ⟨sc, 3, none⟩) 4 4] (w1.drewN n) fun e w' => e = .returned (.int .u32 (Lib.beNat [s0, s1, s2, s3] : Nat)) ∧ ∃ k, w' = (w1.drewN n).drewN k :=
  be32_any sc 3 4 4 s0 s1 s2 s3 (w1.drewN n) (Nat.le_refl _) h.facts.1.2.2.2.1 h.facts.1.2.2.2.2.1 h.facts.1.2.2.2.2.2.1 h.facts.1.2.2.2.2.2.2

/-- What a parse of the payload leaves. -/
structure Parsed (rr mb b d : Nat) (rest' : List UInt8) (R : Value → World → Prop) (F : Value) (w2 w' : World) : Prop where
  rs : RS w' rr mb b d rest'
  kept : Kept [b] w2 w'
  res : R F w'

theorem Parsed.later {sc rr mb b d : Nat} {k c0 c1 s0 s1 s2 s3 : UInt8} {rest rest' : List UInt8} {w w1 w2 w3 : World} {R : Value → World → Prop} {F : Value} (h : Headed sc rr mb b d k c0 c1 s0 s1 s2 s3 rest w w1)
    (n : Nat) (hw : w2 = w1.drewN n) (hp : Parsed rr mb b d rest' R F w2 w3) (hb : sc ≠ b) : w3.cell? ⟨rr, 0, none⟩ = some (.iface 111 (.pointer (some ⟨b, 0, none⟩))) ∧
      Blk w3 sc (u8s [k, c0, c1, s0, s1, s2, s3]).toArray 157 ∧ Kept [sc, b] w w3 := by
  subst hw
  have hk : Kept [sc, b] w1 w3 := ((drewN_kept w1 n [sc, b]).trans hp.kept (by simp))
  exact ⟨hp.rs.blk.cell 0, (h.1.kept (drewN_kept w1 n []) (by simp)).kept hp.kept (by simpa using hb), h.2.2.trans hk (fun x hx => .inl hx)⟩

set_option maxHeartbeats 1000000 in
set_option maxRecDepth 100000 in
theorem frame_ok_3 (rr mb b d : Nat) (c0 c1 s0 s1 s2 s3 : UInt8) (rest rest' : List UInt8) (w : World) (h : RS w rr mb b d (3 :: c0 :: c1 :: s0 :: s1 :: s2 :: s3 :: rest)) (hl : Small (rest.length + 7)) (hl' : Small (rest'.length + 1))
    (R : Value → World → Prop) (hR : ∀ F w1 w2, R F w1 → Kept [w.heap.size, b] w1 w2 → R F w2)
    (hp : ∀ w2, RS w2 rr mb b d rest → w.heap.size < w2.heap.size → Calls Tryz.prog 62 #[.pointer (some ⟨rr, 0, none⟩), .int .u16 (Lib.beNat [c0, c1] : Nat), .int .u32 (Lib.beNat [s0, s1, s2, s3] : Nat)] w2 fun e w' =>
      ∃ F, e = .returned (.tuple #[F, .nilIface]) ∧ Parsed rr mb b d (206 :: rest') R F w2 w') :
    Calls Tryz.prog 43 #[.pointer (some ⟨rr, 0, none⟩)] w fun e w' => ∃ F, e = .returned (.tuple #[F, .nilIface]) ∧ RS w' rr mb b d rest' ∧ Kept [b] w w' ∧ R F w' := by
  have hr0 : w.cell? ⟨rr, 0, none⟩ = some (.iface 111 (.pointer (some ⟨b, 0, none⟩))) := h.blk.cell 0
  have hlt : rr < w.heap.size := h.blk.lt
  have hmt : mb < w.heap.size := h.max.lt
  have hbt : b < w.heap.size := h.blt
  have hdt : d < w.heap.size := h.dlt
  have hc := head_read rr mb b d 3 c0 c1 s0 s1 s2 s3 rest w h hl
  generalize hsc : w.heap.size = sc at *
  have hsb : sc ≠ b := by omega
  have hsd : sc ≠ d := by omega
  have hsr : rr ≠ sc := by omega
  have hsm : mb ≠ sc := by omega
  have HC := Lib.hid hc; have HP := Lib.hid hp; have HR := Lib.hid hR; have HS := Lib.hid hsc; have HL := Lib.hid hl'
  clear hc h hp hR hl hbt hdt hl'
  go_enter Tryz.func43, Tryz.ntmps43
  go_wp2
  go_region_with (go_at_call 56; refine (HC.out 1).mono ?_; rintro e w1 ⟨rfl, hH⟩)
  obtain ⟨⟨q0, q1, q2, q3, q4, q5, q6⟩, r0, r1, r2⟩ := hH.facts
  have HH := Lib.hid hH; clear hH
  go_wp2_with (first
    | (go_at_call 57; refine HH.out.be16.mono ?_; rintro e w' ⟨rfl, k1, rfl⟩)
    | (go_at_call 58; refine (HH.out.be32 _).mono ?_; rintro e w' ⟨rfl, k2, rfl⟩)
    | (go_at_call 62; refine (HP.out _ (HH.out.2.1.kept (drewN_kept _ _ []) (by simp) (by simp) (by simp) (by simp)) (Nat.lt_of_lt_of_le (by have := HH.out.1.lt; exact this) (drewN_kept _ _ []).size)).mono ?_; rintro e w3 ⟨F, rfl, hF⟩; have hG := Parsed.later HH.out _ rfl hF hsb; have t0 := hG.1; have HG := Lib.hid hG.2; have HF := Lib.hid hF; clear hG hF))
  go_region_with (go_at_call 56; refine (tail_read sc rr mb b d 206 _ rest' w3 HF.out.rs HL.out HG.out.1 (by simp) hsb hsd hsr hsm 1).mono ?_; rintro e w4 ⟨rfl, hT1, hT2, hT3⟩)
  all_goals
    have HT := Lib.hid (And.intro hT1 hT2); clear hT1 hT2
    have t1 : w4.cell? ⟨sc, 0, none⟩ = some (.int .u8 206) := hT3
    clear hT3
    go_wp2
    go_ret2
    refine ⟨F, rfl, HT.out.1, ?_, HR.out F _ _ HF.out.res (HT.out.2.mono (by simp))⟩
    exact (HG.out.2.trans HT.out.2 (fun x hx => .inl hx)).mono (by simp [hsc])

end Go.Proofs.YtkcdakohmfodjaaGreat
