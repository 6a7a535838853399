/-
  Lemmas on the way to the statement of YtkcdakohmfodjaaGreatHeader, joined out of these texts: Frm, Zz. No condition.
-/
import Derived.Test.YtkcdakohmfodjaaGreatNLim
namespace Go.Proofs.YtkcdakohmfodjaaGreat
open Go.RowKit
set_option linter.unusedVariables false
set_option linter.unusedSimpArgs false
/-- The seven zero bytes of the scratch row. -/
abbrev scr0 : Obj := .cells #[.int .u8 0, .int .u8 0, .int .u8 0, .int .u8 0, .int .u8 0, .int .u8 0, .int .u8 0] 157
/-- What holds behind the reading of a frame's head: the scratch row has it. -/
def Headed (sc rr mb b d : Nat) (k c0 c1 s0 s1 s2 s3 : UInt8) (rest : List UInt8) (w w1 : World) : Prop :=
  Blk w1 sc (u8s [k, c0, c1, s0, s1, s2, s3]).toArray 157 ∧ RS w1 rr mb b d rest ∧ Kept [sc, b] w w1
theorem head_read (rr mb b d : Nat) (k c0 c1 s0 s1 s2 s3 : UInt8) (rest : List UInt8) (w : World) (h : RS w rr mb b d (k :: c0 :: c1 :: s0 :: s1 :: s2 :: s3 :: rest)) (hl : Small (rest.length + 7)) :
    ∀ n, Calls Tryz.prog 56 #[.iface 111 (.pointer (some ⟨b, 0, none⟩)), .slice (some ⟨w.heap.size, 0, none⟩) 7 7] ((w.alloc scr0).drewN n) fun e w' =>
      e = .returned (.tuple #[.int .i64 7, .nilIface]) ∧ Headed w.heap.size rr mb b d k c0 c1 s0 s1 s2 s3 rest w w' := by
  intro n
  have hk : Kept [] w ((w.alloc scr0).drewN n) := ((Kept.refl [] w).alloc _).trans (drewN_kept _ n []) (by simp)
  have h2 := h.kept hk (by simp) (by simp) (by simp) (by simp)
  have hrd : Rd ((w.alloc scr0).drewN n) (.iface 111 (.pointer (some ⟨b, 0, none⟩))) [b] d [] _ := .buf b d _ h2.buf h2.bd
  have hb := h.blt
  have hd := h.dlt
  have hnew : Blk ((w.alloc scr0).drewN n) w.heap.size (u8s [0, 0, 0, 0, 0, 0, 0]).toArray 157 := Blk.new w _ _
  refine (hrd.full (by simpa [Small] using hl) 7 7 w.heap.size 0 _ (by omega) (Nat.le_refl _) (by unfold Small; omega) hnew (by simp) (by simp; omega) (by omega) (by simp [avail])).mono fun e w' hh => ?_
  obtain ⟨rfl, g1, g2, g3⟩ := hh
  refine ⟨rfl, g2, ?_, (hk.mono (by simp)).trans g3 (by simp)⟩
  have := g1.buf_inv
  refine h2.step g3 ?_ ?_ this
  · have := h.rb; have := h.blk.lt; simp; omega
  · have := h.mb'; have := h.max.lt; simp; omega
/-- The mark at the end is read into the scratch row's first byte. -/
theorem tail_read (sc rr mb b d : Nat) (z : UInt8) (cur : List Value) (rest : List UInt8) (w : World) (h : RS w rr mb b d (z :: rest)) (hl : Small (rest.length + 1)) (hs : Blk w sc cur.toArray 157) (hc : cur.length = 7) (hb : sc ≠ b) (hd : sc ≠ d) (hr : rr ≠ sc) (hm : mb ≠ sc) :
    ∀ n, Calls Tryz.prog 56 #[.iface 111 (.pointer (some ⟨b, 0, none⟩)), .slice (some ⟨sc, 0, none⟩) 1 7] (w.drewN n) fun e w' =>
      e = .returned (.tuple #[.int .i64 1, .nilIface]) ∧ RS w' rr mb b d rest ∧ Kept [sc, b] w w' ∧ w'.cell? ⟨sc, 0, none⟩ = some (.int .u8 (z.toNat : Int)) := by
  intro n
  have hk : Kept [] w (w.drewN n) := drewN_kept _ n []
  have h2 := h.kept hk (by simp) (by simp) (by simp) (by simp)
  have hrd : Rd (w.drewN n) (.iface 111 (.pointer (some ⟨b, 0, none⟩))) [b] d [] _ := .buf b d _ h2.buf h2.bd
  refine (hrd.full (by simpa [Small] using hl) 1 7 sc 0 cur (by omega) (by omega) (by unfold Small; omega) (hs.kept hk (by simp)) (by omega) (by simpa using hb) hd (by simp [avail])).mono fun e w' hh => ?_
  obtain ⟨rfl, g1, g2, g3⟩ := hh
  refine ⟨rfl, h2.step g3 ?_ ?_ g1.buf_inv, (hk.mono (by simp)).trans g3 (by simp), ?_⟩
  · have := h.rb; simp; omega
  · have := h.mb'; simp; omega
  · have := g2.cell 0
    simpa [splice] using this
theorem Headed.facts {sc rr mb b d : Nat} {k c0 c1 s0 s1 s2 s3 : UInt8} {rest : List UInt8} {w w1 : World} (h : Headed sc rr mb b d k c0 c1 s0 s1 s2 s3 rest w w1) :
    (w1.cell? ⟨sc, 0, none⟩ = some (.int .u8 (k.toNat : Int)) ∧ w1.cell? ⟨sc, 1, none⟩ = some (.int .u8 (c0.toNat : Int)) ∧ w1.cell? ⟨sc, 2, none⟩ = some (.int .u8 (c1.toNat : Int)) ∧
      w1.cell? ⟨sc, 3, none⟩ = some (.int .u8 (s0.toNat : Int)) ∧ w1.cell? ⟨sc, 4, none⟩ = some (.int .u8 (s1.toNat : Int)) ∧ w1.cell? ⟨sc, 5, none⟩ = some (.int .u8 (s2.toNat : Int)) ∧ w1.cell? ⟨sc, 6, none⟩ = some (.int .u8 (s3.toNat : Int))) ∧
    (w1.cell? ⟨rr, 0, none⟩ = some (.iface 111 (.pointer (some ⟨b, 0, none⟩))) ∧ w1.cell? ⟨rr, 1, none⟩ = some (.pointer (some ⟨mb, 0, none⟩)) ∧ w1.cell? ⟨mb, 0, none⟩ = some (.int .u32 0)) :=
  ⟨⟨h.1.cell 0, h.1.cell 1, h.1.cell 2, h.1.cell 3, h.1.cell 4, h.1.cell 5, h.1.cell 6⟩, h.2.1.blk.cell 0, h.2.1.blk.cell 1, h.2.1.max.cell 0⟩
theorem Headed.be16 {sc rr mb b d : Nat} {k c0 c1 s0 s1 s2 s3 : UInt8} {rest : List UInt8} {w w1 : World} (h : Headed sc rr mb b d k c0 c1 s0 s1 s2 s3 rest w w1) :
    Calls Tryz.prog 57 #[.slice (some ⟨sc, 1, none⟩) 2 6] w1 fun e w' => e = .returned (.int .u16 (Lib.beNat [c0, c1] : Nat)) ∧ ∃ k, w' = w1.drewN k :=
  be16_any sc 1 2 6 c0 c1 w1 (Nat.le_refl _) h.facts.1.2.1 h.facts.1.2.2.1
theorem Headed.be32 {sc rr mb b d : Nat} {k c0 c1 s0 s1 s2 s3 : UInt8} {rest : List UInt8} {w w1 : World} (h : Headed sc rr mb b d k c0 c1 s0 s1 s2 s3 rest w w1) (n : Nat) :
    Calls Tryz.prog 58 #[.slice (some ⟨sc, 3, none⟩) 4 4] (w1.drewN n) fun e w' => e = .returned (.int .u32 (Lib.beNat [s0, s1, s2, s3] : Nat)) ∧ ∃ k, w' = (w1.drewN n).drewN k :=
  be32_any sc 3 4 4 s0 s1 s2 s3 (w1.drewN n) (Nat.le_refl _) h.facts.1.2.2.2.1 h.facts.1.2.2.2.2.1 h.facts.1.2.2.2.2.2.1 h.facts.1.2.2.2.2.2.2
/-- What a parse of the payload leaves. -/
structure Parsed (rr mb b d : Nat) (rest' : List UInt8) (R : Value → World → Prop) (F : Value) (w2 w' : World) : Prop where
  rs : RS w' rr mb b d rest'
  kept : Kept [b] w2 w'
  res : R F w'
theorem Parsed.later {sc rr mb b d : Nat} {k c0 c1 s0 s1 s2 s3 : UInt8} {rest rest' : List UInt8} {w w1 w2 w3 : World} {R : Value → World → Prop} {F : Value} (h : Headed sc rr mb b d k c0 c1 s0 s1 s2 s3 rest w w1)
    (n : Nat) (hw : w2 = w1.drewN n) (hp : Parsed rr mb b d rest' R F w2 w3) (hb : sc ≠ b) : w3.cell? ⟨rr, 0, none⟩ = some (.iface 111 (.pointer (some ⟨b, 0, none⟩))) ∧
      Blk w3 sc (u8s [k, c0, c1, s0, s1, s2, s3]).toArray 157 ∧ Kept [sc, b] w w3 := by
  subst hw
  have hk : Kept [sc, b] w1 w3 := ((drewN_kept w1 n [sc, b]).trans hp.kept (by simp))
  exact ⟨hp.rs.blk.cell 0, (h.1.kept (drewN_kept w1 n []) (by simp)).kept hp.kept (by simpa using hb), h.2.2.trans hk (fun x hx => .inl hx)⟩
/-- s is a slice with the bytes l, which lie in block d. -/
def BytesAt (w : World) (s : Value) (d : Nat) (l : List UInt8) : Prop :=
  ∃ off c, s = .slice (some ⟨d, off, none⟩) l.length c ∧ l.length ≤ c ∧ c ≤ 9223372036854775807 ∧ ∀ j v, (u8s l)[j]? = some v → w.cell? ⟨d, off + j, none⟩ = some v
theorem BytesAt.kept {S : List Nat} {w w' : World} {s : Value} {d : Nat} {l : List UInt8} (h : BytesAt w s d l) (hk : Kept S w w') (hd : d ∉ S) : BytesAt w' s d l := by
  obtain ⟨off, c, h1, h2, h3, h4⟩ := h
  exact ⟨off, c, h1, h2, h3, fun j v hj => hk.cell (h4 j v hj) hd⟩
/-- An own row of bytes, taken as a buffer's. -/
theorem own_cases {w : World} {v : Value} {l : List UInt8} (h : w.ownsRow 0 5 1 v l.length (u8s l)) :
    (l = [] ∧ v = .slice none 0 0) ∨ ∃ g cap, v = .slice (some ⟨g, 0, none⟩) l.length cap ∧ l.length ≤ cap ∧ ∀ j v, (u8s l)[j]? = some v → w.cell? ⟨g, 0 + j, none⟩ = some v := by
  obtain ⟨h1, h2⟩ := h
  rcases h2 with ⟨rfl, hn⟩ | ⟨g, cap, cur, rfl, _, hg, hc, _, _, ht⟩
  · exact .inl ⟨List.eq_nil_of_length_eq_zero hn, rfl⟩
  · refine .inr ⟨g, cap, rfl, hc, fun j v hj => ?_⟩
    rw [← ht, Nat.mul_one] at hj
    have hj2 : cur.toList[j]? = some v := by
      rw [List.getElem?_take] at hj
      split at hj
      · exact hj
      · simp at hj
    have : Blk w g cur 5 := hg
    rw [Nat.zero_add, this.cell j]
    simpa using hj2
theorem mk_rs {w2 : World} {mb d : Nat} {ao : Option Addr} {c : Nat} {l : List UInt8} (hm : Blk w2 mb #[.int .u32 0] 70) (hd : d < w2.heap.size) (hc : l.length ≤ c)
    (hs : l ≠ [] → ∃ off, ao = some ⟨d, off, none⟩ ∧ ∀ j v, (u8s l)[j]? = some v → w2.cell? ⟨d, off + j, none⟩ = some v) :
    RS ((w2.alloc (.cells #[.slice ao l.length c] 113)).alloc (.cells #[.iface 111 (.pointer (some ⟨w2.heap.size, 0, none⟩)), .pointer (some ⟨mb, 0, none⟩)] 119))
      (w2.heap.size + 1) mb w2.heap.size d l := by
  have hk : Kept [] w2 ((w2.alloc (.cells #[.slice ao l.length c] 113)).alloc (.cells #[.iface 111 (.pointer (some ⟨w2.heap.size, 0, none⟩)), .pointer (some ⟨mb, 0, none⟩)] 119)) :=
    ((Kept.refl [] w2).alloc _).alloc _
  have := hm.lt
  refine ⟨Blk.new_at (by simp), hm.kept hk (by simp), ⟨ao, c, (Blk.new w2 _ _).alloc _, hc, fun hl => ?_⟩, by omega, by omega, by omega, by simp; omega⟩
  obtain ⟨off, h1, h2⟩ := hs hl
  exact ⟨off, h1, fun j v hj => hk.cell (h2 j v hj) (by simp)⟩
set_option maxHeartbeats 400000 in
theorem zzread_any (s : Value) (d0 : Nat) (l : List UInt8) (w : World) (hs : BytesAt w s d0 l) (hl : l.length ≤ 70368744177664) (R : Value → Value → Nat → World → Prop)
    (hp : ∀ w1 rr mb b d, RS w1 rr mb b d l → w.heap.size ≤ rr → w.heap.size ≤ mb → w.heap.size ≤ b → (l ≠ [] → w.heap.size ≤ d) → Kept [] w w1 → Calls Tryz.prog 43 #[.pointer (some ⟨rr, 0, none⟩)] w1 fun e w' =>
      ∃ (F v : Value) (ao : Option Addr) (n c : Nat), e = .returned (.tuple #[F, v]) ∧ Blk w' b #[.slice ao n c] 113 ∧ R F v n w') :
    Calls Tryz.prog 24 #[s, .int .u32 0] w fun e w' => ∃ (F v : Value) (n : Nat), e = .returned (.tuple #[F, .int .i64 (n : Int), v]) ∧ R F v n w' := by
  obtain ⟨off, c, rfl, hc, hcm, hcell⟩ := hs
  obtain ⟨i, hi, hz0, hz1, hz2⟩ := info_parts info_u8
  have hnil : (w.alloc (.cells #[.int .u32 0] 70)).ownsRow 0 5 1 (.slice none 0 0) 0 [] := World.ownsRow_nil _ _ _ _
  have hsrc : ∀ j u, (u8s l)[j]? = some u → (w.alloc (.cells #[.int .u32 0] 70)).cell? ((⟨d0, off, none⟩ : Addr).add j) = some u := fun j u hj => by
    rw [addr_add]
    exact ((Kept.refl [] w).alloc _).cell (hcell j u hj) (by simp)
  have hlen : (u8s l).length = l.length * 1 := by simp
  have hb : (0 + l.length) * 1 ≤ 140737488355328 := by omega
  have hb' : 0 + l.length ≤ 140737488355328 := by omega
  have hmb : Blk (w.alloc (.cells #[.int .u32 0] 70)) w.heap.size #[.int .u32 0] 70 := Blk.new w _ _
  have HP := Lib.hid hp; have HS := Lib.hid hsrc; have HN := Lib.hid hnil; have HI := Lib.hid (And.intro hi (And.intro hz0 (And.intro hz1 hz2))); have HM := Lib.hid hmb
  clear hp hsrc hnil hi hz0 hz1 hz2 hmb hcell
  go_enter Tryz.func24, Tryz.ntmps24
  go_wp2_with (at_builtin; refine wpList_append2 _ rfl _ _ 22 22 rfl 5 5 Tryz.underlying22 i (.int .u8 0) 1 1 Tryz.underlying22 HI.out.1 HI.out.2.1 HI.out.2.2.1 HI.out.2.2.2 rfl (by decide) _ _ _ rfl HN.out ⟨d0, off, none⟩ l.length c (u8s l) rfl hlen HS.out (u8s_one _) hb hb' ?_)
  intro v' w2 h1 h2 h3
  have hk2 : Kept [] w w2 := ((Kept.refl [] w).alloc _).grown h2 (by simp [Value.ownBlock])
  have hm2 : Blk w2 w.heap.size #[.int .u32 0] 70 := HM.out.kept (S := []) ((Kept.refl [] _).grown h2 (by simp [Value.ownBlock])) (by simp)
  have hw2 : w.heap.size < w2.heap.size := hm2.lt
  have hfin : ∃ ao cap d, v' = .slice ao l.length cap ∧ l.length ≤ cap ∧ d < w2.heap.size ∧ (l ≠ [] → w.heap.size ≤ d) ∧
      (l ≠ [] → ∃ off, ao = some ⟨d, off, none⟩ ∧ ∀ j v, (u8s l)[j]? = some v → w2.cell? ⟨d, off + j, none⟩ = some v) := by
    rcases own_cases h1 with ⟨rfl, rfl⟩ | ⟨g, cap, rfl, hc2, hcell2⟩
    · exact ⟨none, 0, w.heap.size, rfl, Nat.le_refl _, hw2, fun h => absurd rfl h, fun h => absurd rfl h⟩
    · have hg : g = w.heap.size + 1 := by simpa [Value.ownBlock] using h3
      subst hg
      refine ⟨_, cap, w.heap.size + 1, rfl, hc2, ?_, fun _ => by omega, fun _ => ⟨0, rfl, hcell2⟩⟩
      rcases h1.2 with ⟨h, _⟩ | ⟨g, _, _, h, _, hg, _⟩
      · cases h
      · cases h; exact lt_of_block hg
  obtain ⟨ao, cap, d, rfl, f1, f2, f3, f4⟩ := hfin
  have hrs := mk_rs hm2 f2 f1 f4
  have hk3 : Kept [] w _ := hk2.trans (S' := []) (((Kept.refl [] w2).alloc (.cells #[.slice ao l.length cap] 113)).alloc (.cells #[.iface 111 (.pointer (some ⟨w2.heap.size, 0, none⟩)), .pointer (some ⟨w.heap.size, 0, none⟩)] 119)) (by simp)
  have hcall := HP.out _ _ _ _ _ hrs (by omega) (Nat.le_refl _) (by omega) f3 hk3
  have HC := Lib.hid hcall
  clear hcall hrs hk3 hk2 hm2 h1 h2 h3 f1 f2 f3 f4
  go_wp2_with (first
    | (go_at_call 43; refine HC.out.mono ?_; rintro e w3 ⟨F, v, ao3, n3, c3, rfl, hb3, hR⟩; have hlen3 := len_any _ _ _ _ _ hb3.cell0; have HL := Lib.hid hlen3; clear hlen3 hb3)
    | (go_at_call 44; refine HL.out.mono ?_; rintro e w4 ⟨rfl, rfl⟩))
  go_ret3
  exact ⟨F, v, n3, rfl, hR⟩
end Go.Proofs.YtkcdakohmfodjaaGreat
