/-
  Lemmas on the way to the statement of YtkcdakohmfodjaaGreatMethodRead, joined out of these texts: Bytes, Short, Be, Parse, Frm, Zz, Quiet, Pf, PfOk, Ops, Map. No condition.
-/
import Derived.BigQuiet
import Derived.ChangeMaps5
import Derived.Deep.Draws
import Derived.Deep.QuietTactic
import Derived.Defers
import Derived.Laws.Pointers
import Derived.Lib.Endian
import Derived.Lib.EndianBits
import Derived.MapKept
import Derived.Maps.RangeRun
import Derived.Recover
import Derived.RegionTactic
import Derived.StillTactics
import Derived.Tactics2
import Derived.Test.YtkcdakohmfodjaaGreatMAA
import Derived.Test.YtkcdakohmfodjaaGreatMAB
import Derived.Test.YtkcdakohmfodjaaGreatMAG
import Derived.Test.YtkcdakohmfodjaaGreatProg
namespace Go.Proofs.YtkcdakohmfodjaaGreat
open Go.RowKit
set_option linter.unusedVariables false
set_option linter.unusedSimpArgs false
theorem info_u8 : (Tryz.prog.info? 5).map (fun i => (i.zero, i.size, i.bytes)) = some (some (.int .u8 0), 1, 1) := by kernel_rfl
theorem madeCells_one (z : Value) (n : Nat) : madeCells #[z] n = (List.replicate n z).toArray := by
  apply Array.ext'
  simp only [madeCells]
  apply List.ext_getElem
  · simp
  · intro i h1 h2; simp [Nat.mod_one]
theorem make_u8 (l c : Nat) (hlc : l ≤ c) (hb : c ≤ 281474976710656) (w : World) : (Instr.makeSlice 22 (.int .i64 l) (.int .i64 c)).run Tryz.prog w =
    .ok (.slice (some ⟨w.heap.size, 0, none⟩) l c) (w.alloc (.cells (List.replicate c (.int .u8 0)).toArray 5)) := by
  obtain ⟨i, hi, hz0, hz1, hz2⟩ := info_parts info_u8
  rw [run_make w 22 5 i _ Tryz.underlying22 hi hz0 .i64 .i64 l c (by omega) (by omega) (by rw [hz2]; omega) (by omega)]
  simp only [Int.toNat_natCast, hz1, Nat.mul_one, Value.cells]
  rw [madeCells_one]
set_option maxHeartbeats 400000 in
theorem min64_any (a b : Int) (w : World) : Calls Tryz.prog 160 #[.int .i64 a, .int .i64 b] w fun e w' => e = .returned (.int .i64 (if a < b then a else b)) ∧ w = w' := by
  by_cases h : a < b
  · rw [if_pos h]
    go_enter Tryz.func160, Tryz.ntmps160
    go_wp2
    go_ret
    exact ⟨rfl, rfl⟩
  · rw [if_neg h]
    go_enter Tryz.func160, Tryz.ntmps160
    go_wp2
    go_ret
    exact ⟨rfl, rfl⟩
theorem min64_le (a : Nat) (ha : a ≤ 65536) (w : World) : Calls Tryz.prog 160 #[.int .i64 (a : Int), .int .i64 65536] w fun e w' => e = .returned (.int .i64 (a : Int)) ∧ w = w' :=
  (min64_any a 65536 w).mono fun e w' h => ⟨by
    rw [h.1]
    have e1 : (if (a : Int) < 65536 then (a : Int) else 65536) = a := by
      by_cases h : (a : Int) < 65536
      · rw [if_pos h]
      · rw [if_neg h]; omega
    rw [e1], h.2⟩
theorem append_zeros_u8 (w : World) (ty : TypeId) (g n c : Nat) (cur : List Value) (hg : Blk w g cur.toArray 5) (h0 : 0 < n) (hc : n ≤ c) (hfit : n ≤ cur.length) (h48 : n ≤ 281474976710656) :
    (Builtin.append_ #[22, 3] ty #[.slice (some ⟨g, 0, none⟩) 0 c, .int .i64 n]).run Tryz.prog w =
      .ok (.slice (some ⟨g, 0, none⟩) n c) (w.setRow g (List.replicate n (Value.int .u8 0) ++ cur.drop n).toArray) := by
  obtain ⟨i, hi, hz0, hz1, hz2⟩ := info_parts info_u8
  exact run_append_zeros w _ _ ty _ i _ .i64 .i64 Tryz.underlying22 Tryz.underlying3 hi hz0 hz1 rfl rfl g n c cur hg h0 hc hfit (by omega) (by rw [hz2]; omega)
theorem splice_all (n : Nat) (z : Value) (cs : List Value) (h : cs.length = n) : splice (List.replicate n z) 0 cs = cs := by
  simp [splice, h]
set_option maxHeartbeats 400000 in
theorem readBytes_any {w : World} {r : Value} {ps : List Nat} {d : Nat} {Ns : List Nat} {l : List UInt8} (h : Rd w r ps d Ns l) (hl : Small l.length) (n : Nat) (hn : n ≤ 65536) (h0 : 0 < n) (hav : n ≤ avail Ns l) (hd : d < w.heap.size) :
    Calls Tryz.prog 148 #[r, .int .i64 (n : Int)] w fun e w' => ∃ g, e = .returned (.tuple #[.slice (some ⟨g, 0, none⟩) n n, .nilIface]) ∧ w.heap.size ≤ g ∧
      Blk w' g (u8s (l.take n)).toArray 5 ∧ Rd w' r ps d (Ns.map (· - n)) (l.drop n) ∧ Kept ps w w' := by
  have hmk := make_u8 0 n (Nat.zero_le _) (by omega)
  simp only [Int.natCast_zero] at hmk
  have hn0 : ¬ ((n : Int) < 0) := by omega
  have hlt : (0 : Int) < n := by omega
  have hn2 : (n : Int) ≤ 65536 := by omega
  have H := Lib.hid h; have HL := Lib.hid hl; have HA := Lib.hid hav; have HD := Lib.hid hd
  clear h hl hav hd
  go_enter Tryz.func148, Tryz.ntmps148
  go_wp2_with (go_at_call 160; refine (min64_le n hn _).mono ?_; rintro e w' ⟨rfl, rfl⟩)
  have hblk : Blk (w.alloc (.cells (Array.replicate n (.int .u8 0)) 5)) w.heap.size (List.replicate n (Value.int .u8 0)).toArray 5 := by
    rw [List.toArray_replicate]; exact Blk.new w _ _
  have hkp : Kept [] w (w.alloc (.cells (Array.replicate n (.int .u8 0)) 5)) := (Kept.refl [] w).alloc _
  generalize w.alloc (.cells (Array.replicate n (Value.int .u8 0)) 5) = wa at hblk hkp ⊢
  have hz := append_zeros_u8 wa 22 w.heap.size n n _ hblk h0 (Nat.le_refl _) (by simp) (by omega)
  rw [show List.replicate n (Value.int .u8 0) ++ (List.replicate n (Value.int .u8 0)).drop n = List.replicate n (Value.int .u8 0) by simp] at hz
  have hself : wa.setRow w.heap.size (List.replicate n (Value.int .u8 0)).toArray = wa := setRow_self wa _ _ _ (0, 0) hblk
  rw [hself] at hz
  have hrd : Rd wa r ps d Ns l := H.out.kept hkp (by simp) (by simp)
  have hfull := hrd.full HL.out n n w.heap.size 0 _ h0 (Nat.le_refl _) (by unfold Small; omega) hblk (by simp) (fun hm => by have := H.out.mem_lt _ hm; omega) (by have := HD.out; omega) HA.out
  generalize hg : w.heap.size = g at *
  have HF := Lib.hid hfull; have HZ := Lib.hid hz; have HK := Lib.hid hkp; have HG := Lib.hid hg
  clear hfull hz hkp hblk hrd hself hg hmk
  refine wp_loop_rounds 2 ?_
  rw [rounds_succ]
  go_wp2_with (first
    | (go_at_call 160; refine (min64_le n hn _).mono ?_; rintro e w' ⟨rfl, rfl⟩)
    | (at_builtin; refine Lib.wpList_append_run _ rfl _ _ 22 3 rfl _ _ rfl rfl _ _ HZ.out ?_)
    | (go_at_call 56; refine HF.out.mono ?_; rintro e w' ⟨rfl, hG⟩))
  rw [rounds_succ]
  go_wp2
  go_ret2
  obtain ⟨hG1, hG2, hG3⟩ := hG
  refine ⟨g, rfl, ?_, ?_, hG1, ?_⟩
  · exact Nat.le_of_eq HG.out
  · have hle := H.out.avail_le
    have hA := HA.out
    rwa [splice_all n _ _ (by simp; omega)] at hG2
  · exact (HK.out.mono (by simp)).trans hG3 (fun x hx => by
      simp only [List.mem_cons] at hx
      rcases hx with rfl | hx
      · exact .inr (Nat.le_of_eq HG.out)
      · exact .inl hx)
/-- At block b there is a buffer. -/
def HasB (w : World) (b : Nat) : Prop := ∃ (ao : Option Addr) (n c : Nat), Blk w b #[.slice ao n c] 113
theorem HasB.kept {S : List Nat} {w w' : World} {b : Nat} (h : HasB w b) (hk : Kept S w w') (hb : b ∉ S) : HasB w' b := by
  obtain ⟨ao, n, c, h1⟩ := h
  exact ⟨ao, n, c, h1.kept hk hb⟩
theorem Buf.has {w : World} {b d : Nat} {l : List UInt8} (h : Buf w b d l) : HasB w b := by
  obtain ⟨ao, c, h1, _, _⟩ := h
  exact ⟨ao, _, c, h1⟩
set_option maxHeartbeats 400000 in
theorem readBytes_zero (r : Value) (w : World) :
    Calls Tryz.prog 148 #[r, .int .i64 0] w fun e w' => e = .returned (.tuple #[.slice (some ⟨w.heap.size, 0, none⟩) 0 0, .nilIface]) ∧ w.alloc (.cells #[] 5) = w' := by
  have hmk := make_u8 0 0 (Nat.zero_le _) (by omega)
  simp only [Int.natCast_zero] at hmk
  have h0 := min64_le 0 (by omega)
  simp only [Int.natCast_zero] at h0
  go_enter Tryz.func148, Tryz.ntmps148
  go_wp2_with (go_at_call 160; refine (h0 _).mono ?_; rintro e w' ⟨rfl, rfl⟩)
  refine wp_loop_rounds 1 ?_
  rw [rounds_succ]
  go_wp2
  go_ret2
  exact ⟨rfl, rfl⟩
set_option maxHeartbeats 1000000 in
set_option maxRecDepth 100000 in
theorem be16_any (g o n c : Nat) (b0 b1 : UInt8) (w : World) (hn : 2 ≤ n)
    (c0 : w.cell? ⟨g, o, none⟩ = some (.int .u8 b0.toNat)) (c1 : w.cell? ⟨g, o + 1, none⟩ = some (.int .u8 b1.toNat)) :
    Calls Tryz.prog 57 #[.slice (some ⟨g, o, none⟩) n c] w fun e w' => e = .returned (.int .u16 (Lib.beNat [b0, b1] : Nat)) ∧ ∃ k, w' = w.drewN k := by
  have h0 : b0.toNat < 256 := b0.toNat_lt
  have h1 : b1.toNat < 256 := b1.toNat_lt
  have hn1 : (1 : Int) < n := by omega
  have hn0 : (0 : Int) < n := by omega
  have hv : ((Lib.beNat [b0, b1] : Nat) : Int) = (b1.toNat : Int) + (b0.toNat : Int) * 256 := by
    simp only [Lib.beNat, Lib.beFrom]
    push_cast
    omega
  have HV := Lib.hid hv; clear hv
  go_enter Tryz.func57, Tryz.ntmps57
  go_wp2
  go_quiet (fail)
  go_wp2
  go_ret
  refine ⟨?_, _, rfl⟩
  simp (disch := omega) only [u16_or8]
  rw [HV.out]
  try rfl
set_option maxHeartbeats 1000000 in
set_option maxRecDepth 100000 in
theorem be32_any (g o n c : Nat) (b0 b1 b2 b3 : UInt8) (w : World) (hn : 4 ≤ n)
    (c0 : w.cell? ⟨g, o, none⟩ = some (.int .u8 b0.toNat)) (c1 : w.cell? ⟨g, o + 1, none⟩ = some (.int .u8 b1.toNat)) (c2 : w.cell? ⟨g, o + 2, none⟩ = some (.int .u8 b2.toNat)) (c3 : w.cell? ⟨g, o + 3, none⟩ = some (.int .u8 b3.toNat)) :
    Calls Tryz.prog 58 #[.slice (some ⟨g, o, none⟩) n c] w fun e w' => e = .returned (.int .u32 (Lib.beNat [b0, b1, b2, b3] : Nat)) ∧ ∃ k, w' = w.drewN k := by
  have h0 : b0.toNat < 256 := b0.toNat_lt
  have h1 : b1.toNat < 256 := b1.toNat_lt
  have h2 : b2.toNat < 256 := b2.toNat_lt
  have h3 : b3.toNat < 256 := b3.toNat_lt
  have n3 : (3 : Int) < n := by omega
  have n2 : (2 : Int) < n := by omega
  have n1 : (1 : Int) < n := by omega
  have n0 : (0 : Int) < n := by omega
  have hv : ((Lib.beNat [b0, b1, b2, b3] : Nat) : Int) = (b3.toNat : Int) + (b2.toNat : Int) * 256 + (b1.toNat : Int) * 65536 + (b0.toNat : Int) * 16777216 := by
    simp only [Lib.beNat, Lib.beFrom]
    push_cast
    omega
  have HV := Lib.hid hv; clear hv
  go_enter Tryz.func58, Tryz.ntmps58
  go_wp2
  go_quiet (fail)
  go_wp2
  go_ret
  refine ⟨?_, _, rfl⟩
  simp (disch := omega) only [u32_or8, u32_or16, u32_or24]
  rw [HV.out]
  try rfl
theorem drewN_kept (w : World) (k : Nat) (S : List Nat) : Kept S w (w.drewN k) := by
  induction k with
  | zero => exact Kept.refl S w
  | succ k ih => exact ih.drew
/-- The reader at block rr: over the buffer at b (bytes in d), its limit at mb, which is 0: none. -/
structure RS (w : World) (rr mb b d : Nat) (l : List UInt8) : Prop where
  blk : Blk w rr #[.iface 111 (.pointer (some ⟨b, 0, none⟩)), .pointer (some ⟨mb, 0, none⟩)] 119
  max : Blk w mb #[.int .u32 0] 70
  buf : Buf w b d l
  bd : b ≠ d
  rb : rr ≠ b
  mb' : mb ≠ b
  dlt : d < w.heap.size
theorem RS.kept {S : List Nat} {w w' : World} {rr mb b d : Nat} {l : List UInt8} (h : RS w rr mb b d l) (hk : Kept S w w') (h1 : rr ∉ S) (h2 : mb ∉ S) (h3 : b ∉ S) (h4 : d ∉ S) : RS w' rr mb b d l :=
  ⟨h.blk.kept hk h1, h.max.kept hk h2, h.buf.kept hk h3 h4, h.bd, h.rb, h.mb', Nat.lt_of_lt_of_le h.dlt hk.size⟩
theorem RS.step {S : List Nat} {w w' : World} {rr mb b d : Nat} {l l' : List UInt8} (h : RS w rr mb b d l) (hk : Kept S w w') (h1 : rr ∉ S) (h2 : mb ∉ S) (hb : Buf w' b d l') : RS w' rr mb b d l' :=
  ⟨h.blk.kept hk h1, h.max.kept hk h2, hb, h.bd, h.rb, h.mb', Nat.lt_of_lt_of_le h.dlt hk.size⟩
theorem RS.blt {w : World} {rr mb b d : Nat} {l : List UInt8} (h : RS w rr mb b d l) : b < w.heap.size := by
  obtain ⟨_, _, h1, _⟩ := h.buf; exact h1.lt
theorem Rd.buf_inv {w : World} {b d : Nat} {l : List UInt8} {ps Ns} (h : Rd w (.iface 111 (.pointer (some ⟨b, 0, none⟩))) ps d Ns l) : Buf w b d l := by
  generalize hr : (Value.iface 111 (.pointer (some ⟨b, 0, none⟩))) = r at h
  cases h with
  | buf b' d l hb hne => simp at hr; subst hr; exact hb
  | lim R ps d Ns l q N => simp at hr
/-- The seven zero bytes of the scratch row. -/
abbrev scr0 : Obj := .cells #[.int .u8 0, .int .u8 0, .int .u8 0, .int .u8 0, .int .u8 0, .int .u8 0, .int .u8 0] 157
/-- What holds behind the reading of a frame's head: the scratch row has it. -/
def Headed (sc rr mb b d : Nat) (k c0 c1 s0 s1 s2 s3 : UInt8) (rest : List UInt8) (w w1 : World) : Prop :=
  Blk w1 sc (u8s [k, c0, c1, s0, s1, s2, s3]).toArray 157 ∧ RS w1 rr mb b d rest ∧ Kept [sc, b] w w1
theorem head_read (rr mb b d : Nat) (k c0 c1 s0 s1 s2 s3 : UInt8) (rest : List UInt8) (w : World) (h : RS w rr mb b d (k :: c0 :: c1 :: s0 :: s1 :: s2 :: s3 :: rest)) (hl : Small (rest.length + 7)) :
    ∀ n, Calls Tryz.prog 56 #[.iface 111 (.pointer (some ⟨b, 0, none⟩)), .slice (some ⟨w.heap.size, 0, none⟩) 7 7] ((w.alloc scr0).drewN n) fun e w' =>
      e = .returned (.tuple #[.int .i64 7, .nilIface]) ∧ Headed w.heap.size rr mb b d k c0 c1 s0 s1 s2 s3 rest w w' := by
  intro n
  have hk : Kept [] w ((w.alloc scr0).drewN n) := ((Kept.refl [] w).alloc _).trans (drewN_kept _ n []) (by simp)
  have h2 := h.kept hk (by simp) (by simp) (by simp) (by simp)
  have hrd : Rd ((w.alloc scr0).drewN n) (.iface 111 (.pointer (some ⟨b, 0, none⟩))) [b] d [] _ := .buf b d _ h2.buf h2.bd
  have hb := h.blt
  have hd := h.dlt
  have hnew : Blk ((w.alloc scr0).drewN n) w.heap.size (u8s [0, 0, 0, 0, 0, 0, 0]).toArray 157 := Blk.new w _ _
  refine (hrd.full (by simpa [Small] using hl) 7 7 w.heap.size 0 _ (by omega) (Nat.le_refl _) (by unfold Small; omega) hnew (by simp) (by simp; omega) (by omega) (by simp [avail])).mono fun e w' hh => ?_
  obtain ⟨rfl, g1, g2, g3⟩ := hh
  refine ⟨rfl, g2, ?_, (hk.mono (by simp)).trans g3 (by simp)⟩
  have := g1.buf_inv
  refine h2.step g3 ?_ ?_ this
  · have := h.rb; have := h.blk.lt; simp; omega
  · have := h.mb'; have := h.max.lt; simp; omega
/-- The mark at the end is read into the scratch row's first byte. -/
theorem tail_read (sc rr mb b d : Nat) (z : UInt8) (cur : List Value) (rest : List UInt8) (w : World) (h : RS w rr mb b d (z :: rest)) (hl : Small (rest.length + 1)) (hs : Blk w sc cur.toArray 157) (hc : cur.length = 7) (hb : sc ≠ b) (hd : sc ≠ d) (hr : rr ≠ sc) (hm : mb ≠ sc) :
    ∀ n, Calls Tryz.prog 56 #[.iface 111 (.pointer (some ⟨b, 0, none⟩)), .slice (some ⟨sc, 0, none⟩) 1 7] (w.drewN n) fun e w' =>
      e = .returned (.tuple #[.int .i64 1, .nilIface]) ∧ RS w' rr mb b d rest ∧ Kept [sc, b] w w' ∧ w'.cell? ⟨sc, 0, none⟩ = some (.int .u8 (z.toNat : Int)) := by
  intro n
  have hk : Kept [] w (w.drewN n) := drewN_kept _ n []
  have h2 := h.kept hk (by simp) (by simp) (by simp) (by simp)
  have hrd : Rd (w.drewN n) (.iface 111 (.pointer (some ⟨b, 0, none⟩))) [b] d [] _ := .buf b d _ h2.buf h2.bd
  refine (hrd.full (by simpa [Small] using hl) 1 7 sc 0 cur (by omega) (by omega) (by unfold Small; omega) (hs.kept hk (by simp)) (by omega) (by simpa using hb) hd (by simp [avail])).mono fun e w' hh => ?_
  obtain ⟨rfl, g1, g2, g3⟩ := hh
  refine ⟨rfl, h2.step g3 ?_ ?_ g1.buf_inv, (hk.mono (by simp)).trans g3 (by simp), ?_⟩
  · have := h.rb; simp; omega
  · have := h.mb'; simp; omega
  · have := g2.cell 0
    simpa [splice] using this
theorem Headed.facts {sc rr mb b d : Nat} {k c0 c1 s0 s1 s2 s3 : UInt8} {rest : List UInt8} {w w1 : World} (h : Headed sc rr mb b d k c0 c1 s0 s1 s2 s3 rest w w1) :
    (w1.cell? ⟨sc, 0, none⟩ = some (.int .u8 (k.toNat : Int)) ∧ w1.cell? ⟨sc, 1, none⟩ = some (.int .u8 (c0.toNat : Int)) ∧ w1.cell? ⟨sc, 2, none⟩ = some (.int .u8 (c1.toNat : Int)) ∧
      w1.cell? ⟨sc, 3, none⟩ = some (.int .u8 (s0.toNat : Int)) ∧ w1.cell? ⟨sc, 4, none⟩ = some (.int .u8 (s1.toNat : Int)) ∧ w1.cell? ⟨sc, 5, none⟩ = some (.int .u8 (s2.toNat : Int)) ∧ w1.cell? ⟨sc, 6, none⟩ = some (.int .u8 (s3.toNat : Int))) ∧
    (w1.cell? ⟨rr, 0, none⟩ = some (.iface 111 (.pointer (some ⟨b, 0, none⟩))) ∧ w1.cell? ⟨rr, 1, none⟩ = some (.pointer (some ⟨mb, 0, none⟩)) ∧ w1.cell? ⟨mb, 0, none⟩ = some (.int .u32 0)) :=
  ⟨⟨h.1.cell 0, h.1.cell 1, h.1.cell 2, h.1.cell 3, h.1.cell 4, h.1.cell 5, h.1.cell 6⟩, h.2.1.blk.cell 0, h.2.1.blk.cell 1, h.2.1.max.cell 0⟩
theorem Headed.be16 {sc rr mb b d : Nat} {k c0 c1 s0 s1 s2 s3 : UInt8} {rest : List UInt8} {w w1 : World} (h : Headed sc rr mb b d k c0 c1 s0 s1 s2 s3 rest w w1) :
    Calls Tryz.prog 57 #[.slice (some ⟨sc, 1, none⟩) 2 6] w1 fun e w' => e = .returned (.int .u16 (Lib.beNat [c0, c1] : Nat)) ∧ ∃ k, w' = w1.drewN k :=
  be16_any sc 1 2 6 c0 c1 w1 (Nat.le_refl _) h.facts.1.2.1 h.facts.1.2.2.1
theorem Headed.be32 {sc rr mb b d : Nat} {k c0 c1 s0 s1 s2 s3 : UInt8} {rest : List UInt8} {w w1 : World} (h : Headed sc rr mb b d k c0 c1 s0 s1 s2 s3 rest w w1) (n : Nat) :
    Calls Tryz.prog 58 #[.slice (some ⟨sc, 3, none⟩) 4 4] (w1.drewN n) fun e w' => e = .returned (.int .u32 (Lib.beNat [s0, s1, s2, s3] : Nat)) ∧ ∃ k, w' = (w1.drewN n).drewN k :=
  be32_any sc 3 4 4 s0 s1 s2 s3 (w1.drewN n) (Nat.le_refl _) h.facts.1.2.2.2.1 h.facts.1.2.2.2.2.1 h.facts.1.2.2.2.2.2.1 h.facts.1.2.2.2.2.2.2
/-- What a parse of the payload leaves. -/
structure Parsed (rr mb b d : Nat) (rest' : List UInt8) (R : Value → World → Prop) (F : Value) (w2 w' : World) : Prop where
  rs : RS w' rr mb b d rest'
  kept : Kept [b] w2 w'
  res : R F w'
theorem Parsed.later {sc rr mb b d : Nat} {k c0 c1 s0 s1 s2 s3 : UInt8} {rest rest' : List UInt8} {w w1 w2 w3 : World} {R : Value → World → Prop} {F : Value} (h : Headed sc rr mb b d k c0 c1 s0 s1 s2 s3 rest w w1)
    (n : Nat) (hw : w2 = w1.drewN n) (hp : Parsed rr mb b d rest' R F w2 w3) (hb : sc ≠ b) : w3.cell? ⟨rr, 0, none⟩ = some (.iface 111 (.pointer (some ⟨b, 0, none⟩))) ∧
      Blk w3 sc (u8s [k, c0, c1, s0, s1, s2, s3]).toArray 157 ∧ Kept [sc, b] w w3 := by
  subst hw
  have hk : Kept [sc, b] w1 w3 := ((drewN_kept w1 n [sc, b]).trans hp.kept (by simp))
  exact ⟨hp.rs.blk.cell 0, (h.1.kept (drewN_kept w1 n []) (by simp)).kept hp.kept (by simpa using hb), h.2.2.trans hk (fun x hx => .inl hx)⟩
/-- s is a slice with the bytes l, which lie in block d. -/
def BytesAt (w : World) (s : Value) (d : Nat) (l : List UInt8) : Prop :=
  ∃ off c, s = .slice (some ⟨d, off, none⟩) l.length c ∧ l.length ≤ c ∧ c ≤ 9223372036854775807 ∧ ∀ j v, (u8s l)[j]? = some v → w.cell? ⟨d, off + j, none⟩ = some v
theorem BytesAt.kept {S : List Nat} {w w' : World} {s : Value} {d : Nat} {l : List UInt8} (h : BytesAt w s d l) (hk : Kept S w w') (hd : d ∉ S) : BytesAt w' s d l := by
  obtain ⟨off, c, h1, h2, h3, h4⟩ := h
  exact ⟨off, c, h1, h2, h3, fun j v hj => hk.cell (h4 j v hj) hd⟩
/-- An own row of bytes, taken as a buffer's. -/
theorem own_cases {w : World} {v : Value} {l : List UInt8} (h : w.ownsRow 0 5 1 v l.length (u8s l)) :
    (l = [] ∧ v = .slice none 0 0) ∨ ∃ g cap, v = .slice (some ⟨g, 0, none⟩) l.length cap ∧ l.length ≤ cap ∧ ∀ j v, (u8s l)[j]? = some v → w.cell? ⟨g, 0 + j, none⟩ = some v := by
  obtain ⟨h1, h2⟩ := h
  rcases h2 with ⟨rfl, hn⟩ | ⟨g, cap, cur, rfl, _, hg, hc, _, _, ht⟩
  · exact .inl ⟨List.eq_nil_of_length_eq_zero hn, rfl⟩
  · refine .inr ⟨g, cap, rfl, hc, fun j v hj => ?_⟩
    rw [← ht, Nat.mul_one] at hj
    have hj2 : cur.toList[j]? = some v := by
      rw [List.getElem?_take] at hj
      split at hj
      · exact hj
      · simp at hj
    have : Blk w g cur 5 := hg
    rw [Nat.zero_add, this.cell j]
    simpa using hj2
theorem mk_rs {w2 : World} {mb d : Nat} {ao : Option Addr} {c : Nat} {l : List UInt8} (hm : Blk w2 mb #[.int .u32 0] 70) (hd : d < w2.heap.size) (hc : l.length ≤ c)
    (hs : l ≠ [] → ∃ off, ao = some ⟨d, off, none⟩ ∧ ∀ j v, (u8s l)[j]? = some v → w2.cell? ⟨d, off + j, none⟩ = some v) :
    RS ((w2.alloc (.cells #[.slice ao l.length c] 113)).alloc (.cells #[.iface 111 (.pointer (some ⟨w2.heap.size, 0, none⟩)), .pointer (some ⟨mb, 0, none⟩)] 119))
      (w2.heap.size + 1) mb w2.heap.size d l := by
  have hk : Kept [] w2 ((w2.alloc (.cells #[.slice ao l.length c] 113)).alloc (.cells #[.iface 111 (.pointer (some ⟨w2.heap.size, 0, none⟩)), .pointer (some ⟨mb, 0, none⟩)] 119)) :=
    ((Kept.refl [] w2).alloc _).alloc _
  have := hm.lt
  refine ⟨Blk.new_at (by simp), hm.kept hk (by simp), ⟨ao, c, (Blk.new w2 _ _).alloc _, hc, fun hl => ?_⟩, by omega, by omega, by omega, by simp; omega⟩
  obtain ⟨off, h1, h2⟩ := hs hl
  exact ⟨off, h1, fun j v hj => hk.cell (h2 j v hj) (by simp)⟩
set_option maxHeartbeats 400000 in
theorem zzread_any (s : Value) (d0 : Nat) (l : List UInt8) (w : World) (hs : BytesAt w s d0 l) (hl : l.length ≤ 70368744177664) (R : Value → Value → Nat → World → Prop)
    (hp : ∀ w1 rr mb b d, RS w1 rr mb b d l → w.heap.size ≤ rr → w.heap.size ≤ mb → w.heap.size ≤ b → (l ≠ [] → w.heap.size ≤ d) → Kept [] w w1 → Calls Tryz.prog 43 #[.pointer (some ⟨rr, 0, none⟩)] w1 fun e w' =>
      ∃ (F v : Value) (ao : Option Addr) (n c : Nat), e = .returned (.tuple #[F, v]) ∧ Blk w' b #[.slice ao n c] 113 ∧ R F v n w') :
    Calls Tryz.prog 24 #[s, .int .u32 0] w fun e w' => ∃ (F v : Value) (n : Nat), e = .returned (.tuple #[F, .int .i64 (n : Int), v]) ∧ R F v n w' := by
  obtain ⟨off, c, rfl, hc, hcm, hcell⟩ := hs
  obtain ⟨i, hi, hz0, hz1, hz2⟩ := info_parts info_u8
  have hnil : (w.alloc (.cells #[.int .u32 0] 70)).ownsRow 0 5 1 (.slice none 0 0) 0 [] := World.ownsRow_nil _ _ _ _
  have hsrc : ∀ j u, (u8s l)[j]? = some u → (w.alloc (.cells #[.int .u32 0] 70)).cell? ((⟨d0, off, none⟩ : Addr).add j) = some u := fun j u hj => by
    rw [addr_add]
    exact ((Kept.refl [] w).alloc _).cell (hcell j u hj) (by simp)
  have hlen : (u8s l).length = l.length * 1 := by simp
  have hb : (0 + l.length) * 1 ≤ 140737488355328 := by omega
  have hb' : 0 + l.length ≤ 140737488355328 := by omega
  have hmb : Blk (w.alloc (.cells #[.int .u32 0] 70)) w.heap.size #[.int .u32 0] 70 := Blk.new w _ _
  have HP := Lib.hid hp; have HS := Lib.hid hsrc; have HN := Lib.hid hnil; have HI := Lib.hid (And.intro hi (And.intro hz0 (And.intro hz1 hz2))); have HM := Lib.hid hmb
  clear hp hsrc hnil hi hz0 hz1 hz2 hmb hcell
  go_enter Tryz.func24, Tryz.ntmps24
  go_wp2_with (at_builtin; refine wpList_append2 _ rfl _ _ 22 22 rfl 5 5 Tryz.underlying22 i (.int .u8 0) 1 1 Tryz.underlying22 HI.out.1 HI.out.2.1 HI.out.2.2.1 HI.out.2.2.2 rfl (by decide) _ _ _ rfl HN.out ⟨d0, off, none⟩ l.length c (u8s l) rfl hlen HS.out (u8s_one _) hb hb' ?_)
  intro v' w2 h1 h2 h3
  have hk2 : Kept [] w w2 := ((Kept.refl [] w).alloc _).grown h2 (by simp [Value.ownBlock])
  have hm2 : Blk w2 w.heap.size #[.int .u32 0] 70 := HM.out.kept (S := []) ((Kept.refl [] _).grown h2 (by simp [Value.ownBlock])) (by simp)
  have hw2 : w.heap.size < w2.heap.size := hm2.lt
  have hfin : ∃ ao cap d, v' = .slice ao l.length cap ∧ l.length ≤ cap ∧ d < w2.heap.size ∧ (l ≠ [] → w.heap.size ≤ d) ∧
      (l ≠ [] → ∃ off, ao = some ⟨d, off, none⟩ ∧ ∀ j v, (u8s l)[j]? = some v → w2.cell? ⟨d, off + j, none⟩ = some v) := by
    rcases own_cases h1 with ⟨rfl, rfl⟩ | ⟨g, cap, rfl, hc2, hcell2⟩
    · exact ⟨none, 0, w.heap.size, rfl, Nat.le_refl _, hw2, fun h => absurd rfl h, fun h => absurd rfl h⟩
    · have hg : g = w.heap.size + 1 := by simpa [Value.ownBlock] using h3
      subst hg
      refine ⟨_, cap, w.heap.size + 1, rfl, hc2, ?_, fun _ => by omega, fun _ => ⟨0, rfl, hcell2⟩⟩
      rcases h1.2 with ⟨h, _⟩ | ⟨g, _, _, h, _, hg, _⟩
      · cases h
      · cases h; exact lt_of_block hg
  obtain ⟨ao, cap, d, rfl, f1, f2, f3, f4⟩ := hfin
  have hrs := mk_rs hm2 f2 f1 f4
  have hk3 : Kept [] w _ := hk2.trans (S' := []) (((Kept.refl [] w2).alloc (.cells #[.slice ao l.length cap] 113)).alloc (.cells #[.iface 111 (.pointer (some ⟨w2.heap.size, 0, none⟩)), .pointer (some ⟨w.heap.size, 0, none⟩)] 119)) (by simp)
  have hcall := HP.out _ _ _ _ _ hrs (by omega) (Nat.le_refl _) (by omega) f3 hk3
  have HC := Lib.hid hcall
  clear hcall hrs hk3 hk2 hm2 h1 h2 h3 f1 f2 f3 f4
  go_wp2_with (first
    | (go_at_call 43; refine HC.out.mono ?_; rintro e w3 ⟨F, v, ao3, n3, c3, rfl, hb3, hR⟩; have hlen3 := len_any _ _ _ _ _ hb3.cell0; have HL := Lib.hid hlen3; clear hlen3 hb3)
    | (go_at_call 44; refine HL.out.mono ?_; rintro e w4 ⟨rfl, rfl⟩))
  go_ret3
  exact ⟨F, v, n3, rfl, hR⟩
theorem catch_idle (p : Addr) (w : World) :
    CallsD Tryz.prog 42 #[.pointer (some p)] .returning w fun e u' w' => e = .returned (.tuple #[]) ∧ u' = .returning ∧ w = w' := by
  refine callsD_of_wpS Tryz.func42 rfl fun c₀ cs hu => ?_
  apply wpS_seq
  apply wpS_region
  simp [wpOpsS, go_sem, recoverD, hu, Tryz.ntmps42, Exit.thenS]
  refine wpS_cond (t := false) (by simp [Act.eval, Array.replicate]) ?_
  simp only [Bool.false_eq_true, if_false]
  refine wpS_of_wp (wp_skip ?_)
  cases c₀
  simp_all [bodyPostS, results, Tryz.results42]
theorem mf_any (fn : Fn) (first cap : Array Value) (w : World) : (Instr.makeFunc fn first cap).run Tryz.prog w = .ok (.func fn first cap) w := rfl
set_option maxHeartbeats 400000 in
theorem quietly_parse (a0 a1 a2 a3 : Value) (w : World) (R : World → Prop)
    (hR : ∀ w', R w' → Blk w' w.heap.size #[.bool false] 4)
    (hc : Calls Tryz.prog 23 #[a0, a1, a2, a3] (w.alloc (.cells #[.bool false] 4)) fun e w' => e = .returned (.tuple #[]) ∧ R w') :
    Calls Tryz.prog 22 #[.func (.func 23) #[] #[a0, a1, a2, a3]] w fun e w' => e = .returned (.bool true) ∧ ∃ w1, R w1 ∧ w' = w1.setCell ⟨w.heap.size, 0, none⟩ (.bool true) := by
  have hmf := mf_any
  have HC := Lib.hid hc; have HR := Lib.hid hR
  clear hc hR
  go_enter_defers Tryz.func22, Tryz.ntmps22
  go_wp2_with (go_at_call 23; refine HC.out.mono ?_; rintro e w1 ⟨rfl, h1⟩; have hb := HR.out _ h1; have q0 := hb.cell0; have q1 := hb.free 0; have H1 := Lib.hid h1; have HB := Lib.hid hb; clear h1 hb)
  refine leaves_cons (f := 42) (args := #[.pointer (some ⟨w.heap.size, 0, none⟩)]) (by simp) (by simp [go_sem]) ?_
  refine (catch_idle ⟨w.heap.size, 0, none⟩ _).mono ?_
  rintro e u' w'' ⟨rfl, rfl, rfl⟩
  have q3 : (w1.setCell ⟨w.heap.size, 0, none⟩ (.bool true)).cell? ⟨w.heap.size, 0, none⟩ = some (.bool true) := (HB.out.setCell 0 _).cell 0
  simp [Leaves, settle, results, Tryz.results22, go_sem, q3]
  exact ⟨w1, H1.out, rfl⟩
set_option maxHeartbeats 400000 in
theorem quietly_write (a0 a1 a2 a3 : Value) (w : World) (R : World → Prop)
    (hR : ∀ w', R w' → Blk w' w.heap.size #[.bool false] 4)
    (hc : Calls Tryz.prog 51 #[a0, a1, a2, a3] (w.alloc (.cells #[.bool false] 4)) fun e w' => e = .returned (.tuple #[]) ∧ R w') :
    Calls Tryz.prog 22 #[.func (.func 51) #[] #[a0, a1, a2, a3]] w fun e w' => e = .returned (.bool true) ∧ ∃ w1, R w1 ∧ w' = w1.setCell ⟨w.heap.size, 0, none⟩ (.bool true) := by
  have hmf := mf_any
  have HC := Lib.hid hc; have HR := Lib.hid hR
  clear hc hR
  go_enter_defers Tryz.func22, Tryz.ntmps22
  go_wp2_with (go_at_call 51; refine HC.out.mono ?_; rintro e w1 ⟨rfl, h1⟩; have hb := HR.out _ h1; have q0 := hb.cell0; have q1 := hb.free 0; have H1 := Lib.hid h1; have HB := Lib.hid hb; clear h1 hb)
  refine leaves_cons (f := 42) (args := #[.pointer (some ⟨w.heap.size, 0, none⟩)]) (by simp) (by simp [go_sem]) ?_
  refine (catch_idle ⟨w.heap.size, 0, none⟩ _).mono ?_
  rintro e u' w'' ⟨rfl, rfl, rfl⟩
  have q3 : (w1.setCell ⟨w.heap.size, 0, none⟩ (.bool true)).cell? ⟨w.heap.size, 0, none⟩ = some (.bool true) := (HB.out.setCell 0 _).cell 0
  simp [Leaves, settle, results, Tryz.results22, go_sem, q3]
  exact ⟨w1, H1.out, rfl⟩
/-- The zero of a frame's methods, properties and all: its forty cells. -/
def frame0 : List Value :=
  [.int .i64 0, .int .i64 0, .int .i64 0, .int .i64 0, .slice none 0 0, .int .i64 0, .int .u64 0,
   .bool false, .bool false, .bool false, .bool false, .bool false, .bool false, .bool false, .bool false, .bool false, .bool false, .bool false, .bool false, .bool false, .bool false,
   .string .empty, .string .empty, .string .empty, .string .empty, .string .empty, .string .empty, .string .empty, .string .empty, .string .empty, .string .empty, .string .empty, .string .empty, .string .empty, .string .empty,
   .int .i64 0, .int .i64 0, .int .i64 0, .slice none 0 0, .slice none 0 0]
theorem frame_size : (Tryz.prog.info? 35).map (·.size) = some 40 := by kernel_rfl
theorem frame0_one : ∀ u ∈ frame0, u.oneCell' = true := by decide +kernel
theorem alloc_frame (w : World) : (Instr.alloc 35 true (.tuple #[])).run Tryz.prog w = .ok (.pointer (some ⟨w.heap.size, 0, none⟩)) (w.alloc (.cells frame0.toArray 35)) := by kernel_rfl
theorem results_parse {tmps : Array Value} {f re ok : Nat} {cs : Array Value} {x y : Value} {w : World} (h1 : tmps.getD 2 undef = .pointer (some ⟨f, 0, none⟩)) (h2 : tmps.getD 3 undef = .pointer (some ⟨re, 0, none⟩)) (h3 : tmps.getD 4 undef = .pointer (some ⟨ok, 0, none⟩))
    (hf : Blk w f cs 35) (hs : cs.size = 40) (hr : w.cell? ⟨re, 0, none⟩ = some x) (ho : w.cell? ⟨ok, 0, none⟩ = some y) :
    (results Tryz.f9 tmps).run Tryz.prog w = .ok (.tuple #[.agg cs, x, y]) w := by
  have hl := run_loadVar_row (P := Tryz.prog) w f 35 35 cs (0, 0) _ hf Tryz.underlying35 rfl (by rw [hs]; exact frame_size)
  simp only [Array.getD_eq_getD_getElem?] at h1 h2 h3
  have hl3 : (loadVar 3 ⟨re, 0, none⟩).run Tryz.prog w = .ok x w := by simp [go_sem, loadVar, hr]
  have hl4 : (loadVar 4 ⟨ok, 0, none⟩).run Tryz.prog w = .ok y w := by simp [go_sem, loadVar, ho]
  simp [results, Tryz.results9, h1, h2, h3, asAddr, hl, hl3, hl4]
theorem heap_same {w : World} {g : Nat} (f : Obj → Obj) {o : Obj} (h : w.heap[g]? = some o) (hf : f o = o) : ({ w with heap := w.heap.modify g f } : World) = w := by
  have hlt := lt_of_block h
  have h' : w.heap[g] = o := by simpa [Array.getElem?_eq_getElem hlt] using h
  have : w.heap.modify g f = w.heap := by
    apply Array.ext
    · simp
    · intro i h1 h2
      rw [Array.getElem_modify]
      split
      · rename_i he; subst he; rw [h', hf]
      · rfl
  rw [this]
theorem setRow_same {w : World} {g : Nat} {t : TypeId} {cs : Array Value} (h : Blk w g cs t) : w.setRow g cs = w := heap_same _ h rfl
theorem setCell_same {w : World} {g : Nat} {t : TypeId} {v : Value} (h : Blk w g #[v] t) : w.setCell ⟨g, 0, none⟩ v = w := heap_same _ h rfl
section
variable {P : Program}
/-- A load of a whole value from a variable that is known whole. -/
theorem wpList_load_row {ops : Array Oper} {rest : List Oper} {o : Oper} {a : Act} {w : World} {Q : Exit → Act → World → Prop} (hgd : o.guard = none) (ty : TypeId) (x : Operand) (ho : o.op = .load ty x)
    (g : Nat) (hx : a.eval x = .pointer (some ⟨g, 0, none⟩)) (t : TypeId) (cs : Array Value) (hg : Blk w g cs t) (d : TypeDesc)
    (hu : P.underlying ty = some d) (hd : (match d with | .struct _ | .array _ _ => true | _ => false) = true) (hi : (P.info? ty).map (·.size) = some cs.size)
    (h : wpList P ops Q rest (a.put o.dst (.agg cs)) w) : wpList P ops Q (o :: rest) a w := by
  refine wpList_plain hgd fun K hK => ?_
  have hr := run_loadAt_row (P := P) w g t ty cs d hg hu hd hi
  unfold Oper.wp execOp
  simp only [ho, hx, Sem.run_bind, Sem.run_pure, hr, Result.andThen_ok, Oper.upon_skip]
  exact hK _ _ h
end
section
variable {P : Program} {ops : Array Oper} {rest : List Oper} {o : Oper} {a : Act} {w : World} {Q : Act → Prop}
/-- A load of a whole value, in a region that leaves the world as it is. -/
theorem wpStill_load_row (hgd : o.guard = none) (ty : TypeId) (x : Operand) (ho : o.op = .load ty x) (g : Nat) (hx : a.eval x = .pointer (some ⟨g, 0, none⟩)) (t : TypeId) (cs : Array Value) (hg : Blk w g cs t) (d : TypeDesc)
    (hu : P.underlying ty = some d) (hd : (match d with | .struct _ | .array _ _ => true | _ => false) = true) (hi : (P.info? ty).map (·.size) = some cs.size)
    (h : wpStill P ops w Q rest (a.put o.dst (.agg cs))) : wpStill P ops w Q (o :: rest) a := by
  refine wpStill_step fun K hK => ?_
  have hr := run_loadAt_row (P := P) w g t ty cs d hg hu hd hi
  rw [if_pos (by simp [Region.wanted, hgd])]
  unfold Oper.still execOp
  simp only [ho, hx, Sem.run_bind, Sem.run_pure, hr, Result.andThen_ok, Oper.stillUpon_value]
  exact hK _ h
/-- A store of the value that is there, in a region that leaves the world as it is. -/
theorem wpStill_store_row (hgd : o.guard = none) (hdst : o.dst = none) (ty : TypeId) (x y : Operand) (ho : o.op = .store ty x y) (g : Nat) (hx : a.eval x = .pointer (some ⟨g, 0, none⟩)) (t : TypeId) (cs : List Value) (hg : Blk w g cs.toArray t)
    (hv : (a.eval y).cells = cs.toArray) (h1 : ∀ u ∈ cs, u.oneCell' = true) (hi : (P.info? ty).map (·.size) = some cs.length)
    (h : wpStill P ops w Q rest a) : wpStill P ops w Q (o :: rest) a := by
  refine wpStill_step fun K hK => ?_
  have hr := run_storeAt_row (P := P) w g t ty cs cs (a.eval y) hg hv rfl h1 hi
  rw [setRow_same hg] at hr
  rw [if_pos (by simp [Region.wanted, hgd])]
  unfold Oper.still execOp
  simp only [ho, hx, Sem.run_bind, Sem.run_pure, hr, Result.andThen_ok, Oper.stillUpon_skip, hdst, Act.put]
  exact hK _ h
end
/-- What the reading of a frame and the making of its data do: the forty cells and the bytes left. -/
def FrameGot (s : Value) (w1 : World) (R : Nat → List Value → Nat → World → Prop) : Prop :=
  Calls Tryz.prog 24 #[s, .int .u32 0] w1 fun e w' => ∃ (F : Value) (n : Nat), e = .returned (.tuple #[F, .int .i64 (n : Int), .nilIface]) ∧ Kept [] w1 w' ∧
    Calls Tryz.prog 25 #[F] w' fun e w2 => ∃ cs : List Value, e = .returned (.tuple #[.agg cs.toArray, .bool true]) ∧ cs.length = 40 ∧ (∀ u ∈ cs, u.oneCell' = true) ∧ Kept [] w' w2 ∧ R w1.heap.size cs n w2
set_option maxHeartbeats 400000 in
theorem parse1_ok (dt f ok re : Nat) (s : Value) (w : World) (R : Nat → List Value → Nat → World → Prop) (hd : w.cell? ⟨dt, 0, none⟩ = some s) (hs : ∃ ao n c, s = .slice ao n c)
    (hf : Blk w f frame0.toArray 35) (ho : ∃ v, Blk w ok #[v] 4) (hr : ∃ v, Blk w re #[v] 3) (h1 : f ≠ ok) (h2 : f ≠ re) (h3 : ok ≠ re) (hp : FrameGot s w R) :
    Calls Tryz.prog 23 #[.pointer (some ⟨dt, 0, none⟩), .pointer (some ⟨f, 0, none⟩), .pointer (some ⟨ok, 0, none⟩), .pointer (some ⟨re, 0, none⟩)] w fun e w' =>
      e = .returned (.tuple #[]) ∧ ∃ (cs : List Value) (n : Nat) (w2 : World), cs.length = 40 ∧ (∀ u ∈ cs, u.oneCell' = true) ∧ R w.heap.size cs n w2 ∧ Kept [] w w2 ∧ Kept [f, ok, re] w2 w' ∧
        Blk w' f cs.toArray 35 ∧ Blk w' ok #[.bool true] 4 ∧ Blk w' re #[.int .i64 (n : Int)] 3 := by
  obtain ⟨ao, n, c, rfl⟩ := hs
  obtain ⟨vo, ho⟩ := ho
  obtain ⟨vr, hr⟩ := hr
  have HP := Lib.hid hp; have HB := Lib.hid (And.intro hf (And.intro ho hr)); clear hp hf ho hr
  go_enter Tryz.func23, Tryz.ntmps23
  go_wp2_with (first
    | (go_at_call 24; refine HP.out.mono ?_; rintro e w1 ⟨F, n, rfl, hk, hc⟩; have HC := Lib.hid (And.intro hk hc); clear hk hc)
    | (go_at_call 25; refine HC.out.2.mono ?_; rintro e w2 ⟨cs, rfl, hl, h1c, hk2, hR⟩; have HR := Lib.hid (And.intro hl (And.intro h1c (And.intro (HC.out.1.trans hk2 (by simp)) hR))); clear hl h1c hk2 hR)
    | (refine wpList_store_row rfl rfl 35 (.tmp 1) (.tmp 18) rfl f rfl 35 frame0 cs (HB.out.1.kept HR.out.2.2.1 (by simp)) rfl HR.out.1 HR.out.2.1 (by rw [frame_size, HR.out.1]) ?_; intro w3 g1 g2; have b2 := (HB.out.2.1.kept HR.out.2.2.1 (by simp)).kept g2 (nin1 (Ne.symm h1)); have b3 := (HB.out.2.2.kept HR.out.2.2.1 (by simp)).kept g2 (nin1 (Ne.symm h2)); have q2 := b2.cell0; have f2 := b2.free 0; have q3 := b3.cell0; have f3 := b3.free 0; have HG := Lib.hid (And.intro g1 (And.intro g2 (And.intro b2 b3))); clear g1 g2 b2 b3))
  go_end0
  obtain ⟨g1, g2, b2, b3⟩ := HG.out
  have k0 : Kept [f, ok, re] w2 ((w3.setCell ⟨ok, 0, none⟩ (.bool true)).setCell ⟨re, 0, none⟩ (.int .i64 (n : Int))) := Kept.setCell (Kept.setCell (g2.mono (by simp)) (p := ⟨ok, 0, none⟩) (by simp) (.bool true)) (p := ⟨re, 0, none⟩) (by simp) (.int .i64 (n : Int))
  exact ⟨rfl, cs, n, w2, HR.out.1, HR.out.2.1, HR.out.2.2.2, HR.out.2.2.1, k0, (g1.setCell_other (by simpa using h1) _).setCell_other (by simpa using h2) _, (b2.setCell 0 (.bool true)).setCell_other (by simpa using h3) _, (b3.setCell_other (by simpa using Ne.symm h3) _).setCell 0 (.int .i64 (n : Int))⟩
theorem FrameGot.kept {s : Value} {w w' : World} {R : Nat → List Value → Nat → World → Prop} (h : FrameGot s w R) (he : w = w') : FrameGot s w' R := he ▸ h
set_option maxHeartbeats 1000000 in
set_option maxRecDepth 100000 in
theorem parse_ok (s : Value) (w : World) (hs : ∃ ao n c, s = .slice ao n c) (R : Nat → List Value → Nat → World → Prop) (hp : ∀ w1, Kept [] w w1 → FrameGot s w1 R) :
    Calls Tryz.prog 9 #[s] w fun e w' => ∃ (cs : List Value) (n base : Nat) (w2 : World) (S : List Nat), e = .returned (.tuple #[.agg cs.toArray, .int .i64 (n : Int), .bool true]) ∧
      cs.length = 40 ∧ (∀ u ∈ cs, u.oneCell' = true) ∧ w.heap.size ≤ base ∧ (∀ x ∈ S, x < base) ∧ R base cs n w2 ∧ Kept S w2 w' ∧ Kept [] w w' := by
  obtain ⟨ao, n, c, rfl⟩ := hs
  have ha := alloc_frame
  have hmf := mf_any
  obtain ⟨wa, hwa⟩ : ∃ wa, wa = (((w.alloc (.cells #[.slice ao n c] 22)).alloc (.cells frame0.toArray 35)).alloc (.cells #[.int .i64 0] 3)).alloc (.cells #[.bool false] 4) := ⟨_, rfl⟩
  have hka : Kept [] w wa := by subst hwa; exact ((((Kept.refl [] w).alloc _).alloc _).alloc _).alloc _
  have hb0 : Blk wa w.heap.size #[.slice ao n c] 22 := by subst hwa; exact (((Blk.new w _ _).alloc _).alloc _).alloc _
  have hb1 : Blk wa (w.heap.size + 1) frame0.toArray 35 := by subst hwa; exact ((Blk.new_at (by simp)).alloc _).alloc _
  have hb2 : Blk wa (w.heap.size + 1 + 1) #[.int .i64 0] 3 := by subst hwa; exact (Blk.new_at (by simp)).alloc _
  have hb3 : Blk wa (w.heap.size + 1 + 1 + 1) #[.bool false] 4 := by subst hwa; exact Blk.new_at (by simp)
  have hsz : wa.heap.size = w.heap.size + 1 + 1 + 1 + 1 := by subst hwa; simp
  have hkq : Kept [] wa (wa.alloc (.cells #[.bool false] 4)) := (Kept.refl [] wa).alloc _
  have hc1 := parse1_ok w.heap.size (w.heap.size + 1) (w.heap.size + 1 + 1 + 1) (w.heap.size + 1 + 1) (.slice ao n c) (wa.alloc (.cells #[.bool false] 4)) R (hb0.kept hkq (by simp)).cell0 ⟨ao, n, c, rfl⟩
    (hb1.kept hkq (by simp)) ⟨_, hb3.kept hkq (by simp)⟩ ⟨_, hb2.kept hkq (by simp)⟩ (by omega) (by omega) (by omega) (hp _ (hka.trans hkq (by simp)))
  have hq := quietly_parse _ _ _ _ wa (fun w' => ∃ (cs : List Value) (n : Nat) (w2 : World), cs.length = 40 ∧ (∀ u ∈ cs, u.oneCell' = true) ∧ R (wa.alloc (.cells #[.bool false] 4)).heap.size cs n w2 ∧ Kept [] (wa.alloc (.cells #[.bool false] 4)) w2 ∧ Kept [w.heap.size + 1, w.heap.size + 1 + 1 + 1, w.heap.size + 1 + 1] w2 w' ∧
        Blk w' (w.heap.size + 1) cs.toArray 35 ∧ Blk w' (w.heap.size + 1 + 1 + 1) #[.bool true] 4 ∧ Blk w' (w.heap.size + 1 + 1) #[.int .i64 (n : Int)] 3)
    (fun w' hk => by
      obtain ⟨cs, n, w2, _, _, _, h4, h5, _⟩ := hk
      exact ((Blk.new wa _ _).kept h4 (by simp)).kept h5 (by simp; omega)) hc1
  have HQ := Lib.hid hq; have HA := Lib.hid (And.intro hka hkq); have HZ := Lib.hid hsz
  have HW := Lib.hid hwa
  clear hq hc1 hka hkq hb0 hb1 hb2 hb3 hsz hp hwa
  go_enter Tryz.func9, Tryz.ntmps9
  go_wp2_with fail
  have hq := HQ.out
  rw [HW.out] at hq
  refine hq.mono ?_
  clear hq
  rintro e w' ⟨rfl, w1, ⟨cs, n1, w2, x1, x2, x3, x4, x5, b1, b3, b2⟩, rfl⟩
  rw [← HW.out] at x3 x4
  rw [← HW.out, HZ.out]
  obtain ⟨a1, a2⟩ := HA.out
  have hks : Kept [wa.heap.size] w1 (w1.setCell ⟨wa.heap.size, 0, none⟩ (.bool true)) := (Kept.refl _ w1).setCell (by simp) _
  rw [HZ.out] at hks
  have b1 := b1.kept hks (by simp)
  have b2 := b2.kept hks (by simp)
  have b3 := b3.kept hks (by simp)
  have hk5 := (x5.mono (S' := [w.heap.size + 1, w.heap.size + 1 + 1 + 1, w.heap.size + 1 + 1, w.heap.size + 1 + 1 + 1 + 1]) (fun x hx => .inl (by simp at hx ⊢; omega))).trans hks (fun x hx => .inl (by simp at hx ⊢; omega))
  have hkf : Kept [] w (w1.setCell ⟨w.heap.size + 1 + 1 + 1 + 1, 0, none⟩ (.bool true)) := ((a1.trans a2 (by simp)).trans x4 (by simp)).trans hk5 (fun x hx => .inr (by simp at hx; omega))
  generalize w1.setCell ⟨w.heap.size + 1 + 1 + 1 + 1, 0, none⟩ (.bool true) = w3 at b1 b2 b3 hkf hk5 ⊢
  have q2 := b2.cell0
  have q3 := b3.cell0
  have f2 := b2.free 0
  have f3 := b3.free 0
  have l3 := setCell_same (w := w3.drew) b2
  have l4 := setCell_same (w := w3.drew) b3
  have HB := Lib.hid (And.intro b1 (And.intro b2 (And.intro b3 (And.intro hkf (And.intro hk5 (And.intro x1 (And.intro x2 x3)))))))
  clear b1 b2 b3 hkf hks hk5 x1 x2 x3 x4 x5 a1 a2
  go_wp2_with fail
  refine wp_region_still_lit (by kernel_rfl) (by kernel_rfl) ?_
  change wpStill _ _ w3.drew _ _ _
  refine wpStill_load_row rfl 35 (.tmp 2) rfl (w.heap.size + 1) rfl 35 cs.toArray HB.out.1 _ Tryz.underlying35 rfl (by simp [HB.out.2.2.2.2.2.1, frame_size]) ?_
  still_step
  refine wpStill_store_row rfl rfl 35 (.tmp 2) (.tmp 15) rfl (w.heap.size + 1) rfl 35 cs HB.out.1 rfl HB.out.2.2.2.2.2.2.1 (by simp [HB.out.2.2.2.2.2.1, frame_size]) ?_
  still_step
  still_step
  refine wpStill_nil ?_
  go_wp2_with fail
  obtain ⟨b1, b2, b3, hkf, hk5, x1, x2, x3⟩ := HB.out
  have hk0 : Kept [] w3 w3.drew := (Kept.refl [] w3).drew
  refine bodyPost_ret (v := .tuple #[.agg cs.toArray, .int .i64 (n1 : Int), .bool true]) (results_parse (f := w.heap.size + 1) (re := w.heap.size + 1 + 1) (ok := w.heap.size + 1 + 1 + 1) rfl rfl rfl (b1.kept hk0 (by simp)) (by simp [x1]) (b2.kept hk0 (by simp)).cell0 (b3.kept hk0 (by simp)).cell0) rfl
    ⟨cs, n1, _, w2, _, rfl, x1, x2, ?_, ?_, x3, hk5.trans hk0 (by simp), hkf.trans hk0 (by simp)⟩
  · have := HZ.out; simp; omega
  · intro x hx; have := HZ.out; simp at hx ⊢; omega
section
variable {P : Program} {ops : Array Oper} {rest : List Oper} {o : Oper} {a : Act} {w : World} {Q : Exit → Act → World → Prop}
theorem wpList_run (hgd : o.guard = none) (v : Value) (w' : World) (hr : (execOp a.eval o).run P w = .ok (.value v) w') (h : wpList P ops Q rest (a.put o.dst v) w') : wpList P ops Q (o :: rest) a w := by
  refine wpList_plain hgd fun K hK => ?_
  unfold Oper.wp
  rw [hr]
  exact hK _ _ h
/-- A new variable: of the world behind it only what it holds is told. (The slot that it goes to, 'd', tells two of them apart: a world that does not fit would send the unifier into the whole run.) -/
theorem wpList_alloc (hgd : o.guard = none) (d : Nat) (hd : o.dst = some d) (ty : TypeId) (ho : o.op = .alloc ty) (cs : Array Value) (hr : (Instr.alloc ty true (.tuple #[])).run P w = .ok (.pointer (some ⟨w.heap.size, 0, none⟩)) (w.alloc (.cells cs ty)))
    (h : ∀ w', Blk w' w.heap.size cs ty → Kept [] w w' → w.heap.size < w'.heap.size → wpList P ops Q rest (a.put o.dst (.pointer (some ⟨w.heap.size, 0, none⟩))) w') : wpList P ops Q (o :: rest) a w :=
  wpList_run hgd _ _ (by simp only [execOp, ho, Sem.run_bind, hr, Result.andThen_ok, Sem.run_pure]) (h _ (Blk.new w cs ty) ((Kept.refl [] w).alloc _) (by simp))
theorem wpList_build (hgd : o.guard = none) (ty : TypeId) (parts : Array (Nat × Operand)) (ho : o.op = .build ty parts) (ps : Array (Nat × Value)) (hp : parts.map (fun (i, x) => (i, a.eval x)) = ps) (v : Value) (hr : (Instr.build ty ps).run P w = .ok v w)
    (h : wpList P ops Q rest (a.put o.dst v) w) : wpList P ops Q (o :: rest) a w :=
  wpList_run hgd v w (by subst hp; simp only [execOp, ho, Sem.run_bind, hr, Result.andThen_ok, Sem.run_pure]) h
end
end Go.Proofs.YtkcdakohmfodjaaGreat
namespace Go.Proofs.YtkcdakohmfodjaaGreat
open Go.RowKit
open Go.ChangeMaps (setBlock)
set_option linter.unusedVariables false
set_option linter.unusedSimpArgs false
/-- The entries of a map, the i-th born at i. -/
def mapEnts : List (Value × Value) → Nat → List MapEntry
  | [], _ => []
  | (k, v) :: l, i => ⟨k, v, i⟩ :: mapEnts l (i + 1)
/-- Block b is the map with these keys and values. -/
def MapAt (w : World) (b : Nat) (es : List (Value × Value)) : Prop := w.heap[b]? = some (.map (mapEnts es 0).toArray es.length)
theorem mapEnts_length (es : List (Value × Value)) (i : Nat) : (mapEnts es i).length = es.length := by
  induction es generalizing i with
  | nil => rfl
  | cons e es ih => simp [mapEnts, ih]
theorem mapEnts_append (es fs : List (Value × Value)) (i : Nat) : mapEnts (es ++ fs) i = mapEnts es i ++ mapEnts fs (i + es.length) := by
  induction es generalizing i with
  | nil => simp [mapEnts]
  | cons e es ih =>
    obtain ⟨k, v⟩ := e
    simp only [List.cons_append, mapEnts, ih, List.length_cons]
    congr 3
    omega
theorem mapEnts_get (es : List (Value × Value)) (i j : Nat) : (mapEnts es i)[j]? = (es[j]?).map fun e => ⟨e.1, e.2, i + j⟩ := by
  induction es generalizing i j with
  | nil => simp [mapEnts]
  | cons e es ih =>
    obtain ⟨k, v⟩ := e
    cases j with
    | zero => simp [mapEnts]
    | succ j => simp only [mapEnts, List.getElem?_cons_succ, ih]; congr 2; funext e; congr 1; omega
section
variable {w : World} {b : Nat} {es : List (Value × Value)}
theorem MapAt.lt (h : MapAt w b es) : b < w.heap.size := (Array.getElem?_eq_some_iff.1 h).1
theorem MapAt.kept {S : List Nat} {w' : World} (h : MapAt w b es) (hk : Kept S w w') (hn : b ∉ S) : MapAt w' b es := hk.heap h hn
theorem MapAt.new (w : World) : MapAt (w.alloc (.map #[] 0)) w.heap.size [] := heap_alloc_new w _
/-- no key is this one. -/
theorem findNow_none {kd : TypeDesc} {k : Value} : ∀ (es : List (Value × Value)) (i j : Nat), (∀ e ∈ es, Instr.sameNow kd k e.1 = some false) → Instr.findNow kd k (mapEnts es i) j = some none := by
  intro es
  induction es with
  | nil => intro i j _; rfl
  | cons e es ih =>
    intro i j h
    obtain ⟨k', v⟩ := e
    simp only [mapEnts, Instr.findNow]
    have h0 : Instr.sameNow kd k k' = some false := h (k', v) (by simp)
    rw [h0]
    exact ih (i + 1) (j + 1) (fun e he => h e (by simp [he]))
theorem findNow_at {kd : TypeDesc} {k k' v : Value} {post : List (Value × Value)} (hk : Instr.sameNow kd k k' = some true) : ∀ (pre : List (Value × Value)) (i j : Nat), (∀ e ∈ pre, Instr.sameNow kd k e.1 = some false) →
    Instr.findNow kd k (mapEnts (pre ++ (k', v) :: post) i) j = some (some (j + pre.length, v)) := by
  intro pre
  induction pre with
  | nil => intro i j _; simp [mapEnts, Instr.findNow, hk]
  | cons e pre ih =>
    intro i j h
    obtain ⟨k2, v2⟩ := e
    simp only [List.cons_append, mapEnts, Instr.findNow]
    have h0 : Instr.sameNow kd k k2 = some false := h (k2, v2) (by simp)
    rw [h0]
    show Instr.findNow kd k (mapEnts (pre ++ (k', v) :: post) (i + 1)) (j + 1) = _
    rw [ih (i + 1) (j + 1) (fun e he => h e (by simp [he])), List.length_cons]
    congr 3
    omega
variable {P : Program}
theorem run_findKey_now {kt : TypeId} {kd : TypeDesc} (hu : P.underlying kt = some kd) {k : Value} {l : List MapEntry} {r : Option (Nat × Value)} (h : Instr.findNow kd k l 0 = some r) (w : World) : (Instr.findKey kt k l).run P w = .ok r w := by
  simp [Instr.findKey, run_underlying hu, h]
theorem run_checkKey_succ {kt : TypeId} {kd : TypeDesc} (hu : P.underlying kt = some kd) (hp : (match kd with | .int _ | .string | .bool => true | _ => false) = true) (emp : Bool) (n : Nat) (k : Value) (w : World) : (Instr.checkKey emp (n + 1) kt k).run P w = .ok () w := by
  unfold Instr.checkKey
  rw [Sem.run_bind, run_underlying hu]
  cases kd <;> simp at hp <;> rfl
/-- A key of a plain kind is no matter. -/
theorem run_checkKey_plain {kt : TypeId} {kd : TypeDesc} (hu : P.underlying kt = some kd) (hp : (match kd with | .int _ | .string | .bool => true | _ => false) = true) (emp : Bool) (k : Value) (w : World) : (Instr.checkKey emp 10000 kt k).run P w = .ok () w :=
  run_checkKey_succ hu hp emp 9999 k w
theorem setBlock_kept {es' : Array MapEntry} {c c' : Nat} {es : Array MapEntry} (hb : w.heap[b]? = some (.map es c)) : Kept [b] w (setBlock w b (.map es' c')) :=
  ⟨rfl, rfl, rfl, by simp [setBlock], fun k _ hn => Go.ChangeMaps.heap_setBlock_other hb _ (by simpa using hn)⟩
theorem run_mapUpdate_new {t kt e : TypeId} {kd : TypeDesc} (h : MapAt w b es) (ht : P.underlying t = some (.map kt e)) (hu : P.underlying kt = some kd) (hp : (match kd with | .int _ | .string | .bool => true | _ => false) = true)
    (k v : Value) (hk : ∀ e ∈ es, Instr.sameNow kd k e.1 = some false) : ∃ w', (Instr.mapUpdate t (.map (some b)) k v).run P w = .ok () w' ∧ MapAt w' b (es ++ [(k, v)]) ∧ Kept [b] w w' := by
  have hf := findNow_none es 0 0 hk
  refine ⟨setBlock w b (.map ((mapEnts es 0).toArray.push ⟨k, v, es.length⟩) (es.length + 1)), ?_, ?_, setBlock_kept h⟩
  · simp [Instr.mapUpdate, run_underlying ht, Go.MapKept.run_getObj_map h, run_checkKey_plain hu hp, run_findKey_now hu hf, Go.MapKept.run_setObj_map _ h, Result.andThen, setBlock]
  · unfold MapAt
    rw [Go.ChangeMaps.heap_setBlock_same h, mapEnts_append]
    simp [mapEnts]
theorem run_lookup_at {t kt e : TypeId} {kd : TypeDesc} {pre post : List (Value × Value)} {k k' v : Value} (h : MapAt w b (pre ++ (k', v) :: post)) (ht : P.underlying t = some (.map kt e)) (hu : P.underlying kt = some kd)
    (hp : (match kd with | .int _ | .string | .bool => true | _ => false) = true) (hk : Instr.sameNow kd k k' = some true) (hpre : ∀ e ∈ pre, Instr.sameNow kd k e.1 = some false) (ok : Bool) :
    (Instr.lookup t (.map (some b)) k ok).run P w = .ok (if ok then .tuple #[v, .bool true] else v) w := by
  have hf := findNow_at (v := v) (post := post) hk pre 0 0 hpre
  simp [Instr.lookup, run_underlying ht, Go.MapKept.run_getObj_map h, run_checkKey_plain hu hp, run_findKey_now hu hf, Result.andThen]
theorem run_lookup_none {t kt e : TypeId} {kd : TypeDesc} {k : Value} (h : MapAt w b es) (ht : P.underlying t = some (.map kt e)) (hu : P.underlying kt = some kd)
    (hp : (match kd with | .int _ | .string | .bool => true | _ => false) = true) (hk : ∀ e ∈ es, Instr.sameNow kd k e.1 = some false) (z : Value) (hz : (zeroValue e).run P w = .ok z w) (ok : Bool) :
    (Instr.lookup t (.map (some b)) k ok).run P w = .ok (if ok then .tuple #[z, .bool false] else z) w := by
  have hf := findNow_none es 0 0 hk
  simp [Instr.lookup, run_underlying ht, Go.MapKept.run_getObj_map h, run_checkKey_plain hu hp, run_findKey_now hu hf, hz, Result.andThen]
end
section
variable {P : Program} {ops : Array Oper} {rest : List Oper} {o : Oper} {a : Act} {w : World} {Q : Exit → Act → World → Prop}
/-- 'm[k] = v' of a key that is new. -/
theorem wpList_insert_new (hgd : o.guard = none) (hdst : o.dst = none) (t : TypeId) (m k v : Operand) (ho : o.op = .insert t m k v) (b : Nat) (es : List (Value × Value)) (h : MapAt w b es) (hm : a.eval m = .map (some b)) (kt e : TypeId) (kd : TypeDesc)
    (ht : P.underlying t = some (.map kt e)) (hu : P.underlying kt = some kd) (hp : (match kd with | .int _ | .string | .bool => true | _ => false) = true) (kv vv : Value) (hkv : a.eval k = kv) (hvv : a.eval v = vv) (hk : ∀ e ∈ es, Instr.sameNow kd kv e.1 = some false)
    (hK : ∀ w', MapAt w' b (es ++ [(kv, vv)]) → Kept [b] w w' → wpList P ops Q rest a w') : wpList P ops Q (o :: rest) a w := by
  refine wpList_plain hgd fun K hK' => ?_
  obtain ⟨w', hr, h1, h2⟩ := run_mapUpdate_new (P := P) h ht hu hp kv vv hk
  unfold Oper.wp execOp
  simp only [ho, hm, hkv, hvv, Sem.run_bind, Sem.run_pure, hr, Result.andThen_ok, Oper.upon_skip, hdst, Act.put]
  exact hK' _ _ (hK w' h1 h2)
end
end Go.Proofs.YtkcdakohmfodjaaGreat
