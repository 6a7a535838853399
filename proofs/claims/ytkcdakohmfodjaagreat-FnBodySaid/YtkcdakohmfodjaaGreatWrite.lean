/-
  The package's writer: a write into the buffer; a frame's head, payload and mark.
-/
import Derived.Test.YtkcdakohmfodjaaGreatFb
import Derived.Deep.RegionWith
import Derived.Laws.BitsAllLaws
namespace Go.Proofs.YtkcdakohmfodjaaGreat
open Go.RowKit
set_option linter.unusedVariables false
set_option linter.unusedSimpArgs false

abbrev TB : TypeId := 113

theorem Blk.src {w : World} {g : Nat} {l : List UInt8} {t : TypeId} (h : Blk w g (u8s l).toArray t) (c : Nat) : Src w (.slice (some ⟨g, 0, none⟩) l.length c) g l := by
  refine .inr ⟨_, c, rfl, rfl, fun j v hj => ?_⟩
  rw [addr_add, Nat.zero_add, h.cell j]
  simpa using hj

set_option maxHeartbeats 400000 in
theorem write_any (q : Nat) (bs : List Nat) (s : Value) (d : Nat) (l m : List UInt8) (w : World) (hw : Wr TB w q bs l) (hs : Src w s d m) (hsl : ∃ ao c, s = .slice ao m.length c) (hlen : l.length + m.length ≤ 140737488355328) :
    Calls Tryz.prog 238 #[.pointer (some ⟨q, 0, none⟩), s] w fun e w' => e = .returned (.tuple #[.int .i64 (m.length : Int), .nilIface]) ∧
      ∃ bs', Wr TB w' q bs' (l ++ m) ∧ Adv q bs bs' w w' := by
  obtain ⟨ao, c, rfl⟩ := hsl
  obtain ⟨v, q1, q2, q3, q4⟩ := hw
  have c0 := q1.cell0
  have hne : ∀ b, v.ownBlock = some b → b ≠ q := fun b hb e => q4 (by rw [q3, hb, e]; simp)
  have HQ := Lib.hid (And.intro q1 (And.intro q2 (And.intro q3 hne))); have HS := Lib.hid hs
  clear q1 q2 q3 q4 hs hne
  go_enter Tryz.func238, Tryz.ntmps238
  go_wp2_with (refine wpList_append_bytes rfl (.tmp 10) (.tmp 11) 22 22 rfl Tryz.underlying22 Tryz.underlying22 v _ l m l.length m.length rfl rfl rfl rfl HQ.out.2.1 d HS.out hlen ?_; intro ao2 c2 w1 g1 g2 g3; have k1 := HQ.out.1.kept g2 (fun hm => HQ.out.2.2.2 q (by simpa using hm) rfl); have c1 := k1.cell0; have f1 := k1.free 0; have HG := Lib.hid (And.intro g1 (And.intro g2 (And.intro g3 k1))); clear g1 g2 g3 k1)
  go_ret2
  refine ⟨rfl, _, ⟨_, HG.out.2.2.2.setCell 0 _, ?_, rfl, ?_⟩, ⟨?_, ?_⟩⟩
  · have h := ownsRow_kept (S := [q]) HG.out.1 ((Kept.refl [q] w1).setCell (p := ⟨q, 0, none⟩) (by simp) (.slice ao2 (l.length + m.length) c2)) (fun b hb => nin1 (by
      rcases HG.out.2.2.1 with h | h
      · exact HQ.out.2.2.2 b (by rw [← h]; exact hb)
      · rw [h] at hb; cases hb; have := HQ.out.1.lt; omega))
    rw [List.length_append]; exact h
  · intro hm
    simp only [Option.mem_toList, Option.mem_def] at hm
    rcases HG.out.2.2.1 with h | h
    · exact HQ.out.2.2.2 q (by rw [← h]; exact hm) rfl
    · rw [h] at hm; cases hm; have := HQ.out.1.lt; omega
  · exact (HG.out.2.1.mono (by rw [HQ.out.2.2.1]; intro x hx; exact .inl (List.mem_cons_of_mem _ hx))).setCell (by simp) _
  · intro b hb
    simp only [Option.mem_toList, Option.mem_def] at hb
    rcases HG.out.2.2.1 with h | h
    · exact .inl (by rw [HQ.out.2.2.1, ← h]; simpa using hb)
    · rw [h] at hb; cases hb; exact .inr (Nat.le_refl _)

theorem mask_byte (a s : Nat) : (a &&& (255 * 2 ^ s)) / 2 ^ s % 256 = a / 2 ^ s % 256 := by
  rw [← Nat.shiftRight_eq_div_pow, ← Nat.shiftRight_eq_div_pow, Nat.shiftRight_and_distrib, Nat.shiftRight_eq_div_pow (255 * 2 ^ s), Nat.mul_div_cancel _ (Nat.two_pow_pos s)]
  have : (a >>> s) &&& 255 = (a >>> s) % 256 := Nat.and_two_pow_sub_one_eq_mod _ 8
  rw [this, Nat.mod_mod]

theorem mask16 (a s b d : Nat) (hb : b = 255 * 2 ^ s) (hd : d = 2 ^ s) (ha : a < 65536) (hbl : b < 65536) : bits .and .u16 (a : Int) (b : Int) / (d : Int) % 256 = ((UInt8.ofNat (a / d)).toNat : Int) := by
  rw [u16_and_nat a b ha hbl, ← Int.natCast_ediv, show (256 : Int) = ((256 : Nat) : Int) from rfl, ← Int.natCast_emod]
  subst hb hd
  rw [mask_byte]
  simp

theorem mask64 (a s b d : Nat) (hb : b = 255 * 2 ^ s) (hd : d = 2 ^ s) (ha : a < 18446744073709551616) (hbl : b < 18446744073709551616) : bits .and .u64 (a : Int) (b : Int) / (d : Int) % 256 = ((UInt8.ofNat (a / d)).toNat : Int) := by
  rw [u64_and_nat a b ha hbl, ← Int.natCast_ediv, show (256 : Int) = ((256 : Nat) : Int) from rfl, ← Int.natCast_emod]
  subst hb hd
  rw [mask_byte]
  simp

theorem be1 (n : Nat) : Lib.beBytes 1 n = [UInt8.ofNat n] := by
  apply List.ext_getElem?
  intro i
  by_cases h : i < 1
  · rw [beBytes_get 1 n i h]; have : i = 0 := by omega
    subst this; simp
  · rw [List.getElem?_eq_none (by simp [Lib.beBytes_length]; omega), List.getElem?_eq_none (by simp; omega)]

theorem be2 (n : Nat) : Lib.beBytes 2 n = [UInt8.ofNat (n / 256), UInt8.ofNat n] := by
  apply List.ext_getElem?
  intro i
  by_cases h : i < 2
  · rw [beBytes_get 2 n i h]
    match i, h with
    | 0, _ => simp
    | 1, _ => simp
  · rw [List.getElem?_eq_none (by simp [Lib.beBytes_length]; omega), List.getElem?_eq_none (by simp; omega)]

theorem be4 (n : Nat) : Lib.beBytes 4 n = [UInt8.ofNat (n / 16777216), UInt8.ofNat (n / 65536), UInt8.ofNat (n / 256), UInt8.ofNat n] := by
  apply List.ext_getElem?
  intro i
  by_cases h : i < 4
  · rw [beBytes_get 4 n i h]
    match i, h with
    | 0, _ => simp
    | 1, _ => simp
    | 2, _ => simp
    | 3, _ => simp
  · rw [List.getElem?_eq_none (by simp [Lib.beBytes_length]; omega), List.getElem?_eq_none (by simp; omega)]

theorem frameB_head (ty ch : Nat) (m : List UInt8) : frameB ty ch m = [UInt8.ofNat ty, UInt8.ofNat (ch / 256), UInt8.ofNat ch, UInt8.ofNat (m.length / 16777216), UInt8.ofNat (m.length / 65536), UInt8.ofNat (m.length / 256), UInt8.ofNat m.length] ++ m ++ [206] := by
  simp [frameB, be1, be2, be4]

theorem method_wbuf (k : Nat) (a : Addr) (w : World) : (method (k + 1) 111 (.pointer (some a)) "Write").run Tryz.prog w = .ok (238, .pointer (some a)) w := by kernel_rfl
theorem nilAhead_wbuf (k : Nat) (a : Addr) (w : World) : (nilAhead (k + 1) 111 (.pointer (some a)) "Write").run Tryz.prog w = .ok (some false) w := by kernel_rfl

set_option maxHeartbeats 1000000 in
set_option maxRecDepth 100000 in
theorem writeFrame_any (q ty ch : Nat) (s : Value) (m : List UInt8) (w : World) (bs : List Nat) (hw : Wr TB w q bs []) (d : Nat) (hs : Src w s d m) (hdq : d ≠ q) (hdb : d ∉ bs) (hdw : d < w.heap.size) (hsl : ∃ ao c, s = .slice ao m.length c) (hty : ty ≤ 255) (hch : ch ≤ 65535) (hlen : m.length ≤ 1000000) :
    Calls Tryz.prog 201 #[.iface 111 (.pointer (some ⟨q, 0, none⟩)), .int .u8 (ty : Int), .int .u16 (ch : Int), s] w fun e w' => e = .returned .nilIface ∧
      ∃ bs', Wr TB w' q bs' (frameB ty ch m) ∧ Adv q bs bs' w w' := by
  obtain ⟨ao, c, rfl⟩ := hsl
  have hm1 := method_wbuf
  have hm2 := nilAhead_wbuf
  have hlz : (m.length : Int) ≤ 1000000 := by omega
  have hcz : (ch : Int) ≤ 65535 := by omega
  obtain ⟨x0, e0, y0⟩ : ∃ x : UInt8, (ty : Int) = (x.toNat : Int) ∧ x = UInt8.ofNat ty := ⟨_, by simp; omega, rfl⟩
  obtain ⟨x1, e1, y1⟩ : ∃ x : UInt8, bits BinOp.and IntKind.u16 (ch : Int) 65280 / 256 % 256 = (x.toNat : Int) ∧ x = UInt8.ofNat (ch / 256) := ⟨_, mask16 ch 8 65280 256 rfl rfl (by omega) (by omega), rfl⟩
  obtain ⟨x2, e2, y2⟩ : ∃ x : UInt8, bits BinOp.and IntKind.u16 (ch : Int) 255 % 256 = (x.toNat : Int) ∧ x = UInt8.ofNat ch := ⟨_, by have := mask16 ch 0 255 1 rfl rfl (by omega) (by omega); simpa using this, rfl⟩
  obtain ⟨x3, e3, y3⟩ : ∃ x : UInt8, bits BinOp.and IntKind.u64 (m.length : Int) 4278190080 / 16777216 % 256 = (x.toNat : Int) ∧ x = UInt8.ofNat (m.length / 16777216) := ⟨_, mask64 m.length 24 4278190080 16777216 rfl rfl (by omega) (by omega), rfl⟩
  obtain ⟨x4, e4, y4⟩ : ∃ x : UInt8, bits BinOp.and IntKind.u64 (m.length : Int) 16711680 / 65536 % 256 = (x.toNat : Int) ∧ x = UInt8.ofNat (m.length / 65536) := ⟨_, mask64 m.length 16 16711680 65536 rfl rfl (by omega) (by omega), rfl⟩
  obtain ⟨x5, e5, y5⟩ : ∃ x : UInt8, bits BinOp.and IntKind.u64 (m.length : Int) 65280 / 256 % 256 = (x.toNat : Int) ∧ x = UInt8.ofNat (m.length / 256) := ⟨_, mask64 m.length 8 65280 256 rfl rfl (by omega) (by omega), rfl⟩
  obtain ⟨x6, e6, y6⟩ : ∃ x : UInt8, bits BinOp.and IntKind.u64 (m.length : Int) 255 % 256 = (x.toNat : Int) ∧ x = UInt8.ofNat m.length := ⟨_, by have := mask64 m.length 0 255 1 rfl rfl (by omega) (by omega); simpa using this, rfl⟩
  have hfb : frameB ty ch m = [x0, x1, x2, x3, x4, x5, x6] ++ m ++ [206] := by rw [frameB_head, y0, y1, y2, y3, y4, y5, y6]
  have HF := Lib.hid hfb
  have HE := Lib.hid e0
  clear hfb y0 y1 y2 y3 y4 y5 y6 e0
  rw [HE.out]
  have HW := Lib.hid (And.intro hw hs)
  clear hw hs
  go_enter Tryz.func201, Tryz.ntmps201
  go_wp2_with fail
  have hk0 : Kept [] w ((w.alloc (.cells #[.int .u8 206] 5)).alloc (.cells (u8s [x0, x1, x2, x3, x4, x5, x6]).toArray 5)) := ((Kept.refl [] w).alloc _).alloc _
  have hb0 : Blk ((w.alloc (.cells #[.int .u8 206] 5)).alloc (.cells (u8s [x0, x1, x2, x3, x4, x5, x6]).toArray 5)) (w.heap.size + 1) (u8s [x0, x1, x2, x3, x4, x5, x6]).toArray 5 := Blk.new_at (by simp)
  have hend : Blk ((w.alloc (.cells #[.int .u8 206] 5)).alloc (.cells (u8s [x0, x1, x2, x3, x4, x5, x6]).toArray 5)) w.heap.size (u8s [206]).toArray 5 := (Blk.new w _ _).alloc _
  have hqw := HW.out.1.lt
  have hbw := HW.out.1.blt
  have hw0 := HW.out.1.kept hk0 (by simp) (by simp)
  have hs0 := HW.out.2.kept hk0 (by simp)
  have HD := Lib.hid (And.intro hdq (And.intro hdb (And.intro hdw (And.intro hqw (And.intro hbw hk0))))); clear hdq hdb hdw hqw hbw
  generalize hwa : (w.alloc (.cells #[.int .u8 206] 5)).alloc (.cells (u8s [x0, x1, x2, x3, x4, x5, x6]).toArray 5) = wa at *
  have hwa' : (w.alloc (.cells #[.int .u8 206] 5)).alloc (.cells #[.int .u8 (x0.toNat : Int), .int .u8 (x1.toNat : Int), .int .u8 (x2.toNat : Int), .int .u8 (x3.toNat : Int), .int .u8 (x4.toNat : Int), .int .u8 (x5.toNat : Int), .int .u8 (x6.toNat : Int)] 5) = wa := hwa
  rw [hwa']
  have hsz : wa.heap.size = w.heap.size + 2 := by rw [← hwa]; simp
  have HZ := Lib.hid hsz; clear hwa hwa' hsz
  refine (write_any q bs _ (w.heap.size + 1) [] [x0, x1, x2, x3, x4, x5, x6] wa hw0 (hb0.src 7) ⟨_, 7, rfl⟩ (by simp)).mono ?_
  rintro e w1 ⟨rfl, bs1, hw1, ha1⟩
  have hs1 : Src w1 (.slice ao m.length c) d m := hs0.kept ha1.kept (by
    simp only [List.mem_cons, not_or]
    exact ⟨HD.out.1, HD.out.2.1⟩)
  have hend1 := hend.kept ha1.kept (by
    simp only [List.mem_cons, not_or]
    exact ⟨by have := HD.out.2.2.2.1; omega, fun hm => by have := HD.out.2.2.2.2.1 _ hm; omega⟩)
  have H1 := Lib.hid (And.intro hw1 (And.intro ha1 (And.intro hs1 hend1)))
  clear hw1 ha1 hs1 hend1 hs0 hend hw0 hb0 hk0
  go_wp2_with fail
  refine (write_any q bs1 _ d _ m w1 H1.out.1 H1.out.2.2.1 ⟨_, _, rfl⟩ (by simp; omega)).mono ?_
  rintro e w2 ⟨rfl, bs2, hw2, ha2⟩
  have ha12 := H1.out.2.1.trans ha2
  have hend2 := H1.out.2.2.2.kept ha2.kept (by
    simp only [List.mem_cons, not_or]
    refine ⟨by have := HD.out.2.2.2.1; omega, fun hm => ?_⟩
    rcases H1.out.2.1.own _ hm with h | h
    · have := HD.out.2.2.2.2.1 _ h; omega
    · have := HZ.out; omega)
  have H2 := Lib.hid (And.intro hw2 (And.intro ha12 hend2))
  clear hw2 ha12 hend2 ha2
  go_wp2_with fail
  refine (write_any q bs2 _ w.heap.size _ [206] w2 H2.out.1 (H2.out.2.2.src 1) ⟨_, 1, rfl⟩ (by simp; omega)).mono ?_
  rintro e w3 ⟨rfl, bs3, hw3, ha3⟩
  have ha13 := H2.out.2.1.trans ha3
  have H3 := Lib.hid (And.intro hw3 ha13)
  clear hw3 ha13 ha3
  go_wp2
  go_ret
  refine ⟨rfl, bs3, ?_, ?_⟩
  · rw [HF.out]; exact H3.out.1
  · refine ⟨(HD.out.2.2.2.2.2.mono (by simp)).trans H3.out.2.kept (fun x hx => .inl hx), fun b hb => ?_⟩
    rcases H3.out.2.own b hb with h | h
    · exact .inl h
    · have := HZ.out; exact .inr (by omega)

end Go.Proofs.YtkcdakohmfodjaaGreat
