/-
  Lemmas on the way to the statement of YtkcdakohmfodjaaGreatMethodRead, joined out of these texts: Mb. No condition.
-/
import Derived.Test.YtkcdakohmfodjaaGreatMAL
import Derived.Test.YtkcdakohmfodjaaGreatNIter
import Derived.Test.YtkcdakohmfodjaaGreatNRfv
namespace Go.Proofs.YtkcdakohmfodjaaGreat
open Go.RowKit
set_option linter.unusedVariables false
set_option linter.unusedSimpArgs false
def okBits : List UInt8 → Nat → Bool
  | [], _ => true
  | c :: cs, b => if c = 98 ∨ c = 51 then decide (b < 8) && okBits cs (b + 1) else okBits cs 0
theorem letters_bits : ∀ e ∈ knownL, okBits e.2.2 0 = true := by decide
/-- The memory of MethodBytes in its loop. -/
structure MbInv (w : World) (M g q qb qh qw : Nat) (row : Array Value) (l : List UInt8) (W : World) (bs : List Nat) (L : List UInt8) (bits held : Nat) : Prop where
  st : MbSt q qb qh qw W bs L bits held
  bm : Blk W M row 42
  lb : LB W g l
  own : ∀ b ∈ bs, w.heap.size ≤ b ∧ b < W.heap.size ∧ b ≠ M ∧ b ≠ g
  kept : Kept [] w W
  base : w.heap.size ≤ q ∧ w.heap.size ≤ qb ∧ w.heap.size ≤ qh
  ne : M ≠ q ∧ M ≠ qb ∧ M ≠ qh ∧ g ≠ q ∧ g ≠ qb ∧ g ≠ qh
  glt : g < W.heap.size
section
variable {w : World} {M g q qb qh qw : Nat} {row : Array Value} {l : List UInt8} {W W' : World} {bs bs' : List Nat} {L L' : List UInt8} {bits held bits' held' : Nat}
theorem MbInv.adv (h : MbInv w M g q qb qh qw row l W bs L bits held) (h' : MbSt q qb qh qw W' bs' L' bits' held') (ha : AdvM q qb qh bs bs' W W') : MbInv w M g q qb qh qw row l W' bs' L' bits' held' := by
  obtain ⟨s1, s2, s3, s4, s5, s6, s7, s8⟩ := h
  obtain ⟨n1, n2, n3, n4, n5, n6⟩ := s7
  have hm : M ∉ q :: qb :: qh :: bs := by
    simp only [List.mem_cons, not_or]; exact ⟨n1, n2, n3, fun hb => (s4 M hb).2.2.1 rfl⟩
  have hg : g ∉ q :: qb :: qh :: bs := by
    simp only [List.mem_cons, not_or]; exact ⟨n4, n5, n6, fun hb => (s4 g hb).2.2.2 rfl⟩
  refine ⟨h', s2.kept ha.kept hm, s3.kept ha.kept hg, fun b hb => ?_, s5.trans ha.kept (fun x hx => ?_), s6, ⟨n1, n2, n3, n4, n5, n6⟩, Nat.lt_of_lt_of_le s8 ha.kept.size⟩
  · have hlt : b < W'.heap.size := by
      obtain ⟨v, _, p2, p3, _⟩ := h'.1
      rw [p3] at hb
      have hb' : v.ownBlock = some b := by simpa using hb
      rcases p2.2 with ⟨h0, _⟩ | ⟨gg, cap, cur, rfl, _, hh, _⟩
      · rw [h0] at hb'; cases hb'
      · simp [Value.ownBlock] at hb'; subst hb'; exact lt_of_block hh
    rcases ha.own b hb with h1 | h1
    · exact ⟨(s4 b h1).1, hlt, (s4 b h1).2.2⟩
    · have := s5.size; have := s2.lt
      exact ⟨by omega, hlt, by omega, by omega⟩
  · simp only [List.mem_cons] at hx
    rcases hx with rfl | rfl | rfl | hx
    · exact .inr s6.1
    · exact .inr s6.2.1
    · exact .inr s6.2.2
    · exact .inr (s4 x hx).1
theorem MbInv.keptI (h : MbInv w M g q qb qh qw row l W bs L bits held) (hk : Kept [] W W') : MbInv w M g q qb qh qw row l W' bs L bits held :=
  h.adv (h.st.kept hk) ⟨hk.mono (by simp), fun _ h => .inl h⟩
theorem MbInv.fresh (h : MbInv w M g q qb qh qw row l W bs L bits held) {b : Nat} (hb : W.heap.size ≤ b) : b ∉ q :: qb :: qh :: bs := by
  have h1 := h.st.1; obtain ⟨v, p1, _⟩ := h1
  have := p1.lt; have := h.st.2.1.lt; have := h.st.2.2.1.lt
  simp only [List.mem_cons, not_or]
  exact ⟨by omega, by omega, by omega, fun hm => by have := (h.own b hm).2.1; omega⟩
end
theorem mb_arg {x : UInt8} {cs : List UInt8} {args : List MArg} {nx : Nat} (h65 : ¬ x < 65) (h : properGo (x :: cs) (args.drop nx) = true) : ∃ a, args[nx]? = some a ∧ args.drop nx = a :: args.drop (nx + 1) ∧ properArgB x a = true ∧ properGo cs (args.drop (nx + 1)) = true := by
  obtain ⟨a, ar, h1, h2, h3⟩ := proper_cons h65 h
  have hlt : nx < args.length := by
    rcases Nat.lt_or_ge nx args.length with h | h
    · exact h
    · rw [List.drop_eq_nil_of_le h] at h1; cases h1
  rw [List.drop_eq_getElem_cons hlt] at h1
  simp only [List.cons.injEq] at h1
  exact ⟨a, by rw [List.getElem?_eq_getElem hlt, h1.1], by rw [List.drop_eq_getElem_cons hlt, h1.1], h2, by rw [h1.2]; exact h3⟩
theorem mb_text {x : UInt8} {a : MArg} (h : properArgB x a = true) (hx : x = 83 ∨ x = 76) : a.text.length ≤ 1000 := by
  unfold properArgB at h
  split at h
  · cases h
  · rcases hx with rfl | rfl
    · simp at h; omega
    · simp at h; omega
theorem mb_tab {a : MArg} (h : properArgB 116 a = true) : OkFs a.tab none 6 ∧ costFs a.tab ≤ 2000 := by
  unfold properArgB at h
  split at h
  · cases h
  · simp at h; exact (fitsB_iff _).1 h.2
theorem mb_item {x : UInt8} {a : MArg} (h : properArgB x a = true) (hx : x ≠ 49 ∧ x ≠ 50 ∧ x ≠ 52) : (itemM x a).length ≤ 18004 := by
  unfold itemM
  split
  · simp [Lib.beBytes_length]
  split
  · simp [Lib.beBytes_length]
  split
  · simp [Lib.beBytes_length]
  split
  · simp [Lib.beBytes_length]
  split
  · rename_i h1
    have := mb_text h (.inl (by rcases h1 with h1 | h1; exact h1; exact absurd h1 hx.2.1))
    simp [Lib.beBytes_length]; omega
  split
  · rename_i h1
    have := mb_text h (.inr (by rcases h1 with h1 | h1; exact h1; exact absurd h1 hx.2.2))
    simp [Lib.beBytes_length]; omega
  split
  · rename_i h1
    subst h1
    unfold properArgB at h
    split at h
    · cases h
    · simp at h; exact encT_len _ h.2
  · simp
theorem mb_out {w W : World} {M g q qb qh qw : Nat} {row : Array Value} {l : List UInt8} {bs : List Nat} {L : List UInt8} {bits held b : Nat} (h : MbInv w M g q qb qh qw row l W bs L bits held) (hb : b < w.heap.size) (hm : b ∈ q :: qb :: qh :: bs) : False := by
  simp only [List.mem_cons] at hm
  have := h.base
  rcases hm with rfl | rfl | rfl | hm
  · omega
  · omega
  · omega
  · have := (h.own b hm).1; omega
theorem mb_out2 {w W : World} {M g q qb qh qw : Nat} {row : Array Value} {l : List UInt8} {bs : List Nat} {L : List UInt8} {bits held b : Nat} (h : MbInv w M g q qb qh qw row l W bs L bits held) (hb : b < w.heap.size) : b ≠ q ∧ b ∉ bs :=
  ⟨fun e => mb_out h hb (by simp [e]), fun hm => mb_out h hb (by simp [hm])⟩
theorem bit_or : ∀ bits : Nat, bits < 8 → ∀ b : Nat, b < 2 → ∀ held : Nat, held < 2 ^ bits → Go.bits BinOp.or IntKind.u8 (held : Int) (IntKind.u8.wrap (IntKind.u8.wrap (b : Int) * 2 ^ bits)) = ((held + b * 2 ^ bits : Nat) : Int) := by decide +kernel
theorem bit_val (held bits n : Nat) (h : held < 2 ^ bits) (hb : bits < 8) (hn : n < 18446744073709551616) : Go.bits BinOp.or IntKind.u8 (held : Int) (IntKind.u8.wrap (IntKind.u8.wrap (Go.bits BinOp.and IntKind.u64 (n : Int) 1) * 2 ^ bits)) = ((held + n % 2 * 2 ^ bits : Nat) : Int) := by
  rw [and_one_u64 _ (by omega) (by omega), show (n : Int) % 2 = ((n % 2 : Nat) : Int) by omega]
  exact bit_or bits hb (n % 2) (by omega) held h
set_option maxHeartbeats 16000000 in
set_option maxRecDepth 100000 in
theorem mb_any (B : Nat → Prop) (w : World) (c m : Nat) (hc : c < 65536) (hm : m < 65536) (av : Value) (args : List MArg) (h : ASl B w av args) (hwf : ∀ a ∈ args, WfA a) (hl : args.length ≤ 2147483647) (l : List UInt8) (hq : lettersOf c m = some l) (hp : properGo l args = true) :
    Calls Tryz.prog 13 #[.agg #[.int .i64 (c : Int), .int .i64 (m : Int), av]] w fun e w' => ∃ v g, e = .returned v ∧ Row w' v g (methodB c m l args) ∧ w.heap.size ≤ g ∧ Kept [] w w' := by
  obtain ⟨aa, ac, rfl, hac, hget⟩ := h.mono (B' := fun b => B b ∧ b < w.heap.size) (fun b hb hl => ⟨hb, hl⟩)
  have hlet := letters_any c m
  unfold lettersB at hlet
  rw [hq] at hlet
  simp only [Option.getD_some, Option.isSome_some] at hlet
  have hok : ∀ x ∈ l, x ∈ ([111, 115, 108, 113, 83, 76, 98, 116, 49, 50, 51, 52] : List UInt8) := by obtain ⟨e0, he, rfl, _⟩ := letters_mem hq; exact letters_ok e0 he
  have hll : l.length ≤ 20 := by obtain ⟨e0, he, rfl, _⟩ := letters_mem hq; exact letters_len e0 he
  have hbt : okBits l 0 = true := by obtain ⟨e0, he, rfl, _⟩ := letters_mem hq; exact letters_bits e0 he
  have hwc : IntKind.u64.wrap (c : Int) = c := by rw [IntKind.wrap_u64]; omega
  have hwm : IntKind.u64.wrap (m : Int) = m := by rw [IntKind.wrap_u64]; omega
  have hln : (args.length : Int) ≤ 2147483647 := by omega
  have hll' : (l.length : Int) ≤ 20 := by omega
  have H := Lib.hid (And.intro hget (And.intro hwf (And.intro hp (And.intro hok (And.intro hll (And.intro hbt (And.intro hc (And.intro hm hlet))))))))
  clear h hget hwf hl hq hp hlet hok hll hbt hc hm
  go_enter Tryz.func13, Tryz.ntmps13
  go_upto_region 2 with fail
  obtain ⟨wa, hwa⟩ : ∃ wa, wa = ((((w.alloc (.cells #[.int .i64 (c : Int), .int .i64 (m : Int), .slice aa args.length ac] 42)).alloc (.cells #[] 5)).alloc (.cells #[.slice (some ⟨w.heap.size + 1, 0, none⟩) 0 0] 61)).alloc (.cells #[.pointer (some ⟨w.heap.size + 1 + 1, 0, none⟩)] 60)) := ⟨_, rfl⟩
  have hka : Kept [] w wa := by subst hwa; exact (((Kept.refl [] w).alloc _).alloc _).alloc _ |>.alloc _
  have hM : Blk wa w.heap.size #[.int .i64 (c : Int), .int .i64 (m : Int), .slice aa args.length ac] 42 := by subst hwa; exact (((Blk.new w _ _).alloc _).alloc _).alloc _
  have hW : Blk wa (w.heap.size + 1 + 1 + 1) #[.pointer (some ⟨w.heap.size + 1 + 1, 0, none⟩)] 60 := by subst hwa; exact Blk.new_at (by simp)
  have hwr : Wr 61 wa (w.heap.size + 1 + 1) [w.heap.size + 1] [] := by
    subst hwa
    refine ⟨.slice (some ⟨w.heap.size + 1, 0, none⟩) 0 0, (Blk.new_at (by simp)).alloc _, ⟨rfl, .inr ⟨w.heap.size + 1, 0, #[], rfl, Nat.zero_le _, ?_, Nat.le_refl _, by unfold maxLen; omega, rfl, rfl⟩⟩, rfl, by simp⟩
    exact ((Blk.new_at (by simp) : Blk _ (w.heap.size + 1) #[] 5).alloc _).alloc _
  rw [← hwa]
  clear hwa
  obtain ⟨M, hM0⟩ : ∃ M, M = w.heap.size := ⟨_, rfl⟩
  obtain ⟨q, hq0⟩ : ∃ q, q = w.heap.size + 1 + 1 := ⟨_, rfl⟩
  obtain ⟨qw, hqw0⟩ : ∃ qw, qw = w.heap.size + 1 + 1 + 1 := ⟨_, rfl⟩
  obtain ⟨b0, hb0⟩ : ∃ b0, b0 = w.heap.size + 1 := ⟨_, rfl⟩
  have HN : Hid (M = w.heap.size ∧ b0 = M + 1 ∧ q = M + 2 ∧ qw = M + 3) := Lib.hid ⟨hM0, by omega, by omega, by omega⟩
  rw [← hqw0, ← hq0] at hW
  rw [← hq0, ← hb0] at hwr
  rw [← hM0] at hM
  rw [← hqw0, ← hq0, ← hb0, ← hM0]
  clear hqw0 hq0 hb0 hM0
  have m0 : wa.cell? ⟨M, 0, none⟩ = some (.int .i64 (c : Int)) := hM.cell 0
  have p0 : wa.cell? ⟨qw, 0, none⟩ = some (.pointer (some ⟨q, 0, none⟩)) := hW.cell0
  have HA := Lib.hid (And.intro hka (And.intro hM (And.intro hW hwr))); clear hka hM hW hwr
  go_upto_region 3 with (go_at_call 21; have hq := put_any q c 2 [b0] [] wa HA.out.2.2.2 (by have := H.out.2.2.2.2.2.2.1; omega) (by omega) (by simp); refine hq.mono ?_; clear hq; rintro e w1 ⟨rfl, bs1, hw1, ha1⟩)
  have hM1 : Blk w1 M #[.int .i64 (c : Int), .int .i64 (m : Int), .slice aa args.length ac] 42 := HA.out.2.1.kept ha1.kept (by have := HN.out; simp; omega)
  have hW1 : Blk w1 qw #[.pointer (some ⟨q, 0, none⟩)] 60 := HA.out.2.2.1.kept ha1.kept (by have := HN.out; simp; omega)
  have hk1 : Kept [] w w1 := HA.out.1.trans ha1.kept (fun x hx => .inr (by have := HN.out; simp at hx; omega))
  have ho1 : ∀ b ∈ bs1, M < b ∧ b ≠ qw := fun b hb => by
    have := HN.out; have := HA.out.2.2.1.lt
    rcases ha1.own b hb with h | h
    · simp at h; omega
    · exact ⟨by omega, by omega⟩
  have m1 : w1.cell? ⟨M, 1, none⟩ = some (.int .i64 (m : Int)) := hM1.cell 1
  have p1 : w1.cell? ⟨qw, 0, none⟩ = some (.pointer (some ⟨q, 0, none⟩)) := hW1.cell0
  have H1 := Lib.hid (And.intro hk1 (And.intro hM1 (And.intro hW1 (And.intro hw1 ho1)))); clear hk1 hM1 hW1 hw1 ha1 ho1 m0 p0
  go_upto_region 4 with (go_at_call 21; have hq := put_any q m 2 bs1 ([] ++ Lib.beBytes 2 c) w1 H1.out.2.2.2.1 (by have := H.out.2.2.2.2.2.2.2.1; omega) (by omega) (by simp [Lib.beBytes_length]); refine hq.mono ?_; clear hq; rintro e w2 ⟨rfl, bs2, hw2, ha2⟩)
  have hMn : M ∉ q :: bs1 := by
    have := HN.out
    simp only [List.mem_cons, not_or]
    exact ⟨by omega, fun hb => by have := (H1.out.2.2.2.2 M hb).1; omega⟩
  have hWn : qw ∉ q :: bs1 := by
    have := HN.out
    simp only [List.mem_cons, not_or]
    exact ⟨by omega, fun hb => (H1.out.2.2.2.2 qw hb).2 rfl⟩
  have hM2 : Blk w2 M #[.int .i64 (c : Int), .int .i64 (m : Int), .slice aa args.length ac] 42 := H1.out.2.1.kept ha2.kept hMn
  have hW2 : Blk w2 qw #[.pointer (some ⟨q, 0, none⟩)] 60 := H1.out.2.2.1.kept ha2.kept hWn
  have hk2 : Kept [] w w2 := H1.out.1.trans ha2.kept (fun x hx => .inr (by
    have := HN.out
    rcases List.mem_cons.1 hx with h | h
    · omega
    · have := (H1.out.2.2.2.2 x h).1; omega))
  have ho2 : ∀ b ∈ bs2, M < b ∧ b ≠ qw := fun b hb => by
    have := HN.out; have := H1.out.2.2.1.lt
    rcases ha2.own b hb with h | h
    · exact H1.out.2.2.2.2 b h
    · exact ⟨by omega, by omega⟩
  have n0 : w2.cell? ⟨M, 0, none⟩ = some (.int .i64 (c : Int)) := hM2.cell 0
  have n1 : w2.cell? ⟨M, 1, none⟩ = some (.int .i64 (m : Int)) := hM2.cell 1
  have H2 := Lib.hid (And.intro hk2 (And.intro hM2 (And.intro hW2 (And.intro hw2 ho2)))); clear hk2 hM2 hW2 hw2 ha2 ho2 hMn hWn m1 p1
  go_upto_region 7 with (go_at_call 27; have hq := H.out.2.2.2.2.2.2.2.2 w2; (with_reducible refine hq.mono ?_); clear hq; rintro e w3 ⟨rfl, hk3⟩; have H3 := Lib.hid hk3; clear hk3)
  obtain ⟨wb, hwb⟩ : ∃ wb, wb = ((w3.alloc (.cells #[.int .i64 0] 3)).alloc (.cells #[.int .u8 0] 5)) := ⟨_, rfl⟩
  obtain ⟨qb, hqb⟩ : ∃ qb, qb = w3.heap.size := ⟨_, rfl⟩
  obtain ⟨qh, hqh⟩ : ∃ qh, qh = w3.heap.size + 1 := ⟨_, rfl⟩
  have hk3b : Kept [] w3 wb := by rw [hwb]; exact ((Kept.refl [] w3).alloc _).alloc _
  have hB3 : Blk wb qb #[.int .i64 ((0 : Nat) : Int)] 3 := by rw [hwb, hqb]; exact (Blk.new w3 _ _).alloc _
  have hH3 : Blk wb qh #[.int .u8 ((0 : Nat) : Int)] 5 := by rw [hwb, hqh]; exact Blk.new_at (by simp)
  have hqq : qh = qb + 1 ∧ qb = w3.heap.size := ⟨by omega, hqb⟩
  rw [← hwb, ← hqh, ← hqb]
  clear hwb hqb hqh
  obtain ⟨pre, hpre⟩ : ∃ pre, pre = [] ++ Lib.beBytes 2 c ++ Lib.beBytes 2 m := ⟨_, rfl⟩
  have hst : MbSt q qb qh qw wb bs2 pre 0 0 := by
    have hk := H3.out.trans hk3b (by simp)
    have hz := H3.out.size
    have := HN.out; have := H2.out.2.2.1.lt
    have hb2 : ∀ b ∈ bs2, b < w2.heap.size := fun b hb => by
      obtain ⟨v, _, p2, p3, _⟩ := H2.out.2.2.2.1
      rw [p3] at hb
      have hb' : v.ownBlock = some b := by simpa using hb
      rcases p2.2 with ⟨h0, _⟩ | ⟨gg, cap, cur, rfl, _, hh, _⟩
      · rw [h0] at hb'; cases hb'
      · simp [Value.ownBlock] at hb'; subst hb'; exact lt_of_block hh
    rw [hpre]
    refine ⟨wr_kept H2.out.2.2.2.1 hk (by simp) (by simp), hB3, hH3, H2.out.2.2.1.kept hk (by simp), ⟨by omega, by omega, by omega, by omega, by omega, by omega⟩, fun b hb => ?_⟩
    have := hb2 b hb
    exact ⟨by omega, by omega, (H2.out.2.2.2.2 b hb).2⟩
  have hbb : ∀ b ∈ bs2, M < b ∧ b < wb.heap.size := fun b hb => ⟨(H2.out.2.2.2.2 b hb).1, by
    obtain ⟨v, _, p2, p3, _⟩ := hst.1
    rw [p3] at hb
    have hb' : v.ownBlock = some b := by simpa using hb
    rcases p2.2 with ⟨h0, _⟩ | ⟨gg, cap, cur, rfl, _, hh, _⟩
    · rw [h0] at hb'; cases hb'
    · simp [Value.ownBlock] at hb'; subst hb'; exact lt_of_block hh⟩
  have hMb : Blk wb M #[.int .i64 (c : Int), .int .i64 (m : Int), .slice aa args.length ac] 42 := (H2.out.2.1.kept H3.out (by simp)).kept hk3b (by simp)
  have hkb : Kept [] w wb := (H2.out.1.trans H3.out (by simp)).trans hk3b (by simp)
  have HPre := Lib.hid hpre
  have H4 := Lib.hid (And.intro hst (And.intro hbb (And.intro hMb (And.intro hkb hqq)))); clear hst hbb hMb hkb hqq hB3 hH3 hk3b hpre
  go_wp2_with (refine wpList_conv_bytes rfl 9 22 5 (.tmp 34) rfl Tryz.underlying9 Tryz.underlying22 Tryz.underlying5 l rfl ?_; intro cap w5 hb hlt hk; have H5 := Lib.hid (And.intro hb (And.intro hlt hk)); clear hb hlt hk)
  obtain ⟨g, hg⟩ : ∃ g, g = wb.heap.size := ⟨_, rfl⟩
  rw [← hg] at H5 ⊢
  have hinv : MbInv w M g q qb qh qw #[.int .i64 (c : Int), .int .i64 (m : Int), .slice aa args.length ac] l w5 bs2 (pre ++ []) 0 0 := by
    rw [List.append_nil]
    have hk := H5.out.2.2
    have := HN.out
    have hlt1 := H4.out.1.2.1.lt; have hlt2 := H4.out.1.2.2.1.lt; have hlt3 := H4.out.2.2.1.lt
    have hlt4 : q < wb.heap.size := by obtain ⟨v, p1, _⟩ := H4.out.1.1; exact p1.lt
    have := H4.out.2.2.2.2; have hkz := H3.out.size; have := H2.out.2.2.1.lt
    exact ⟨H4.out.1.kept hk, H4.out.2.2.1.kept hk (by simp), H5.out.1, fun b hb => by have := H4.out.2.1 b hb; have := hk.size; exact ⟨by omega, by omega, by omega, by omega⟩, H4.out.2.2.2.1.trans hk (by simp), ⟨by omega, by omega, by omega⟩, ⟨by omega, by omega, by omega, by omega, by omega, by omega⟩, H5.out.2.1⟩
  have HI0 := Lib.hid hinv; clear hinv hg
  go_loopw [6, 37] (fun nv i W => ∃ (k nx bits held : Nat) (bs : List Nat) (done : List UInt8), nv = .int .i64 (nx : Int) ∧ i = .int .i64 (k : Int) ∧ k ≤ l.length ∧ nx ≤ args.length ∧ Hid (bits ≤ 8 ∧ held < 2 ^ bits ∧ done.length ≤ 20000 * k ∧
      MbInv w M g q qb qh qw #[.int .i64 (c : Int), .int .i64 (m : Int), .slice aa args.length ac] l W bs (pre ++ done) bits held ∧ encM l args 0 0 = done ++ encM (l.drop k) (args.drop nx) bits held ∧ properGo (l.drop k) (args.drop nx) = true ∧ okBits (l.drop k) bits = true)) (fun _ i _ => l.length - (intOf i).toNat)
  case atStart => exact ⟨0, 0, 0, 0, bs2, [], rfl, rfl, Nat.zero_le _, Nat.zero_le _, Lib.hid ⟨by omega, by omega, by simp, HI0.out, rfl, H.out.2.2.1, H.out.2.2.2.2.2.1⟩⟩
  case round =>
    obtain ⟨k, nx, bits, held, bs, done, rfl, rfl, hkl, hnx, HR⟩ := hrel
    obtain ⟨hb8, hh8, hdl, hinv, henc, hpg, hob⟩ := id HR.out
    have hpl : pre.length = 4 := by rw [HPre.out]; simp [Lib.beBytes_length]
    have hh256 : held < 256 := Nat.lt_of_lt_of_le hh8 (by have := Nat.pow_le_pow_right (n := 2) (by omega) hb8; simpa using this)
    have hz0 : bits = 0 → held = 0 := fun e => by subst e; simpa using hh8
    have hlen : (pre ++ done).length ≤ 1000000 := by rw [List.length_append, hpl]; have := H.out.2.2.2.2.1; omega
    have HZ := Lib.hid (And.intro hb8 (And.intro hh256 (And.intro hz0 (And.intro hlen (And.intro hdl hh8))))); clear hb8 hh8 hdl hpl hh256 hz0 hlen
    have mm : wr.cell? ⟨M, 2, none⟩ = some (.slice aa args.length ac) := hinv.bm.cell 2
    by_cases hlt : k < l.length
    · obtain ⟨x, hx⟩ : ∃ x, l[k]? = some x := ⟨_, List.getElem?_eq_getElem hlt⟩
      have hlx : wr.cell? ⟨g, k, none⟩ = some (.int .u8 (x.toNat : Int)) := hinv.lb k x hx
      have hlt' : (k : Int) < l.length := by omega
      have hxm := H.out.2.2.2.1 x (List.mem_of_getElem? hx)
      have hdr : l.drop k = x :: l.drop (k + 1) := by
        obtain ⟨h, e⟩ := List.getElem?_eq_some_iff.1 hx
        rw [List.drop_eq_getElem_cons h, e]
      rw [hdr] at henc hpg hob
      clear hx hdr
      have HINV := Lib.hid hinv; clear hinv
      simp only [List.mem_cons, List.mem_nil_iff, or_false] at hxm
      rcases hxm with rfl | rfl | rfl | rfl | rfl | rfl | rfl | rfl | rfl | rfl | rfl | rfl
      · obtain ⟨a, ha, hda, hpa, hpg'⟩ := mb_arg (by decide) hpg
        rw [hda] at henc
        obtain ⟨ad, cs, rfl, hca, tv, rfl, hft⟩ := H.out.1 nx a ha
        have hnl : (nx : Int) < args.length := by have := (List.getElem?_eq_some_iff.1 ha).1; omega
        have hkz : Kept [] w (wr.alloc (.cells #[.int .i64 0, .int .u64 0, .string ⟨#[]⟩, .slice none 0 0] 77)) := HINV.out.kept.alloc _
        have hca' := (hca.kept hkz (by simp)).2
        have mmz : (wr.alloc (.cells #[.int .i64 0, .int .u64 0, .string ⟨#[]⟩, .slice none 0 0] 77)).cell? ⟨M, 2, none⟩ = some (.slice (some ad) args.length ac) := (HINV.out.bm.alloc _).cell 2
        have hft' := hft.kept HINV.out.kept (by simp)
        have hone : ∀ u ∈ [.int .i64 a.kind, .int .u64 (a.n : Int), .string (bstr a.text), tv], u.oneCell' = true := bears_arg.one (B := fun _ => True) (x := a) ⟨tv, rfl, hft.mono (fun _ _ _ => trivial)⟩
        have hwa := H.out.2.1 a (List.mem_of_getElem? ha)
        have HC := Lib.hid (And.intro hca' (And.intro hft' (And.intro hone (And.intro hwa hpa))))
        have HE := Lib.hid (And.intro henc (And.intro hpg' hob))
        clear ha hda hpa hpg hpg' henc hob hca hca' hkz hft hft' hone hwa
        go_upto_region 14 with (first | (refine wpList_load_cells rfl 77 (.tmp 46) rfl _ rfl [.int .i64 a.kind, .int .u64 (a.n : Int), .string (bstr a.text), tv] HC.out.1 _ Tryz.underlying77 rfl size_sArg ?_) | (refine wpList_store_row (P := Tryz.prog) rfl rfl 77 (.tmp 12) (.tmp 47) rfl wr.heap.size rfl 77 _ [.int .i64 a.kind, .int .u64 (a.n : Int), .string (bstr a.text), tv] (Blk.new wr _ _) rfl rfl HC.out.2.2.1 size_sArg ?_; intro w6 hb6 hk6; have hk6' := (((Kept.refl [] wr).alloc _).trans hk6 (S' := [wr.heap.size]) (fun x hx => .inr (by simp at hx; omega))); have HB6 := Lib.hid (And.intro hb6 hk6'); clear hb6 hk6 hk6'))
        have hi6 := HINV.out.keptI HB6.out.2
        obtain ⟨b12, hb12⟩ : ∃ b, b = wr.heap.size := ⟨_, rfl⟩
        rw [← hb12] at HB6 ⊢
        have hf12 : b12 ∉ q :: qb :: qh :: bs := HINV.out.fresh (by omega)
        have z1 : w6.cell? ⟨b12, 1, none⟩ = some (.int .u64 (a.n : Int)) := HB6.out.1.cell 1
        have z2 : w6.cell? ⟨b12, 2, none⟩ = some (.string (bstr a.text)) := HB6.out.1.cell 2
        obtain ⟨c1, c2, c3, f1, f2⟩ := hi6.st.cells
        have HI6 := Lib.hid hi6; have HF := Lib.hid hf12; clear hi6 hf12 hb12
        have hfl := flush_any q qb qh qw bits held bs (pre ++ done) w6 HI6.out.st HZ.out.1 HZ.out.2.1 HZ.out.2.2.1 (by have := HZ.out.2.2.2.1; omega)
        have HFL := Lib.hid hfl; clear hfl
        have hi6l : (pre ++ done).length ≤ 1000000 := HZ.out.2.2.2.1
        have hfll : (flushM bits held).length ≤ 1 := by unfold flushM; split <;> simp [Lib.beBytes_length]
        have hL7 : (pre ++ done ++ flushM bits held).length ≤ 1000001 := by rw [List.length_append]; omega
        have HL7 := Lib.hid (And.intro hi6l (And.intro hfll hL7)); clear hi6l hfll hL7
        go_upto_region 18 with (go_at_call 29; have hq := HFL.out; (with_reducible refine hq.mono ?_); clear hq; rintro e w7 ⟨rfl, bs7, hs7, ha7⟩; have hi7 := HI6.out.adv hs7 ha7; have hb7 := HB6.out.1.kept ha7.kept HF.out; have z7 : w7.cell? ⟨b12, 1, none⟩ = some (.int .u64 (a.n : Int)) := hb7.cell 1; obtain ⟨d1, d2, d3, g1, g2⟩ := hi7.st.cells; have hlL := HL7.out.2.2; have hcon := put_any q a.n 1 bs7 (pre ++ done ++ flushM bits held) w7 hi7.st.1 (by have := HC.out.2.2.2.1.2.2.2.1; omega) (by omega) (by omega); have H7 := Lib.hid (And.intro hi7 (And.intro ha7 hcon)); clear hi7 ha7 hs7 hb7 hlL hcon)
        go_wp2_with (go_at_call 21; have hq := H7.out.2.2; refine hq.mono ?_; clear hq; rintro e w8 ⟨rfl, bs8, hw8, ha8⟩; have hi8 := H7.out.1.adv (H7.out.1.st.adv hw8 ha8) (ha8.toM qb qh); have H8 := Lib.hid hi8; clear hi8 hw8 ha8)
        go_roundw
        case rel =>
          have he := HE.out.1
          rw [encM] at he
          simp only [List.headD_cons, List.tail_cons] at he
          rw [if_neg (by decide), if_neg (by decide), if_neg (by decide)] at he
          have hit : (itemM 111 a).length ≤ 18004 := mb_item HC.out.2.2.2.2 (by decide)
          refine ⟨k + 1, nx + 1, 0, 0, bs8, done ++ (flushM bits held ++ itemM 111 a), rfl, rfl, by omega, by omega, Lib.hid ⟨by omega, by simp, ?_, ?_, ?_, HE.out.2.1, ?_⟩⟩
          · simp only [List.length_append]; have := HL7.out.2.1; have := HZ.out.2.2.2.2.1; omega
          · have := H8.out; simpa [itemM, MArg.zero, List.append_assoc] using this
          · rw [he]; simp only [List.append_assoc]
          · have := HE.out.2.2; simpa [okBits] using this
        case measure => simp [intOf]; omega
      · obtain ⟨a, ha, hda, hpa, hpg'⟩ := mb_arg (by decide) hpg
        rw [hda] at henc
        obtain ⟨ad, cs, rfl, hca, tv, rfl, hft⟩ := H.out.1 nx a ha
        have hnl : (nx : Int) < args.length := by have := (List.getElem?_eq_some_iff.1 ha).1; omega
        have hkz : Kept [] w (wr.alloc (.cells #[.int .i64 0, .int .u64 0, .string ⟨#[]⟩, .slice none 0 0] 77)) := HINV.out.kept.alloc _
        have hca' := (hca.kept hkz (by simp)).2
        have mmz : (wr.alloc (.cells #[.int .i64 0, .int .u64 0, .string ⟨#[]⟩, .slice none 0 0] 77)).cell? ⟨M, 2, none⟩ = some (.slice (some ad) args.length ac) := (HINV.out.bm.alloc _).cell 2
        have hft' := hft.kept HINV.out.kept (by simp)
        have hone : ∀ u ∈ [.int .i64 a.kind, .int .u64 (a.n : Int), .string (bstr a.text), tv], u.oneCell' = true := bears_arg.one (B := fun _ => True) (x := a) ⟨tv, rfl, hft.mono (fun _ _ _ => trivial)⟩
        have hwa := H.out.2.1 a (List.mem_of_getElem? ha)
        have HC := Lib.hid (And.intro hca' (And.intro hft' (And.intro hone (And.intro hwa hpa))))
        have HE := Lib.hid (And.intro henc (And.intro hpg' hob))
        clear ha hda hpa hpg hpg' henc hob hca hca' hkz hft hft' hone hwa
        go_upto_region 14 with (first | (refine wpList_load_cells rfl 77 (.tmp 46) rfl _ rfl [.int .i64 a.kind, .int .u64 (a.n : Int), .string (bstr a.text), tv] HC.out.1 _ Tryz.underlying77 rfl size_sArg ?_) | (refine wpList_store_row (P := Tryz.prog) rfl rfl 77 (.tmp 12) (.tmp 47) rfl wr.heap.size rfl 77 _ [.int .i64 a.kind, .int .u64 (a.n : Int), .string (bstr a.text), tv] (Blk.new wr _ _) rfl rfl HC.out.2.2.1 size_sArg ?_; intro w6 hb6 hk6; have hk6' := (((Kept.refl [] wr).alloc _).trans hk6 (S' := [wr.heap.size]) (fun x hx => .inr (by simp at hx; omega))); have HB6 := Lib.hid (And.intro hb6 hk6'); clear hb6 hk6 hk6'))
        have hi6 := HINV.out.keptI HB6.out.2
        obtain ⟨b12, hb12⟩ : ∃ b, b = wr.heap.size := ⟨_, rfl⟩
        rw [← hb12] at HB6 ⊢
        have hf12 : b12 ∉ q :: qb :: qh :: bs := HINV.out.fresh (by omega)
        have z1 : w6.cell? ⟨b12, 1, none⟩ = some (.int .u64 (a.n : Int)) := HB6.out.1.cell 1
        have z2 : w6.cell? ⟨b12, 2, none⟩ = some (.string (bstr a.text)) := HB6.out.1.cell 2
        obtain ⟨c1, c2, c3, f1, f2⟩ := hi6.st.cells
        have HI6 := Lib.hid hi6; have HF := Lib.hid hf12; clear hi6 hf12 hb12
        have hfl := flush_any q qb qh qw bits held bs (pre ++ done) w6 HI6.out.st HZ.out.1 HZ.out.2.1 HZ.out.2.2.1 (by have := HZ.out.2.2.2.1; omega)
        have HFL := Lib.hid hfl; clear hfl
        have hi6l : (pre ++ done).length ≤ 1000000 := HZ.out.2.2.2.1
        have hfll : (flushM bits held).length ≤ 1 := by unfold flushM; split <;> simp [Lib.beBytes_length]
        have hL7 : (pre ++ done ++ flushM bits held).length ≤ 1000001 := by rw [List.length_append]; omega
        have HL7 := Lib.hid (And.intro hi6l (And.intro hfll hL7)); clear hi6l hfll hL7
        go_upto_region 18 with (go_at_call 29; have hq := HFL.out; (with_reducible refine hq.mono ?_); clear hq; rintro e w7 ⟨rfl, bs7, hs7, ha7⟩; have hi7 := HI6.out.adv hs7 ha7; have hb7 := HB6.out.1.kept ha7.kept HF.out; have z7 : w7.cell? ⟨b12, 1, none⟩ = some (.int .u64 (a.n : Int)) := hb7.cell 1; obtain ⟨d1, d2, d3, g1, g2⟩ := hi7.st.cells; have hlL := HL7.out.2.2; have hcon := put_any q a.n 2 bs7 (pre ++ done ++ flushM bits held) w7 hi7.st.1 (by have := HC.out.2.2.2.1.2.2.2.1; omega) (by omega) (by omega); have H7 := Lib.hid (And.intro hi7 (And.intro ha7 hcon)); clear hi7 ha7 hs7 hb7 hlL hcon)
        go_wp2_with (go_at_call 21; have hq := H7.out.2.2; refine hq.mono ?_; clear hq; rintro e w8 ⟨rfl, bs8, hw8, ha8⟩; have hi8 := H7.out.1.adv (H7.out.1.st.adv hw8 ha8) (ha8.toM qb qh); have H8 := Lib.hid hi8; clear hi8 hw8 ha8)
        go_roundw
        case rel =>
          have he := HE.out.1
          rw [encM] at he
          simp only [List.headD_cons, List.tail_cons] at he
          rw [if_neg (by decide), if_neg (by decide), if_neg (by decide)] at he
          have hit : (itemM 115 a).length ≤ 18004 := mb_item HC.out.2.2.2.2 (by decide)
          refine ⟨k + 1, nx + 1, 0, 0, bs8, done ++ (flushM bits held ++ itemM 115 a), rfl, rfl, by omega, by omega, Lib.hid ⟨by omega, by simp, ?_, ?_, ?_, HE.out.2.1, ?_⟩⟩
          · simp only [List.length_append]; have := HL7.out.2.1; have := HZ.out.2.2.2.2.1; omega
          · have := H8.out; simpa [itemM, MArg.zero, List.append_assoc] using this
          · rw [he]; simp only [List.append_assoc]
          · have := HE.out.2.2; simpa [okBits] using this
        case measure => simp [intOf]; omega
      · obtain ⟨a, ha, hda, hpa, hpg'⟩ := mb_arg (by decide) hpg
        rw [hda] at henc
        obtain ⟨ad, cs, rfl, hca, tv, rfl, hft⟩ := H.out.1 nx a ha
        have hnl : (nx : Int) < args.length := by have := (List.getElem?_eq_some_iff.1 ha).1; omega
        have hkz : Kept [] w (wr.alloc (.cells #[.int .i64 0, .int .u64 0, .string ⟨#[]⟩, .slice none 0 0] 77)) := HINV.out.kept.alloc _
        have hca' := (hca.kept hkz (by simp)).2
        have mmz : (wr.alloc (.cells #[.int .i64 0, .int .u64 0, .string ⟨#[]⟩, .slice none 0 0] 77)).cell? ⟨M, 2, none⟩ = some (.slice (some ad) args.length ac) := (HINV.out.bm.alloc _).cell 2
        have hft' := hft.kept HINV.out.kept (by simp)
        have hone : ∀ u ∈ [.int .i64 a.kind, .int .u64 (a.n : Int), .string (bstr a.text), tv], u.oneCell' = true := bears_arg.one (B := fun _ => True) (x := a) ⟨tv, rfl, hft.mono (fun _ _ _ => trivial)⟩
        have hwa := H.out.2.1 a (List.mem_of_getElem? ha)
        have HC := Lib.hid (And.intro hca' (And.intro hft' (And.intro hone (And.intro hwa hpa))))
        have HE := Lib.hid (And.intro henc (And.intro hpg' hob))
        clear ha hda hpa hpg hpg' henc hob hca hca' hkz hft hft' hone hwa
        go_upto_region 14 with (first | (refine wpList_load_cells rfl 77 (.tmp 46) rfl _ rfl [.int .i64 a.kind, .int .u64 (a.n : Int), .string (bstr a.text), tv] HC.out.1 _ Tryz.underlying77 rfl size_sArg ?_) | (refine wpList_store_row (P := Tryz.prog) rfl rfl 77 (.tmp 12) (.tmp 47) rfl wr.heap.size rfl 77 _ [.int .i64 a.kind, .int .u64 (a.n : Int), .string (bstr a.text), tv] (Blk.new wr _ _) rfl rfl HC.out.2.2.1 size_sArg ?_; intro w6 hb6 hk6; have hk6' := (((Kept.refl [] wr).alloc _).trans hk6 (S' := [wr.heap.size]) (fun x hx => .inr (by simp at hx; omega))); have HB6 := Lib.hid (And.intro hb6 hk6'); clear hb6 hk6 hk6'))
        have hi6 := HINV.out.keptI HB6.out.2
        obtain ⟨b12, hb12⟩ : ∃ b, b = wr.heap.size := ⟨_, rfl⟩
        rw [← hb12] at HB6 ⊢
        have hf12 : b12 ∉ q :: qb :: qh :: bs := HINV.out.fresh (by omega)
        have z1 : w6.cell? ⟨b12, 1, none⟩ = some (.int .u64 (a.n : Int)) := HB6.out.1.cell 1
        have z2 : w6.cell? ⟨b12, 2, none⟩ = some (.string (bstr a.text)) := HB6.out.1.cell 2
        obtain ⟨c1, c2, c3, f1, f2⟩ := hi6.st.cells
        have HI6 := Lib.hid hi6; have HF := Lib.hid hf12; clear hi6 hf12 hb12
        have hfl := flush_any q qb qh qw bits held bs (pre ++ done) w6 HI6.out.st HZ.out.1 HZ.out.2.1 HZ.out.2.2.1 (by have := HZ.out.2.2.2.1; omega)
        have HFL := Lib.hid hfl; clear hfl
        have hi6l : (pre ++ done).length ≤ 1000000 := HZ.out.2.2.2.1
        have hfll : (flushM bits held).length ≤ 1 := by unfold flushM; split <;> simp [Lib.beBytes_length]
        have hL7 : (pre ++ done ++ flushM bits held).length ≤ 1000001 := by rw [List.length_append]; omega
        have HL7 := Lib.hid (And.intro hi6l (And.intro hfll hL7)); clear hi6l hfll hL7
        go_upto_region 18 with (go_at_call 29; have hq := HFL.out; (with_reducible refine hq.mono ?_); clear hq; rintro e w7 ⟨rfl, bs7, hs7, ha7⟩; have hi7 := HI6.out.adv hs7 ha7; have hb7 := HB6.out.1.kept ha7.kept HF.out; have z7 : w7.cell? ⟨b12, 1, none⟩ = some (.int .u64 (a.n : Int)) := hb7.cell 1; obtain ⟨d1, d2, d3, g1, g2⟩ := hi7.st.cells; have hlL := HL7.out.2.2; have hcon := put_any q a.n 4 bs7 (pre ++ done ++ flushM bits held) w7 hi7.st.1 (by have := HC.out.2.2.2.1.2.2.2.1; omega) (by omega) (by omega); have H7 := Lib.hid (And.intro hi7 (And.intro ha7 hcon)); clear hi7 ha7 hs7 hb7 hlL hcon)
        go_wp2_with (go_at_call 21; have hq := H7.out.2.2; refine hq.mono ?_; clear hq; rintro e w8 ⟨rfl, bs8, hw8, ha8⟩; have hi8 := H7.out.1.adv (H7.out.1.st.adv hw8 ha8) (ha8.toM qb qh); have H8 := Lib.hid hi8; clear hi8 hw8 ha8)
        go_roundw
        case rel =>
          have he := HE.out.1
          rw [encM] at he
          simp only [List.headD_cons, List.tail_cons] at he
          rw [if_neg (by decide), if_neg (by decide), if_neg (by decide)] at he
          have hit : (itemM 108 a).length ≤ 18004 := mb_item HC.out.2.2.2.2 (by decide)
          refine ⟨k + 1, nx + 1, 0, 0, bs8, done ++ (flushM bits held ++ itemM 108 a), rfl, rfl, by omega, by omega, Lib.hid ⟨by omega, by simp, ?_, ?_, ?_, HE.out.2.1, ?_⟩⟩
          · simp only [List.length_append]; have := HL7.out.2.1; have := HZ.out.2.2.2.2.1; omega
          · have := H8.out; simpa [itemM, MArg.zero, List.append_assoc] using this
          · rw [he]; simp only [List.append_assoc]
          · have := HE.out.2.2; simpa [okBits] using this
        case measure => simp [intOf]; omega
      · obtain ⟨a, ha, hda, hpa, hpg'⟩ := mb_arg (by decide) hpg
        rw [hda] at henc
        obtain ⟨ad, cs, rfl, hca, tv, rfl, hft⟩ := H.out.1 nx a ha
        have hnl : (nx : Int) < args.length := by have := (List.getElem?_eq_some_iff.1 ha).1; omega
        have hkz : Kept [] w (wr.alloc (.cells #[.int .i64 0, .int .u64 0, .string ⟨#[]⟩, .slice none 0 0] 77)) := HINV.out.kept.alloc _
        have hca' := (hca.kept hkz (by simp)).2
        have mmz : (wr.alloc (.cells #[.int .i64 0, .int .u64 0, .string ⟨#[]⟩, .slice none 0 0] 77)).cell? ⟨M, 2, none⟩ = some (.slice (some ad) args.length ac) := (HINV.out.bm.alloc _).cell 2
        have hft' := hft.kept HINV.out.kept (by simp)
        have hone : ∀ u ∈ [.int .i64 a.kind, .int .u64 (a.n : Int), .string (bstr a.text), tv], u.oneCell' = true := bears_arg.one (B := fun _ => True) (x := a) ⟨tv, rfl, hft.mono (fun _ _ _ => trivial)⟩
        have hwa := H.out.2.1 a (List.mem_of_getElem? ha)
        have HC := Lib.hid (And.intro hca' (And.intro hft' (And.intro hone (And.intro hwa hpa))))
        have HE := Lib.hid (And.intro henc (And.intro hpg' hob))
        clear ha hda hpa hpg hpg' henc hob hca hca' hkz hft hft' hone hwa
        go_upto_region 14 with (first | (refine wpList_load_cells rfl 77 (.tmp 46) rfl _ rfl [.int .i64 a.kind, .int .u64 (a.n : Int), .string (bstr a.text), tv] HC.out.1 _ Tryz.underlying77 rfl size_sArg ?_) | (refine wpList_store_row (P := Tryz.prog) rfl rfl 77 (.tmp 12) (.tmp 47) rfl wr.heap.size rfl 77 _ [.int .i64 a.kind, .int .u64 (a.n : Int), .string (bstr a.text), tv] (Blk.new wr _ _) rfl rfl HC.out.2.2.1 size_sArg ?_; intro w6 hb6 hk6; have hk6' := (((Kept.refl [] wr).alloc _).trans hk6 (S' := [wr.heap.size]) (fun x hx => .inr (by simp at hx; omega))); have HB6 := Lib.hid (And.intro hb6 hk6'); clear hb6 hk6 hk6'))
        have hi6 := HINV.out.keptI HB6.out.2
        obtain ⟨b12, hb12⟩ : ∃ b, b = wr.heap.size := ⟨_, rfl⟩
        rw [← hb12] at HB6 ⊢
        have hf12 : b12 ∉ q :: qb :: qh :: bs := HINV.out.fresh (by omega)
        have z1 : w6.cell? ⟨b12, 1, none⟩ = some (.int .u64 (a.n : Int)) := HB6.out.1.cell 1
        have z2 : w6.cell? ⟨b12, 2, none⟩ = some (.string (bstr a.text)) := HB6.out.1.cell 2
        obtain ⟨c1, c2, c3, f1, f2⟩ := hi6.st.cells
        have HI6 := Lib.hid hi6; have HF := Lib.hid hf12; clear hi6 hf12 hb12
        have hfl := flush_any q qb qh qw bits held bs (pre ++ done) w6 HI6.out.st HZ.out.1 HZ.out.2.1 HZ.out.2.2.1 (by have := HZ.out.2.2.2.1; omega)
        have HFL := Lib.hid hfl; clear hfl
        have hi6l : (pre ++ done).length ≤ 1000000 := HZ.out.2.2.2.1
        have hfll : (flushM bits held).length ≤ 1 := by unfold flushM; split <;> simp [Lib.beBytes_length]
        have hL7 : (pre ++ done ++ flushM bits held).length ≤ 1000001 := by rw [List.length_append]; omega
        have HL7 := Lib.hid (And.intro hi6l (And.intro hfll hL7)); clear hi6l hfll hL7
        go_upto_region 18 with (go_at_call 29; have hq := HFL.out; (with_reducible refine hq.mono ?_); clear hq; rintro e w7 ⟨rfl, bs7, hs7, ha7⟩; have hi7 := HI6.out.adv hs7 ha7; have hb7 := HB6.out.1.kept ha7.kept HF.out; have z7 : w7.cell? ⟨b12, 1, none⟩ = some (.int .u64 (a.n : Int)) := hb7.cell 1; obtain ⟨d1, d2, d3, g1, g2⟩ := hi7.st.cells; have hlL := HL7.out.2.2; have hcon := put_any q a.n 8 bs7 (pre ++ done ++ flushM bits held) w7 hi7.st.1 (by have := HC.out.2.2.2.1.2.2.2.1; omega) (by omega) (by omega); have H7 := Lib.hid (And.intro hi7 (And.intro ha7 hcon)); clear hi7 ha7 hs7 hb7 hlL hcon)
        go_wp2_with (go_at_call 21; have hq := H7.out.2.2; refine hq.mono ?_; clear hq; rintro e w8 ⟨rfl, bs8, hw8, ha8⟩; have hi8 := H7.out.1.adv (H7.out.1.st.adv hw8 ha8) (ha8.toM qb qh); have H8 := Lib.hid hi8; clear hi8 hw8 ha8)
        go_roundw
        case rel =>
          have he := HE.out.1
          rw [encM] at he
          simp only [List.headD_cons, List.tail_cons] at he
          rw [if_neg (by decide), if_neg (by decide), if_neg (by decide)] at he
          have hit : (itemM 113 a).length ≤ 18004 := mb_item HC.out.2.2.2.2 (by decide)
          refine ⟨k + 1, nx + 1, 0, 0, bs8, done ++ (flushM bits held ++ itemM 113 a), rfl, rfl, by omega, by omega, Lib.hid ⟨by omega, by simp, ?_, ?_, ?_, HE.out.2.1, ?_⟩⟩
          · simp only [List.length_append]; have := HL7.out.2.1; have := HZ.out.2.2.2.2.1; omega
          · have := H8.out; simpa [itemM, MArg.zero, List.append_assoc] using this
          · rw [he]; simp only [List.append_assoc]
          · have := HE.out.2.2; simpa [okBits] using this
        case measure => simp [intOf]; omega
      · obtain ⟨a, ha, hda, hpa, hpg'⟩ := mb_arg (by decide) hpg
        rw [hda] at henc
        obtain ⟨ad, cs, rfl, hca, tv, rfl, hft⟩ := H.out.1 nx a ha
        have hnl : (nx : Int) < args.length := by have := (List.getElem?_eq_some_iff.1 ha).1; omega
        have hkz : Kept [] w (wr.alloc (.cells #[.int .i64 0, .int .u64 0, .string ⟨#[]⟩, .slice none 0 0] 77)) := HINV.out.kept.alloc _
        have hca' := (hca.kept hkz (by simp)).2
        have mmz : (wr.alloc (.cells #[.int .i64 0, .int .u64 0, .string ⟨#[]⟩, .slice none 0 0] 77)).cell? ⟨M, 2, none⟩ = some (.slice (some ad) args.length ac) := (HINV.out.bm.alloc _).cell 2
        have hft' := hft.kept HINV.out.kept (by simp)
        have hone : ∀ u ∈ [.int .i64 a.kind, .int .u64 (a.n : Int), .string (bstr a.text), tv], u.oneCell' = true := bears_arg.one (B := fun _ => True) (x := a) ⟨tv, rfl, hft.mono (fun _ _ _ => trivial)⟩
        have hwa := H.out.2.1 a (List.mem_of_getElem? ha)
        have HC := Lib.hid (And.intro hca' (And.intro hft' (And.intro hone (And.intro hwa hpa))))
        have HE := Lib.hid (And.intro henc (And.intro hpg' hob))
        clear ha hda hpa hpg hpg' henc hob hca hca' hkz hft hft' hone hwa
        go_upto_region 14 with (first | (refine wpList_load_cells rfl 77 (.tmp 46) rfl _ rfl [.int .i64 a.kind, .int .u64 (a.n : Int), .string (bstr a.text), tv] HC.out.1 _ Tryz.underlying77 rfl size_sArg ?_) | (refine wpList_store_row (P := Tryz.prog) rfl rfl 77 (.tmp 12) (.tmp 47) rfl wr.heap.size rfl 77 _ [.int .i64 a.kind, .int .u64 (a.n : Int), .string (bstr a.text), tv] (Blk.new wr _ _) rfl rfl HC.out.2.2.1 size_sArg ?_; intro w6 hb6 hk6; have hk6' := (((Kept.refl [] wr).alloc _).trans hk6 (S' := [wr.heap.size]) (fun x hx => .inr (by simp at hx; omega))); have HB6 := Lib.hid (And.intro hb6 hk6'); clear hb6 hk6 hk6'))
        have hi6 := HINV.out.keptI HB6.out.2
        obtain ⟨b12, hb12⟩ : ∃ b, b = wr.heap.size := ⟨_, rfl⟩
        rw [← hb12] at HB6 ⊢
        have hf12 : b12 ∉ q :: qb :: qh :: bs := HINV.out.fresh (by omega)
        have z1 : w6.cell? ⟨b12, 1, none⟩ = some (.int .u64 (a.n : Int)) := HB6.out.1.cell 1
        have z2 : w6.cell? ⟨b12, 2, none⟩ = some (.string (bstr a.text)) := HB6.out.1.cell 2
        obtain ⟨c1, c2, c3, f1, f2⟩ := hi6.st.cells
        have HI6 := Lib.hid hi6; have HF := Lib.hid hf12; clear hi6 hf12 hb12
        have hfl := flush_any q qb qh qw bits held bs (pre ++ done) w6 HI6.out.st HZ.out.1 HZ.out.2.1 HZ.out.2.2.1 (by have := HZ.out.2.2.2.1; omega)
        have HFL := Lib.hid hfl; clear hfl
        have htl := mb_text HC.out.2.2.2.2 (by decide)
        have hi6l : (pre ++ done).length ≤ 1000000 := HZ.out.2.2.2.1
        have hfll : (flushM bits held).length ≤ 1 := by unfold flushM; split <;> simp [Lib.beBytes_length]
        have hL7 : (pre ++ done ++ flushM bits held).length ≤ 1000001 := by rw [List.length_append]; omega
        have HL7 := Lib.hid (And.intro hi6l (And.intro hfll hL7)); clear hi6l hfll hL7
        go_upto_region 18 with (go_at_call 29; have hq := HFL.out; (with_reducible refine hq.mono ?_); clear hq; rintro e w7 ⟨rfl, bs7, hs7, ha7⟩; have hi7 := HI6.out.adv hs7 ha7; have hb7 := HB6.out.1.kept ha7.kept HF.out; have z7 : w7.cell? ⟨b12, 2, none⟩ = some (.string (bstr a.text)) := hb7.cell 2; obtain ⟨d1, d2, d3, g1, g2⟩ := hi7.st.cells; have hlL := HL7.out.2.2; have hcon := short_any q a.text bs7 (pre ++ done ++ flushM bits held) w7 hi7.st.1 (by first | omega | simp) (by omega); have H7 := Lib.hid (And.intro hi7 (And.intro ha7 hcon)); clear hi7 ha7 hs7 hb7 hlL hcon)
        go_wp2_with (go_at_call 30; have hq := H7.out.2.2; refine hq.mono ?_; clear hq; rintro e w8 ⟨rfl, bs8, hw8, ha8⟩; have hi8 := H7.out.1.adv (H7.out.1.st.adv hw8 ha8) (ha8.toM qb qh); have H8 := Lib.hid hi8; clear hi8 hw8 ha8)
        go_roundw
        case rel =>
          have he := HE.out.1
          rw [encM] at he
          simp only [List.headD_cons, List.tail_cons] at he
          rw [if_neg (by decide), if_neg (by decide), if_neg (by decide)] at he
          have hit : (itemM 83 a).length ≤ 18004 := mb_item HC.out.2.2.2.2 (by decide)
          refine ⟨k + 1, nx + 1, 0, 0, bs8, done ++ (flushM bits held ++ itemM 83 a), rfl, rfl, by omega, by omega, Lib.hid ⟨by omega, by simp, ?_, ?_, ?_, HE.out.2.1, ?_⟩⟩
          · simp only [List.length_append]; have := HL7.out.2.1; have := HZ.out.2.2.2.2.1; omega
          · have := H8.out; simpa [itemM, MArg.zero, List.append_assoc] using this
          · rw [he]; simp only [List.append_assoc]
          · have := HE.out.2.2; simpa [okBits] using this
        case measure => simp [intOf]; omega
      · obtain ⟨a, ha, hda, hpa, hpg'⟩ := mb_arg (by decide) hpg
        rw [hda] at henc
        obtain ⟨ad, cs, rfl, hca, tv, rfl, hft⟩ := H.out.1 nx a ha
        have hnl : (nx : Int) < args.length := by have := (List.getElem?_eq_some_iff.1 ha).1; omega
        have hkz : Kept [] w (wr.alloc (.cells #[.int .i64 0, .int .u64 0, .string ⟨#[]⟩, .slice none 0 0] 77)) := HINV.out.kept.alloc _
        have hca' := (hca.kept hkz (by simp)).2
        have mmz : (wr.alloc (.cells #[.int .i64 0, .int .u64 0, .string ⟨#[]⟩, .slice none 0 0] 77)).cell? ⟨M, 2, none⟩ = some (.slice (some ad) args.length ac) := (HINV.out.bm.alloc _).cell 2
        have hft' := hft.kept HINV.out.kept (by simp)
        have hone : ∀ u ∈ [.int .i64 a.kind, .int .u64 (a.n : Int), .string (bstr a.text), tv], u.oneCell' = true := bears_arg.one (B := fun _ => True) (x := a) ⟨tv, rfl, hft.mono (fun _ _ _ => trivial)⟩
        have hwa := H.out.2.1 a (List.mem_of_getElem? ha)
        have HC := Lib.hid (And.intro hca' (And.intro hft' (And.intro hone (And.intro hwa hpa))))
        have HE := Lib.hid (And.intro henc (And.intro hpg' hob))
        clear ha hda hpa hpg hpg' henc hob hca hca' hkz hft hft' hone hwa
        go_upto_region 14 with (first | (refine wpList_load_cells rfl 77 (.tmp 46) rfl _ rfl [.int .i64 a.kind, .int .u64 (a.n : Int), .string (bstr a.text), tv] HC.out.1 _ Tryz.underlying77 rfl size_sArg ?_) | (refine wpList_store_row (P := Tryz.prog) rfl rfl 77 (.tmp 12) (.tmp 47) rfl wr.heap.size rfl 77 _ [.int .i64 a.kind, .int .u64 (a.n : Int), .string (bstr a.text), tv] (Blk.new wr _ _) rfl rfl HC.out.2.2.1 size_sArg ?_; intro w6 hb6 hk6; have hk6' := (((Kept.refl [] wr).alloc _).trans hk6 (S' := [wr.heap.size]) (fun x hx => .inr (by simp at hx; omega))); have HB6 := Lib.hid (And.intro hb6 hk6'); clear hb6 hk6 hk6'))
        have hi6 := HINV.out.keptI HB6.out.2
        obtain ⟨b12, hb12⟩ : ∃ b, b = wr.heap.size := ⟨_, rfl⟩
        rw [← hb12] at HB6 ⊢
        have hf12 : b12 ∉ q :: qb :: qh :: bs := HINV.out.fresh (by omega)
        have z1 : w6.cell? ⟨b12, 1, none⟩ = some (.int .u64 (a.n : Int)) := HB6.out.1.cell 1
        have z2 : w6.cell? ⟨b12, 2, none⟩ = some (.string (bstr a.text)) := HB6.out.1.cell 2
        obtain ⟨c1, c2, c3, f1, f2⟩ := hi6.st.cells
        have HI6 := Lib.hid hi6; have HF := Lib.hid hf12; clear hi6 hf12 hb12
        have hfl := flush_any q qb qh qw bits held bs (pre ++ done) w6 HI6.out.st HZ.out.1 HZ.out.2.1 HZ.out.2.2.1 (by have := HZ.out.2.2.2.1; omega)
        have HFL := Lib.hid hfl; clear hfl
        have htl := mb_text HC.out.2.2.2.2 (by decide)
        have hi6l : (pre ++ done).length ≤ 1000000 := HZ.out.2.2.2.1
        have hfll : (flushM bits held).length ≤ 1 := by unfold flushM; split <;> simp [Lib.beBytes_length]
        have hL7 : (pre ++ done ++ flushM bits held).length ≤ 1000001 := by rw [List.length_append]; omega
        have HL7 := Lib.hid (And.intro hi6l (And.intro hfll hL7)); clear hi6l hfll hL7
        go_upto_region 18 with (go_at_call 29; have hq := HFL.out; (with_reducible refine hq.mono ?_); clear hq; rintro e w7 ⟨rfl, bs7, hs7, ha7⟩; have hi7 := HI6.out.adv hs7 ha7; have hb7 := HB6.out.1.kept ha7.kept HF.out; have z7 : w7.cell? ⟨b12, 2, none⟩ = some (.string (bstr a.text)) := hb7.cell 2; obtain ⟨d1, d2, d3, g1, g2⟩ := hi7.st.cells; have hlL := HL7.out.2.2; have hcon := long_any q a.text bs7 (pre ++ done ++ flushM bits held) w7 hi7.st.1 (by first | omega | simp) (by omega); have H7 := Lib.hid (And.intro hi7 (And.intro ha7 hcon)); clear hi7 ha7 hs7 hb7 hlL hcon)
        go_wp2_with (go_at_call 31; have hq := H7.out.2.2; refine hq.mono ?_; clear hq; rintro e w8 ⟨rfl, bs8, hw8, ha8⟩; have hi8 := H7.out.1.adv (H7.out.1.st.adv hw8 ha8) (ha8.toM qb qh); have H8 := Lib.hid hi8; clear hi8 hw8 ha8)
        go_roundw
        case rel =>
          have he := HE.out.1
          rw [encM] at he
          simp only [List.headD_cons, List.tail_cons] at he
          rw [if_neg (by decide), if_neg (by decide), if_neg (by decide)] at he
          have hit : (itemM 76 a).length ≤ 18004 := mb_item HC.out.2.2.2.2 (by decide)
          refine ⟨k + 1, nx + 1, 0, 0, bs8, done ++ (flushM bits held ++ itemM 76 a), rfl, rfl, by omega, by omega, Lib.hid ⟨by omega, by simp, ?_, ?_, ?_, HE.out.2.1, ?_⟩⟩
          · simp only [List.length_append]; have := HL7.out.2.1; have := HZ.out.2.2.2.2.1; omega
          · have := H8.out; simpa [itemM, MArg.zero, List.append_assoc] using this
          · rw [he]; simp only [List.append_assoc]
          · have := HE.out.2.2; simpa [okBits] using this
        case measure => simp [intOf]; omega
      · obtain ⟨a, ha, hda, hpa, hpg'⟩ := mb_arg (by decide) hpg
        rw [hda] at henc
        obtain ⟨ad, cs, rfl, hca, tv, rfl, hft⟩ := H.out.1 nx a ha
        have hnl : (nx : Int) < args.length := by have := (List.getElem?_eq_some_iff.1 ha).1; omega
        have hkz : Kept [] w (wr.alloc (.cells #[.int .i64 0, .int .u64 0, .string ⟨#[]⟩, .slice none 0 0] 77)) := HINV.out.kept.alloc _
        have hca' := (hca.kept hkz (by simp)).2
        have mmz : (wr.alloc (.cells #[.int .i64 0, .int .u64 0, .string ⟨#[]⟩, .slice none 0 0] 77)).cell? ⟨M, 2, none⟩ = some (.slice (some ad) args.length ac) := (HINV.out.bm.alloc _).cell 2
        have hft' := hft.kept HINV.out.kept (by simp)
        have hone : ∀ u ∈ [.int .i64 a.kind, .int .u64 (a.n : Int), .string (bstr a.text), tv], u.oneCell' = true := bears_arg.one (B := fun _ => True) (x := a) ⟨tv, rfl, hft.mono (fun _ _ _ => trivial)⟩
        have hwa := H.out.2.1 a (List.mem_of_getElem? ha)
        have HC := Lib.hid (And.intro hca' (And.intro hft' (And.intro hone (And.intro hwa hpa))))
        have HE := Lib.hid (And.intro henc (And.intro hpg' hob))
        clear ha hda hpa hpg hpg' henc hob hca hca' hkz hft hft' hone hwa
        go_upto_region 14 with (first | (refine wpList_load_cells rfl 77 (.tmp 46) rfl _ rfl [.int .i64 a.kind, .int .u64 (a.n : Int), .string (bstr a.text), tv] HC.out.1 _ Tryz.underlying77 rfl size_sArg ?_) | (refine wpList_store_row (P := Tryz.prog) rfl rfl 77 (.tmp 12) (.tmp 47) rfl wr.heap.size rfl 77 _ [.int .i64 a.kind, .int .u64 (a.n : Int), .string (bstr a.text), tv] (Blk.new wr _ _) rfl rfl HC.out.2.2.1 size_sArg ?_; intro w6 hb6 hk6; have hk6' := (((Kept.refl [] wr).alloc _).trans hk6 (S' := [wr.heap.size]) (fun x hx => .inr (by simp at hx; omega))); have HB6 := Lib.hid (And.intro hb6 hk6'); clear hb6 hk6 hk6'))
        have hi6 := HINV.out.keptI HB6.out.2
        obtain ⟨b12, hb12⟩ : ∃ b, b = wr.heap.size := ⟨_, rfl⟩
        rw [← hb12] at HB6 ⊢
        have hf12 : b12 ∉ q :: qb :: qh :: bs := HINV.out.fresh (by omega)
        have z1 : w6.cell? ⟨b12, 1, none⟩ = some (.int .u64 (a.n : Int)) := HB6.out.1.cell 1
        have z2 : w6.cell? ⟨b12, 2, none⟩ = some (.string (bstr a.text)) := HB6.out.1.cell 2
        obtain ⟨c1, c2, c3, f1, f2⟩ := hi6.st.cells
        have HI6 := Lib.hid hi6; have HF := Lib.hid hf12; clear hi6 hf12 hb12
        go_upto_region 15 with fail
        have hob' := HE.out.2.2
        simp only [okBits, true_or, or_true, if_true, Bool.and_eq_true, decide_eq_true_eq] at hob'
        have hval := bit_val held bits a.n HZ.out.2.2.2.2.2 hob'.1 HC.out.2.2.2.1.2.2.2.1; have HV := Lib.hid hval; clear hval
        have hbi : (bits : Int) < 8 := by have := hob'.1; omega
        have hbi0 : ¬ (bits : Int) < 0 := by omega
        have y1 : (w6.drew.setCell ⟨qh, 0, none⟩ (.int .u8 ((held + a.n % 2 * 2 ^ bits : Nat) : Int))).cell? ⟨b12, 1, none⟩ = some (.int .u64 (a.n : Int)) := by rw [World.cell?_setCell_other _ _ _ _ (by intro h; simp only [Addr.mk.injEq] at h; have := HF.out; simp only [List.mem_cons, not_or] at this; exact this.2.2.1 h.1.symm)]; exact z1
        have y2 : (w6.drew.setCell ⟨qh, 0, none⟩ (.int .u8 ((held + a.n % 2 * 2 ^ bits : Nat) : Int))).cell? ⟨qb, 0, none⟩ = some (.int .i64 (bits : Int)) := ((HI6.out.keptI (Kept.refl [] w6).drew).st.setHeld _).1.cells.1
        have c2' : w6.drew.cell? ⟨qh, 0, none⟩ = some (.int .u8 (held : Int)) := c2
        have f2' : w6.drew.frozen? ⟨qh, 0, none⟩ = false := f2
        have HOB := Lib.hid hob'; clear hob'
        refine wp_region_noPanic ?_
        refine wp_region_held_drew (S := (fun w' : World => w'.cell? ⟨b12, 1, none⟩ = some (.int .u64 (a.n : Int)) ∧ w'.cell? ⟨qb, 0, none⟩ = some (.int .i64 (bits : Int)))) (by kernel_rfl) (by (try dsimp only); exact ⟨z1, c1⟩) (fun hHeld => ?_)
        refine wpAnyH_take (i := 1) (oi := { dst := some 57, op := Op.fieldAddr 77 (Operand.tmp 12) 1, type := 0, pos := "frame.go:194", after := #[], guard := none }) (v := ?_) rfl (by kernel_rfl) (by kernel_rfl) (by kernel_rfl) (fun _ _ _ h => h) (Or.inl ⟨by rfl, ?_⟩) (by assumption) ?_
        rotate_left
        · intro w hSw; (try dsimp only at hSw); go_simp; try with_reducible rfl
        try simp only [Act.put, List.setIfInBounds_toArray, List.set_cons_zero, List.set_cons_succ]
        refine wpAnyH_take (i := 2) (oi := { dst := some 58, op := Op.load 28 (Operand.tmp 57), type := 28, pos := "frame.go:194", after := #[{ on := 1, ground := Ground.data }], guard := none }) (v := ?_) rfl (by kernel_rfl) (by kernel_rfl) (by kernel_rfl) (fun _ _ _ h => h) (Or.inl ⟨by rfl, ?_⟩) (by assumption) ?_
        rotate_left
        · intro w hSw; (try dsimp only at hSw); go_simp; try with_reducible rfl
        try simp only [Act.put, List.setIfInBounds_toArray, List.set_cons_zero, List.set_cons_succ]
        refine wpAnyH_take (i := 3) (oi := { dst := some 59, op := Op.binOp BinOp.and 28 (Operand.tmp 58) (Operand.const (Value.int IntKind.u64 1)) 28, type := 28, pos := "frame.go:194", after := #[{ on := 2, ground := Ground.data }], guard := none }) (v := ?_) rfl (by kernel_rfl) (by kernel_rfl) (by kernel_rfl) (fun _ _ _ h => h) (Or.inl ⟨by rfl, ?_⟩) (by assumption) ?_
        rotate_left
        · intro w hSw; (try dsimp only at hSw); go_simp; try with_reducible rfl
        try simp only [Act.put, List.setIfInBounds_toArray, List.set_cons_zero, List.set_cons_succ]
        refine wpAnyH_take (i := 4) (oi := { dst := some 60, op := Op.convert 28 5 (Operand.tmp 59), type := 5, pos := "frame.go:194", after := #[{ on := 3, ground := Ground.data }], guard := none }) (v := ?_) rfl (by kernel_rfl) (by kernel_rfl) (by kernel_rfl) (fun _ _ _ h => h) (Or.inl ⟨by rfl, ?_⟩) (by assumption) ?_
        rotate_left
        · intro w hSw; (try dsimp only at hSw); go_simp; try with_reducible rfl
        try simp only [Act.put, List.setIfInBounds_toArray, List.set_cons_zero, List.set_cons_succ]
        refine wpAnyH_take (i := 5) (oi := { dst := some 61, op := Op.load 3 (Operand.tmp 7), type := 3, pos := "frame.go:194", after := #[], guard := none }) (v := ?_) rfl (by kernel_rfl) (by kernel_rfl) (by kernel_rfl) (fun _ _ _ h => h) (Or.inl ⟨by rfl, ?_⟩) (by assumption) ?_
        rotate_left
        · intro w hSw; (try dsimp only at hSw); go_simp; try with_reducible rfl
        try simp only [Act.put, List.setIfInBounds_toArray, List.set_cons_zero, List.set_cons_succ]
        refine wpAnyH_take (i := 6) (oi := { dst := some 62, op := Op.binOp BinOp.shl 5 (Operand.tmp 60) (Operand.tmp 61) 3, type := 5, pos := "frame.go:194", after := #[{ on := 4, ground := Ground.data }, { on := 5, ground := Ground.data }], guard := none }) (v := ?_) rfl (by kernel_rfl) (by kernel_rfl) (by kernel_rfl) (fun _ _ _ h => h) (Or.inl ⟨by rfl, ?_⟩) (by assumption) ?_
        rotate_left
        · intro w hSw; (try dsimp only at hSw); go_simp; try with_reducible rfl
        try simp only [Act.put, List.setIfInBounds_toArray, List.set_cons_zero, List.set_cons_succ]
        refine wpAnyH_ready (rs := [0]) (by kernel_rfl) (by simp) ?_
        refine AllReadyH.cons (o := { dst := some 56, op := Op.load 5 (Operand.tmp 8), type := 5, pos := "frame.go:194", after := #[], guard := none }) rfl (fun K hK => ?_) AllReadyH.nil
        go_simp
        refine hK.out _ _ (by (try dsimp only); exact ⟨z1, c1⟩) (fun hHeld => ?_)
        clear hK K
        try simp only [Act.put, List.setIfInBounds_toArray, List.set_cons_zero, List.set_cons_succ]
        refine wpAnyH_take (i := 7) (oi := { dst := some 63, op := Op.binOp BinOp.or 5 (Operand.tmp 56) (Operand.tmp 62) 5, type := 5, pos := "frame.go:194", after := #[{ on := 0, ground := Ground.data }, { on := 6, ground := Ground.data }], guard := none }) (v := ?_) rfl (by kernel_rfl) (by kernel_rfl) (by kernel_rfl) (fun _ _ _ h => h) (Or.inl ⟨by rfl, ?_⟩) (by assumption) ?_
        rotate_left
        · intro w hSw; (try dsimp only at hSw); go_simp; try with_reducible rfl
        try simp only [Act.put, List.setIfInBounds_toArray, List.set_cons_zero, List.set_cons_succ]
        refine wpAnyH_ready (rs := [8]) (by kernel_rfl) (by simp) ?_
        refine AllReadyH.cons (o := { dst := none, op := Op.store 5 (Operand.tmp 8) (Operand.tmp 63), type := 0, pos := "frame.go:194", after := #[{ on := 7, ground := Ground.data }, { on := 0, ground := Ground.phase }, { on := 1, ground := Ground.phase }, { on := 2, ground := Ground.phase }, { on := 3, ground := Ground.phase }, { on := 4, ground := Ground.phase }, { on := 5, ground := Ground.phase }, { on := 6, ground := Ground.phase }, { on := 7, ground := Ground.phase }], guard := none }) rfl (fun K hK => ?_) AllReadyH.nil
        go_simp
        rw [HV.out]
        refine hK.out _ _ (by (try dsimp only); exact ⟨y1, y2⟩) (fun hHeld => ?_)
        clear hK K
        try simp only [Act.put, List.setIfInBounds_toArray, List.set_cons_zero, List.set_cons_succ]
        refine wpAnyH_done (by kernel_rfl) ?_ _
        refine NoPanic.normal ?_
        obtain ⟨w8, hw8⟩ : ∃ w8, w8 = ((w6.setCell ⟨qh, 0, none⟩ (.int .u8 ((held + a.n % 2 * 2 ^ bits : Nat) : Int))).drew) := ⟨_, rfl⟩
        rw [← hw8]
        have hi8 : MbInv w M g q qb qh qw #[.int .i64 (c : Int), .int .i64 (m : Int), .slice (some ad) args.length ac] l w8 bs (pre ++ done) bits (held + a.n % 2 * 2 ^ bits) := by
          rw [hw8]
          have hd := HI6.out.keptI (Kept.refl [] w6).drew
          exact hd.adv (hd.st.setHeld _).1 (hd.st.setHeld _).2
        clear hw8
        obtain ⟨e1, e2, e3, e4, e5⟩ := hi8.st.cells
        have H8 := Lib.hid hi8; clear hi8
        have hwb1 : IntKind.i64.wrap ((bits : Int) + 1) = (bits : Int) + 1 := by rw [IntKind.wrap_i64]; omega
        go_wp2_with fail
        go_roundw
        case rel =>
          obtain ⟨s1, s2⟩ := H8.out.st.setBits (bits + 1)
          have he := HE.out.1
          rw [encM] at he
          rw [if_pos rfl] at he
          simp only [List.headD_cons, List.tail_cons] at he
          refine ⟨k + 1, (nx + 1), bits + 1, held + a.n % 2 * 2 ^ bits, bs, done, rfl, rfl, by omega, by omega, Lib.hid ⟨by have := HOB.out.1; omega, ?_, by have := HZ.out.2.2.2.2.1; omega, H8.out.adv s1 s2, he, HE.out.2.1, HOB.out.2⟩⟩
          have h2 := HZ.out.2.2.2.2.2
          rw [Nat.pow_succ]
          have h3 := Nat.mul_le_mul_right (2 ^ bits) (show a.n % 2 ≤ 1 by omega)
          omega
        case measure => simp [intOf]; omega
      · obtain ⟨a, ha, hda, hpa, hpg'⟩ := mb_arg (by decide) hpg
        rw [hda] at henc
        obtain ⟨ad, cs, rfl, hca, tv, rfl, hft⟩ := H.out.1 nx a ha
        have hnl : (nx : Int) < args.length := by have := (List.getElem?_eq_some_iff.1 ha).1; omega
        have hkz : Kept [] w (wr.alloc (.cells #[.int .i64 0, .int .u64 0, .string ⟨#[]⟩, .slice none 0 0] 77)) := HINV.out.kept.alloc _
        have hca' := (hca.kept hkz (by simp)).2
        have mmz : (wr.alloc (.cells #[.int .i64 0, .int .u64 0, .string ⟨#[]⟩, .slice none 0 0] 77)).cell? ⟨M, 2, none⟩ = some (.slice (some ad) args.length ac) := (HINV.out.bm.alloc _).cell 2
        have hft' := hft.kept HINV.out.kept (by simp)
        have hone : ∀ u ∈ [.int .i64 a.kind, .int .u64 (a.n : Int), .string (bstr a.text), tv], u.oneCell' = true := bears_arg.one (B := fun _ => True) (x := a) ⟨tv, rfl, hft.mono (fun _ _ _ => trivial)⟩
        have hwa := H.out.2.1 a (List.mem_of_getElem? ha)
        have HC := Lib.hid (And.intro hca' (And.intro hft' (And.intro hone (And.intro hwa hpa))))
        have HE := Lib.hid (And.intro henc (And.intro hpg' hob))
        clear ha hda hpa hpg hpg' henc hob hca hca' hkz hft hft' hone hwa
        go_upto_region 14 with (first | (refine wpList_load_cells rfl 77 (.tmp 46) rfl _ rfl [.int .i64 a.kind, .int .u64 (a.n : Int), .string (bstr a.text), tv] HC.out.1 _ Tryz.underlying77 rfl size_sArg ?_) | (refine wpList_store_row (P := Tryz.prog) rfl rfl 77 (.tmp 12) (.tmp 47) rfl wr.heap.size rfl 77 _ [.int .i64 a.kind, .int .u64 (a.n : Int), .string (bstr a.text), tv] (Blk.new wr _ _) rfl rfl HC.out.2.2.1 size_sArg ?_; intro w6 hb6 hk6; have hk6' := (((Kept.refl [] wr).alloc _).trans hk6 (S' := [wr.heap.size]) (fun x hx => .inr (by simp at hx; omega))); have HB6 := Lib.hid (And.intro hb6 hk6'); clear hb6 hk6 hk6'))
        have hi6 := HINV.out.keptI HB6.out.2
        obtain ⟨b12, hb12⟩ : ∃ b, b = wr.heap.size := ⟨_, rfl⟩
        rw [← hb12] at HB6 ⊢
        have hf12 : b12 ∉ q :: qb :: qh :: bs := HINV.out.fresh (by omega)
        have z1 : w6.cell? ⟨b12, 1, none⟩ = some (.int .u64 (a.n : Int)) := HB6.out.1.cell 1
        have z2 : w6.cell? ⟨b12, 2, none⟩ = some (.string (bstr a.text)) := HB6.out.1.cell 2
        obtain ⟨c1, c2, c3, f1, f2⟩ := hi6.st.cells
        have HI6 := Lib.hid hi6; have HF := Lib.hid hf12; clear hi6 hf12 hb12
        have hfl := flush_any q qb qh qw bits held bs (pre ++ done) w6 HI6.out.st HZ.out.1 HZ.out.2.1 HZ.out.2.2.1 (by have := HZ.out.2.2.2.1; omega)
        have HFL := Lib.hid hfl; clear hfl
        have hi6l : (pre ++ done).length ≤ 1000000 := HZ.out.2.2.2.1
        have hfll : (flushM bits held).length ≤ 1 := by unfold flushM; split <;> simp [Lib.beBytes_length]
        have hL7 : (pre ++ done ++ flushM bits held).length ≤ 1000001 := by rw [List.length_append]; omega
        have HL7 := Lib.hid (And.intro hi6l (And.intro hfll hL7)); clear hi6l hfll hL7
        go_upto_region 18 with (go_at_call 29; have hq := HFL.out; (with_reducible refine hq.mono ?_); clear hq; rintro e w7 ⟨rfl, bs7, hs7, ha7⟩; have hi7 := HI6.out.adv hs7 ha7; have hb7 := HB6.out.1.kept ha7.kept HF.out; have z7 : w7.cell? ⟨b12, 3, none⟩ = some tv := hb7.cell 3; obtain ⟨d1, d2, d3, g1, g2⟩ := hi7.st.cells; have hlL := HL7.out.2.2; have hcon := wtable_any a.tab (fun b => B b ∧ b < w.heap.size) tv none 6 q bs7 (pre ++ done ++ flushM bits held) w7 (((HC.out.2.1.kept HB6.out.2 (by simp)).kept ha7.kept (fun b hb hm => mb_out HINV.out hb.2 hm))) HC.out.2.2.2.1.2.1 HC.out.2.2.2.1.2.2.1 (mb_tab HC.out.2.2.2.2).1 (mb_tab HC.out.2.2.2.2).2 hi7.st.1 (fun b hb => mb_out2 hi7 hb.2) (by omega) (by omega); have H7 := Lib.hid (And.intro hi7 (And.intro ha7 hcon)); clear hi7 ha7 hs7 hb7 hlL hcon)
        go_wp2_with (go_at_call 32; have hq := H7.out.2.2; refine hq.mono ?_; clear hq; rintro e w8 ⟨rfl, bs8, hw8, ha8⟩; have hi8 := H7.out.1.adv (H7.out.1.st.adv hw8 ha8) (ha8.toM qb qh); have H8 := Lib.hid hi8; clear hi8 hw8 ha8)
        go_roundw
        case rel =>
          have he := HE.out.1
          rw [encM] at he
          simp only [List.headD_cons, List.tail_cons] at he
          rw [if_neg (by decide), if_neg (by decide), if_neg (by decide)] at he
          have hit : (itemM 116 a).length ≤ 18004 := mb_item HC.out.2.2.2.2 (by decide)
          refine ⟨k + 1, nx + 1, 0, 0, bs8, done ++ (flushM bits held ++ itemM 116 a), rfl, rfl, by omega, by omega, Lib.hid ⟨by omega, by simp, ?_, ?_, ?_, HE.out.2.1, ?_⟩⟩
          · simp only [List.length_append]; have := HL7.out.2.1; have := HZ.out.2.2.2.2.1; omega
          · have := H8.out; simpa [itemM, MArg.zero, List.append_assoc] using this
          · rw [he]; simp only [List.append_assoc]
          · have := HE.out.2.2; simpa [okBits] using this
        case measure => simp [intOf]; omega
      · have HE := Lib.hid (And.intro henc (And.intro hpg hob)); clear hpg henc hob
        go_upto_region 14 with fail
        obtain ⟨w6, hw6⟩ : ∃ w6, w6 = wr.alloc (.cells #[.int .i64 0, .int .u64 0, .string ⟨#[]⟩, .slice none 0 0] 77) := ⟨_, rfl⟩
        rw [← hw6]
        have HB6 : Hid (Blk w6 wr.heap.size #[.int .i64 0, .int .u64 0, .string ⟨#[]⟩, .slice none 0 0] 77 ∧ Kept [] wr w6) := Lib.hid ⟨by rw [hw6]; exact Blk.new wr _ _, by rw [hw6]; exact (Kept.refl [] wr).alloc _⟩
        clear hw6
        have hi6 := HINV.out.keptI HB6.out.2
        obtain ⟨b12, hb12⟩ : ∃ b, b = wr.heap.size := ⟨_, rfl⟩
        rw [← hb12] at HB6 ⊢
        have hf12 : b12 ∉ q :: qb :: qh :: bs := HINV.out.fresh (by omega)
        have z1 : w6.cell? ⟨b12, 1, none⟩ = some (.int .u64 0) := HB6.out.1.cell 1
        have z2 : w6.cell? ⟨b12, 2, none⟩ = some (.string ⟨#[]⟩) := HB6.out.1.cell 2
        obtain ⟨c1, c2, c3, f1, f2⟩ := hi6.st.cells
        have HI6 := Lib.hid hi6; have HF := Lib.hid hf12; clear hi6 hf12 hb12
        have hfl := flush_any q qb qh qw bits held bs (pre ++ done) w6 HI6.out.st HZ.out.1 HZ.out.2.1 HZ.out.2.2.1 (by have := HZ.out.2.2.2.1; omega)
        have HFL := Lib.hid hfl; clear hfl
        have hi6l : (pre ++ done).length ≤ 1000000 := HZ.out.2.2.2.1
        have hfll : (flushM bits held).length ≤ 1 := by unfold flushM; split <;> simp [Lib.beBytes_length]
        have hL7 : (pre ++ done ++ flushM bits held).length ≤ 1000001 := by rw [List.length_append]; omega
        have HL7 := Lib.hid (And.intro hi6l (And.intro hfll hL7)); clear hi6l hfll hL7
        go_upto_region 18 with (go_at_call 29; have hq := HFL.out; (with_reducible refine hq.mono ?_); clear hq; rintro e w7 ⟨rfl, bs7, hs7, ha7⟩; have hi7 := HI6.out.adv hs7 ha7; have hb7 := HB6.out.1.kept ha7.kept HF.out; have z7 : w7.cell? ⟨b12, 1, none⟩ = some (.int .u64 0) := hb7.cell 1; obtain ⟨d1, d2, d3, g1, g2⟩ := hi7.st.cells; have hlL := HL7.out.2.2; have hcon := put_any q 0 2 bs7 (pre ++ done ++ flushM bits held) w7 hi7.st.1 (by omega) (by omega) (by omega); have H7 := Lib.hid (And.intro hi7 (And.intro ha7 hcon)); clear hi7 ha7 hs7 hb7 hlL hcon)
        go_wp2_with (go_at_call 21; have hq := H7.out.2.2; refine hq.mono ?_; clear hq; rintro e w8 ⟨rfl, bs8, hw8, ha8⟩; have hi8 := H7.out.1.adv (H7.out.1.st.adv hw8 ha8) (ha8.toM qb qh); have H8 := Lib.hid hi8; clear hi8 hw8 ha8)
        go_roundw
        case rel =>
          have he := HE.out.1
          rw [encM] at he
          rw [if_neg (by decide), if_neg (by decide), if_pos (by decide)] at he
          have hit : (itemM 49 .zero).length ≤ 18004 := by decide
          refine ⟨k + 1, nx, 0, 0, bs8, done ++ (flushM bits held ++ itemM 49 .zero), rfl, rfl, by omega, by omega, Lib.hid ⟨by omega, by simp, ?_, ?_, ?_, proper_skip (by decide) HE.out.2.1, ?_⟩⟩
          · simp only [List.length_append]; have := HL7.out.2.1; have := HZ.out.2.2.2.2.1; omega
          · have := H8.out; simpa [itemM, MArg.zero, List.append_assoc] using this
          · rw [he]; simp only [List.append_assoc]
          · have := HE.out.2.2; simpa [okBits] using this
        case measure => simp [intOf]; omega
      · have HE := Lib.hid (And.intro henc (And.intro hpg hob)); clear hpg henc hob
        go_upto_region 14 with fail
        obtain ⟨w6, hw6⟩ : ∃ w6, w6 = wr.alloc (.cells #[.int .i64 0, .int .u64 0, .string ⟨#[]⟩, .slice none 0 0] 77) := ⟨_, rfl⟩
        rw [← hw6]
        have HB6 : Hid (Blk w6 wr.heap.size #[.int .i64 0, .int .u64 0, .string ⟨#[]⟩, .slice none 0 0] 77 ∧ Kept [] wr w6) := Lib.hid ⟨by rw [hw6]; exact Blk.new wr _ _, by rw [hw6]; exact (Kept.refl [] wr).alloc _⟩
        clear hw6
        have hi6 := HINV.out.keptI HB6.out.2
        obtain ⟨b12, hb12⟩ : ∃ b, b = wr.heap.size := ⟨_, rfl⟩
        rw [← hb12] at HB6 ⊢
        have hf12 : b12 ∉ q :: qb :: qh :: bs := HINV.out.fresh (by omega)
        have z1 : w6.cell? ⟨b12, 1, none⟩ = some (.int .u64 0) := HB6.out.1.cell 1
        have z2 : w6.cell? ⟨b12, 2, none⟩ = some (.string ⟨#[]⟩) := HB6.out.1.cell 2
        obtain ⟨c1, c2, c3, f1, f2⟩ := hi6.st.cells
        have HI6 := Lib.hid hi6; have HF := Lib.hid hf12; clear hi6 hf12 hb12
        have hfl := flush_any q qb qh qw bits held bs (pre ++ done) w6 HI6.out.st HZ.out.1 HZ.out.2.1 HZ.out.2.2.1 (by have := HZ.out.2.2.2.1; omega)
        have HFL := Lib.hid hfl; clear hfl
        have hi6l : (pre ++ done).length ≤ 1000000 := HZ.out.2.2.2.1
        have hfll : (flushM bits held).length ≤ 1 := by unfold flushM; split <;> simp [Lib.beBytes_length]
        have hL7 : (pre ++ done ++ flushM bits held).length ≤ 1000001 := by rw [List.length_append]; omega
        have HL7 := Lib.hid (And.intro hi6l (And.intro hfll hL7)); clear hi6l hfll hL7
        go_upto_region 18 with (go_at_call 29; have hq := HFL.out; (with_reducible refine hq.mono ?_); clear hq; rintro e w7 ⟨rfl, bs7, hs7, ha7⟩; have hi7 := HI6.out.adv hs7 ha7; have hb7 := HB6.out.1.kept ha7.kept HF.out; have z7 : w7.cell? ⟨b12, 2, none⟩ = some (.string ⟨#[]⟩) := hb7.cell 2; obtain ⟨d1, d2, d3, g1, g2⟩ := hi7.st.cells; have hlL := HL7.out.2.2; have hcon := short_any q [] bs7 (pre ++ done ++ flushM bits held) w7 hi7.st.1 (by first | omega | simp) (by omega); have H7 := Lib.hid (And.intro hi7 (And.intro ha7 hcon)); clear hi7 ha7 hs7 hb7 hlL hcon)
        go_wp2_with (go_at_call 30; have hq := H7.out.2.2; refine hq.mono ?_; clear hq; rintro e w8 ⟨rfl, bs8, hw8, ha8⟩; have hi8 := H7.out.1.adv (H7.out.1.st.adv hw8 ha8) (ha8.toM qb qh); have H8 := Lib.hid hi8; clear hi8 hw8 ha8)
        go_roundw
        case rel =>
          have he := HE.out.1
          rw [encM] at he
          rw [if_neg (by decide), if_neg (by decide), if_pos (by decide)] at he
          have hit : (itemM 50 .zero).length ≤ 18004 := by decide
          refine ⟨k + 1, nx, 0, 0, bs8, done ++ (flushM bits held ++ itemM 50 .zero), rfl, rfl, by omega, by omega, Lib.hid ⟨by omega, by simp, ?_, ?_, ?_, proper_skip (by decide) HE.out.2.1, ?_⟩⟩
          · simp only [List.length_append]; have := HL7.out.2.1; have := HZ.out.2.2.2.2.1; omega
          · have := H8.out; simpa [itemM, MArg.zero, List.append_assoc] using this
          · rw [he]; simp only [List.append_assoc]
          · have := HE.out.2.2; simpa [okBits] using this
        case measure => simp [intOf]; omega
      · have HE := Lib.hid (And.intro henc (And.intro hpg hob)); clear hpg henc hob
        go_upto_region 14 with fail
        obtain ⟨w6, hw6⟩ : ∃ w6, w6 = wr.alloc (.cells #[.int .i64 0, .int .u64 0, .string ⟨#[]⟩, .slice none 0 0] 77) := ⟨_, rfl⟩
        rw [← hw6]
        have HB6 : Hid (Blk w6 wr.heap.size #[.int .i64 0, .int .u64 0, .string ⟨#[]⟩, .slice none 0 0] 77 ∧ Kept [] wr w6) := Lib.hid ⟨by rw [hw6]; exact Blk.new wr _ _, by rw [hw6]; exact (Kept.refl [] wr).alloc _⟩
        clear hw6
        have hi6 := HINV.out.keptI HB6.out.2
        obtain ⟨b12, hb12⟩ : ∃ b, b = wr.heap.size := ⟨_, rfl⟩
        rw [← hb12] at HB6 ⊢
        have hf12 : b12 ∉ q :: qb :: qh :: bs := HINV.out.fresh (by omega)
        have z1 : w6.cell? ⟨b12, 1, none⟩ = some (.int .u64 0) := HB6.out.1.cell 1
        have z2 : w6.cell? ⟨b12, 2, none⟩ = some (.string ⟨#[]⟩) := HB6.out.1.cell 2
        obtain ⟨c1, c2, c3, f1, f2⟩ := hi6.st.cells
        have HI6 := Lib.hid hi6; have HF := Lib.hid hf12; clear hi6 hf12 hb12
        go_upto_region 15 with fail
        have hob' := HE.out.2.2
        simp only [okBits, true_or, or_true, if_true, Bool.and_eq_true, decide_eq_true_eq] at hob'
        have hval := bit_val held bits 0 HZ.out.2.2.2.2.2 hob'.1 (by omega); simp only [Nat.zero_mod, Nat.zero_mul, Nat.add_zero, Int.natCast_zero] at hval; have HV := Lib.hid hval; clear hval
        have hbi : (bits : Int) < 8 := by have := hob'.1; omega
        have hbi0 : ¬ (bits : Int) < 0 := by omega
        have y1 : (w6.drew.setCell ⟨qh, 0, none⟩ (.int .u8 ((held : Nat) : Int))).cell? ⟨b12, 1, none⟩ = some (.int .u64 0) := by rw [World.cell?_setCell_other _ _ _ _ (by intro h; simp only [Addr.mk.injEq] at h; have := HF.out; simp only [List.mem_cons, not_or] at this; exact this.2.2.1 h.1.symm)]; exact z1
        have y2 : (w6.drew.setCell ⟨qh, 0, none⟩ (.int .u8 ((held : Nat) : Int))).cell? ⟨qb, 0, none⟩ = some (.int .i64 (bits : Int)) := ((HI6.out.keptI (Kept.refl [] w6).drew).st.setHeld _).1.cells.1
        have c2' : w6.drew.cell? ⟨qh, 0, none⟩ = some (.int .u8 (held : Int)) := c2
        have f2' : w6.drew.frozen? ⟨qh, 0, none⟩ = false := f2
        have HOB := Lib.hid hob'; clear hob'
        refine wp_region_noPanic ?_
        refine wp_region_held_drew (S := (fun w' : World => w'.cell? ⟨b12, 1, none⟩ = some (.int .u64 0) ∧ w'.cell? ⟨qb, 0, none⟩ = some (.int .i64 (bits : Int)))) (by kernel_rfl) (by (try dsimp only); exact ⟨z1, c1⟩) (fun hHeld => ?_)
        refine wpAnyH_take (i := 1) (oi := { dst := some 57, op := Op.fieldAddr 77 (Operand.tmp 12) 1, type := 0, pos := "frame.go:194", after := #[], guard := none }) (v := ?_) rfl (by kernel_rfl) (by kernel_rfl) (by kernel_rfl) (fun _ _ _ h => h) (Or.inl ⟨by rfl, ?_⟩) (by assumption) ?_
        rotate_left
        · intro w hSw; (try dsimp only at hSw); go_simp; try with_reducible rfl
        try simp only [Act.put, List.setIfInBounds_toArray, List.set_cons_zero, List.set_cons_succ]
        refine wpAnyH_take (i := 2) (oi := { dst := some 58, op := Op.load 28 (Operand.tmp 57), type := 28, pos := "frame.go:194", after := #[{ on := 1, ground := Ground.data }], guard := none }) (v := ?_) rfl (by kernel_rfl) (by kernel_rfl) (by kernel_rfl) (fun _ _ _ h => h) (Or.inl ⟨by rfl, ?_⟩) (by assumption) ?_
        rotate_left
        · intro w hSw; (try dsimp only at hSw); go_simp; try with_reducible rfl
        try simp only [Act.put, List.setIfInBounds_toArray, List.set_cons_zero, List.set_cons_succ]
        refine wpAnyH_take (i := 3) (oi := { dst := some 59, op := Op.binOp BinOp.and 28 (Operand.tmp 58) (Operand.const (Value.int IntKind.u64 1)) 28, type := 28, pos := "frame.go:194", after := #[{ on := 2, ground := Ground.data }], guard := none }) (v := ?_) rfl (by kernel_rfl) (by kernel_rfl) (by kernel_rfl) (fun _ _ _ h => h) (Or.inl ⟨by rfl, ?_⟩) (by assumption) ?_
        rotate_left
        · intro w hSw; (try dsimp only at hSw); go_simp; try with_reducible rfl
        try simp only [Act.put, List.setIfInBounds_toArray, List.set_cons_zero, List.set_cons_succ]
        refine wpAnyH_take (i := 4) (oi := { dst := some 60, op := Op.convert 28 5 (Operand.tmp 59), type := 5, pos := "frame.go:194", after := #[{ on := 3, ground := Ground.data }], guard := none }) (v := ?_) rfl (by kernel_rfl) (by kernel_rfl) (by kernel_rfl) (fun _ _ _ h => h) (Or.inl ⟨by rfl, ?_⟩) (by assumption) ?_
        rotate_left
        · intro w hSw; (try dsimp only at hSw); go_simp; try with_reducible rfl
        try simp only [Act.put, List.setIfInBounds_toArray, List.set_cons_zero, List.set_cons_succ]
        refine wpAnyH_take (i := 5) (oi := { dst := some 61, op := Op.load 3 (Operand.tmp 7), type := 3, pos := "frame.go:194", after := #[], guard := none }) (v := ?_) rfl (by kernel_rfl) (by kernel_rfl) (by kernel_rfl) (fun _ _ _ h => h) (Or.inl ⟨by rfl, ?_⟩) (by assumption) ?_
        rotate_left
        · intro w hSw; (try dsimp only at hSw); go_simp; try with_reducible rfl
        try simp only [Act.put, List.setIfInBounds_toArray, List.set_cons_zero, List.set_cons_succ]
        refine wpAnyH_take (i := 6) (oi := { dst := some 62, op := Op.binOp BinOp.shl 5 (Operand.tmp 60) (Operand.tmp 61) 3, type := 5, pos := "frame.go:194", after := #[{ on := 4, ground := Ground.data }, { on := 5, ground := Ground.data }], guard := none }) (v := ?_) rfl (by kernel_rfl) (by kernel_rfl) (by kernel_rfl) (fun _ _ _ h => h) (Or.inl ⟨by rfl, ?_⟩) (by assumption) ?_
        rotate_left
        · intro w hSw; (try dsimp only at hSw); go_simp; try with_reducible rfl
        try simp only [Act.put, List.setIfInBounds_toArray, List.set_cons_zero, List.set_cons_succ]
        refine wpAnyH_ready (rs := [0]) (by kernel_rfl) (by simp) ?_
        refine AllReadyH.cons (o := { dst := some 56, op := Op.load 5 (Operand.tmp 8), type := 5, pos := "frame.go:194", after := #[], guard := none }) rfl (fun K hK => ?_) AllReadyH.nil
        go_simp
        refine hK.out _ _ (by (try dsimp only); exact ⟨z1, c1⟩) (fun hHeld => ?_)
        clear hK K
        try simp only [Act.put, List.setIfInBounds_toArray, List.set_cons_zero, List.set_cons_succ]
        refine wpAnyH_take (i := 7) (oi := { dst := some 63, op := Op.binOp BinOp.or 5 (Operand.tmp 56) (Operand.tmp 62) 5, type := 5, pos := "frame.go:194", after := #[{ on := 0, ground := Ground.data }, { on := 6, ground := Ground.data }], guard := none }) (v := ?_) rfl (by kernel_rfl) (by kernel_rfl) (by kernel_rfl) (fun _ _ _ h => h) (Or.inl ⟨by rfl, ?_⟩) (by assumption) ?_
        rotate_left
        · intro w hSw; (try dsimp only at hSw); go_simp; try with_reducible rfl
        try simp only [Act.put, List.setIfInBounds_toArray, List.set_cons_zero, List.set_cons_succ]
        refine wpAnyH_ready (rs := [8]) (by kernel_rfl) (by simp) ?_
        refine AllReadyH.cons (o := { dst := none, op := Op.store 5 (Operand.tmp 8) (Operand.tmp 63), type := 0, pos := "frame.go:194", after := #[{ on := 7, ground := Ground.data }, { on := 0, ground := Ground.phase }, { on := 1, ground := Ground.phase }, { on := 2, ground := Ground.phase }, { on := 3, ground := Ground.phase }, { on := 4, ground := Ground.phase }, { on := 5, ground := Ground.phase }, { on := 6, ground := Ground.phase }, { on := 7, ground := Ground.phase }], guard := none }) rfl (fun K hK => ?_) AllReadyH.nil
        go_simp
        rw [HV.out]
        refine hK.out _ _ (by (try dsimp only); exact ⟨y1, y2⟩) (fun hHeld => ?_)
        clear hK K
        try simp only [Act.put, List.setIfInBounds_toArray, List.set_cons_zero, List.set_cons_succ]
        refine wpAnyH_done (by kernel_rfl) ?_ _
        refine NoPanic.normal ?_
        obtain ⟨w8, hw8⟩ : ∃ w8, w8 = ((w6.setCell ⟨qh, 0, none⟩ (.int .u8 ((held : Nat) : Int))).drew) := ⟨_, rfl⟩
        rw [← hw8]
        have hi8 : MbInv w M g q qb qh qw #[.int .i64 (c : Int), .int .i64 (m : Int), .slice aa args.length ac] l w8 bs (pre ++ done) bits (held) := by
          rw [hw8]
          have hd := HI6.out.keptI (Kept.refl [] w6).drew
          exact hd.adv (hd.st.setHeld _).1 (hd.st.setHeld _).2
        clear hw8
        obtain ⟨e1, e2, e3, e4, e5⟩ := hi8.st.cells
        have H8 := Lib.hid hi8; clear hi8
        have hwb1 : IntKind.i64.wrap ((bits : Int) + 1) = (bits : Int) + 1 := by rw [IntKind.wrap_i64]; omega
        go_wp2_with fail
        go_roundw
        case rel =>
          obtain ⟨s1, s2⟩ := H8.out.st.setBits (bits + 1)
          have he := HE.out.1
          rw [encM] at he
          rw [if_neg (by decide), if_pos rfl] at he
          refine ⟨k + 1, nx, bits + 1, held, bs, done, rfl, rfl, by omega, by omega, Lib.hid ⟨by have := HOB.out.1; omega, ?_, by have := HZ.out.2.2.2.2.1; omega, H8.out.adv s1 s2, he, proper_skip (by decide) HE.out.2.1, HOB.out.2⟩⟩
          have h2 := HZ.out.2.2.2.2.2
          rw [Nat.pow_succ]; omega
        case measure => simp [intOf]; omega
      · have HE := Lib.hid (And.intro henc (And.intro hpg hob)); clear hpg henc hob
        go_upto_region 14 with fail
        obtain ⟨w6, hw6⟩ : ∃ w6, w6 = wr.alloc (.cells #[.int .i64 0, .int .u64 0, .string ⟨#[]⟩, .slice none 0 0] 77) := ⟨_, rfl⟩
        rw [← hw6]
        have HB6 : Hid (Blk w6 wr.heap.size #[.int .i64 0, .int .u64 0, .string ⟨#[]⟩, .slice none 0 0] 77 ∧ Kept [] wr w6) := Lib.hid ⟨by rw [hw6]; exact Blk.new wr _ _, by rw [hw6]; exact (Kept.refl [] wr).alloc _⟩
        clear hw6
        have hi6 := HINV.out.keptI HB6.out.2
        obtain ⟨b12, hb12⟩ : ∃ b, b = wr.heap.size := ⟨_, rfl⟩
        rw [← hb12] at HB6 ⊢
        have hf12 : b12 ∉ q :: qb :: qh :: bs := HINV.out.fresh (by omega)
        have z1 : w6.cell? ⟨b12, 1, none⟩ = some (.int .u64 0) := HB6.out.1.cell 1
        have z2 : w6.cell? ⟨b12, 2, none⟩ = some (.string ⟨#[]⟩) := HB6.out.1.cell 2
        obtain ⟨c1, c2, c3, f1, f2⟩ := hi6.st.cells
        have HI6 := Lib.hid hi6; have HF := Lib.hid hf12; clear hi6 hf12 hb12
        have hfl := flush_any q qb qh qw bits held bs (pre ++ done) w6 HI6.out.st HZ.out.1 HZ.out.2.1 HZ.out.2.2.1 (by have := HZ.out.2.2.2.1; omega)
        have HFL := Lib.hid hfl; clear hfl
        have hi6l : (pre ++ done).length ≤ 1000000 := HZ.out.2.2.2.1
        have hfll : (flushM bits held).length ≤ 1 := by unfold flushM; split <;> simp [Lib.beBytes_length]
        have hL7 : (pre ++ done ++ flushM bits held).length ≤ 1000001 := by rw [List.length_append]; omega
        have HL7 := Lib.hid (And.intro hi6l (And.intro hfll hL7)); clear hi6l hfll hL7
        go_upto_region 18 with (go_at_call 29; have hq := HFL.out; (with_reducible refine hq.mono ?_); clear hq; rintro e w7 ⟨rfl, bs7, hs7, ha7⟩; have hi7 := HI6.out.adv hs7 ha7; have hb7 := HB6.out.1.kept ha7.kept HF.out; have z7 : w7.cell? ⟨b12, 2, none⟩ = some (.string ⟨#[]⟩) := hb7.cell 2; obtain ⟨d1, d2, d3, g1, g2⟩ := hi7.st.cells; have hlL := HL7.out.2.2; have hcon := long_any q [] bs7 (pre ++ done ++ flushM bits held) w7 hi7.st.1 (by first | omega | simp) (by omega); have H7 := Lib.hid (And.intro hi7 (And.intro ha7 hcon)); clear hi7 ha7 hs7 hb7 hlL hcon)
        go_wp2_with (go_at_call 31; have hq := H7.out.2.2; refine hq.mono ?_; clear hq; rintro e w8 ⟨rfl, bs8, hw8, ha8⟩; have hi8 := H7.out.1.adv (H7.out.1.st.adv hw8 ha8) (ha8.toM qb qh); have H8 := Lib.hid hi8; clear hi8 hw8 ha8)
        go_roundw
        case rel =>
          have he := HE.out.1
          rw [encM] at he
          rw [if_neg (by decide), if_neg (by decide), if_pos (by decide)] at he
          have hit : (itemM 52 .zero).length ≤ 18004 := by decide
          refine ⟨k + 1, nx, 0, 0, bs8, done ++ (flushM bits held ++ itemM 52 .zero), rfl, rfl, by omega, by omega, Lib.hid ⟨by omega, by simp, ?_, ?_, ?_, proper_skip (by decide) HE.out.2.1, ?_⟩⟩
          · simp only [List.length_append]; have := HL7.out.2.1; have := HZ.out.2.2.2.2.1; omega
          · have := H8.out; simpa [itemM, MArg.zero, List.append_assoc] using this
          · rw [he]; simp only [List.append_assoc]
          · have := HE.out.2.2; simpa [okBits] using this
        case measure => simp [intOf]; omega
    · have hkm : k = l.length := by omega
      subst hkm
      rw [List.drop_length] at henc
      have hfl := flush_any q qb qh qw bits held bs (pre ++ done) wr hinv.st HZ.out.1 HZ.out.2.1 HZ.out.2.2.1 (by have := HZ.out.2.2.2.1; omega)
      have HFL := Lib.hid hfl; have HINV := Lib.hid hinv; have HE := Lib.hid henc; clear hfl hinv henc hpg hob
      go_upto_region 38 with (go_at_call 29; have hq := HFL.out; (with_reducible refine hq.mono ?_); clear hq; rintro e w7 ⟨rfl, bs7, hs7, ha7⟩; have hi7 := HINV.out.adv hs7 ha7; have H7 := Lib.hid hi7; clear hi7 ha7 hs7)
      obtain ⟨d1, d2, d3, g1, g2⟩ := H7.out.st.cells
      have hfin : pre ++ done ++ flushM bits held = methodB c m l args := by
        rw [HPre.out, methodB, HE.out]
        simp [encM]
      have hw7 := H7.out.st.1
      have hown7 := H7.out.own
      rw [hfin] at hw7
      obtain ⟨v, p1, p2, p3, p4⟩ := hw7
      obtain ⟨g7, c7, rfl, hc7, ho7⟩ := own_form p2 (by simp [methodB, Lib.beBytes_length]; omega)
      have c0 := p1.cell0
      have hg7 : w.heap.size ≤ g7 := (hown7 g7 (by rw [p3, ho7]; simp)).1
      have H8 := Lib.hid (And.intro p2 (And.intro hg7 H7.out.kept)); clear p1 p2 p3 p4 hg7 hown7 ho7 hfin
      go_wp2_with fail
      go_ret
      exact ⟨_, g7, rfl, ⟨c7, rfl, H8.out.1⟩, H8.out.2.1, H8.out.2.2⟩
end Go.Proofs.YtkcdakohmfodjaaGreat
