/-
  The reference's FrameBytes: a frame's bytes in a row of their own.
-/
import Derived.Test.YtkcdakohmfodjaaGreatPut
import Derived.Lib.Hide
namespace Go.Proofs.YtkcdakohmfodjaaGreat
open Go.RowKit
set_option linter.unusedVariables false
set_option linter.unusedSimpArgs false

def frameB (kind channel : Nat) (l : List UInt8) : List UInt8 := Lib.beBytes 1 kind ++ Lib.beBytes 2 channel ++ Lib.beBytes 4 l.length ++ l ++ [206]

theorem frameB_length (kind channel : Nat) (l : List UInt8) : (frameB kind channel l).length = l.length + 8 := by
  simp [frameB, Lib.beBytes_length]; omega

/-- s is a slice with the bytes l in block d; or it is empty, wherever it lies. -/
def Src (w : World) (s : Value) (d : Nat) (l : List UInt8) : Prop :=
  (l = [] ∧ ∃ (ao : Option Addr) (c : Nat), s = .slice ao 0 c) ∨ ∃ ad c, ad.block = d ∧ s = .slice (some ad) l.length c ∧ ∀ j v, (u8s l)[j]? = some v → w.cell? (ad.add j) = some v

/-- The bytes l in a row of their own, as a slice. -/
def Row (w : World) (s : Value) (g : Nat) (l : List UInt8) : Prop :=
  ∃ c, s = .slice (some ⟨g, 0, none⟩) l.length c ∧ w.ownsRow 0 5 1 s l.length (u8s l)

theorem Row.kept {S : List Nat} {w w' : World} {s : Value} {g : Nat} {l : List UInt8} (h : Row w s g l) (hk : Kept S w w') (hg : g ∉ S) : Row w' s g l := by
  obtain ⟨c, rfl, h2⟩ := h
  exact ⟨c, rfl, ownsRow_kept h2 hk (fun b hb => by simp [Value.ownBlock] at hb; subst hb; exact hg)⟩

theorem addr_block (a : Addr) (j : Nat) : (a.add j).block = a.block := by unfold Addr.add; split <;> rfl

theorem Src.kept {S : List Nat} {w w' : World} {s : Value} {d : Nat} {l : List UInt8} (h : Src w s d l) (hk : Kept S w w') (hd : d ∉ S) : Src w' s d l := by
  rcases h with h | ⟨ad, c, rfl, rfl, h2⟩
  · exact .inl h
  · exact .inr ⟨ad, c, rfl, rfl, fun j v hj => hk.cell (h2 j v hj) (by rw [addr_block]; exact hd)⟩

/-- An append of bytes that may be none, onto a row of the program's own. -/
theorem wpList_append_src {w : World} {ops : Array Oper} {rest : List Oper} {o : Oper} {a : Act} {Q : Exit → Act → World → Prop} (hgd : o.guard = none) (s x : Operand) (t t' : TypeId)
    (ho : o.op = .call { callee := .builtin .append, args := #[s, x], argTypes := #[t, t'] }) (ht : Tryz.prog.underlying t = some (.slice 5)) (ht' : Tryz.prog.underlying t' = some (.slice 5))
    (v sv : Value) (l m : List UInt8) (n k : Nat) (hln : l.length = n) (hmk : m.length = k) (g0 c0 : Nat) (hv : v = .slice (some ⟨g0, 0, none⟩) n c0) (hs : a.eval s = v) (hx : a.eval x = sv) (hown : w.ownsRow 0 5 1 v n (u8s l)) (d : Nat) (hsrc : Src w sv d m) (hlen : n + k ≤ 140737488355328)
    (h : ∀ g c w', w'.ownsRow 0 5 1 (.slice (some ⟨g, 0, none⟩) (n + k) c) (n + k) (u8s (l ++ m)) → n + k ≤ c → Kept [g0] w w' → (g = g0 ∨ g = w.heap.size) →
      wpList Tryz.prog ops Q rest (a.put o.dst (.slice (some ⟨g, 0, none⟩) (n + k) c)) w') : wpList Tryz.prog ops Q (o :: rest) a w := by
  obtain ⟨i, hi, hz0, hz1, hz2⟩ := info_parts infoPut
  subst hln hmk hv
  have hcap : l.length ≤ c0 := by
    rcases hown.2 with ⟨h, _⟩ | ⟨g, cap, cur, h, _, _, hc, _⟩
    · cases h
    · cases h; exact hc
  rcases hsrc with ⟨rfl, ao, c, rfl⟩ | ⟨ad, c, _, rfl, hcell⟩
  · refine wpList_append_zero w hgd s x t t' ho 5 5 ht' i ht hi (some ⟨g0, 0, none⟩) l.length c0 hs hcap ao c hx ?_
    have := h g0 c0 w (by simpa using hown) (by simpa using hcap) (Kept.refl _ w) (.inl rfl)
    simpa using this
  · refine wpList_append2 w hgd s x t t' ho 5 5 ht' i (.int .u8 0) 1 1 ht hi hz0 hz1 hz2 rfl (by decide) _ _ _ hs hown ad m.length c (u8s m) hx (by simp) hcell (u8s_one m) (by omega) hlen ?_
    intro v' w' h1 h2 h3
    have hown' := h1
    rcases h1.2 with ⟨hv, hn⟩ | ⟨g, cap, cur, hv, _, _, hc, _⟩
    · have hm : m = [] := List.eq_nil_of_length_eq_zero (by omega)
      have hl : l = [] := List.eq_nil_of_length_eq_zero (by omega)
      subst hm hl
      subst hv
      rcases h3 with h3 | h3 <;> simp [Value.ownBlock] at h3
    · subst hv
      rw [u8s_append] at h
      refine h g cap w' hown' hc ((Kept.refl _ w).grown h2 (fun k hk => .inl (by simp [Value.ownBlock] at hk; simp [hk]))) ?_
      rcases h3 with h3 | h3
      · exact .inl (by simpa [Value.ownBlock] using h3)
      · exact .inr (by simpa [Value.ownBlock] using h3)

/-- An append of bytes onto a row of the program's own, which may be none yet. -/
theorem wpList_append_bytes {w : World} {ops : Array Oper} {rest : List Oper} {o : Oper} {a : Act} {Q : Exit → Act → World → Prop} (hgd : o.guard = none) (s x : Operand) (t t' : TypeId)
    (ho : o.op = .call { callee := .builtin .append, args := #[s, x], argTypes := #[t, t'] }) (ht : Tryz.prog.underlying t = some (.slice 5)) (ht' : Tryz.prog.underlying t' = some (.slice 5))
    (v sv : Value) (l m : List UInt8) (n k : Nat) (hln : l.length = n) (hmk : m.length = k) (hs : a.eval s = v) (hx : a.eval x = sv) (hown : w.ownsRow 0 5 1 v n (u8s l)) (d : Nat) (hsrc : Src w sv d m) (hlen : n + k ≤ 140737488355328)
    (h : ∀ ao c w', w'.ownsRow 0 5 1 (.slice ao (n + k) c) (n + k) (u8s (l ++ m)) → Kept v.ownBlock.toList w w' → ((Value.slice ao (n + k) c).ownBlock = v.ownBlock ∨ (Value.slice ao (n + k) c).ownBlock = some w.heap.size) →
      wpList Tryz.prog ops Q rest (a.put o.dst (.slice ao (n + k) c)) w') : wpList Tryz.prog ops Q (o :: rest) a w := by
  obtain ⟨i, hi, hz0, hz1, hz2⟩ := info_parts infoPut
  rcases hown.2 with ⟨hv, hn0⟩ | ⟨g, cap, cur, hv, _, _, hc, _⟩
  · subst hv
    have hl0 : l = [] := List.eq_nil_of_length_eq_zero (by omega)
    subst hl0
    subst hln hmk
    rcases hsrc with ⟨rfl, ao, c, rfl⟩ | ⟨ad, c, _, rfl, hcell⟩
    · refine wpList_append_zero w hgd s x t t' ho 5 5 ht' i ht hi none 0 0 hs (Nat.le_refl _) ao c hx ?_
      exact h none 0 w (World.ownsRow_nil _ _ _ _) (Kept.refl _ w) (.inl rfl)
    · refine wpList_append2 w hgd s x t t' ho 5 5 ht' i (.int .u8 0) 1 1 ht hi hz0 hz1 hz2 rfl (by decide) _ _ _ hs hown ad m.length c (u8s m) hx (by simp) hcell (u8s_one m) (by simpa using hlen) (by simpa using hlen) ?_
      intro v' w' h1 h2 h3
      have hform : ∃ ao c, v' = .slice ao (0 + m.length) c := by
        rcases h1.2 with ⟨hv, hn⟩ | ⟨g, cap, cur, hv, _⟩
        · simp only [List.length_nil] at hn; rw [hn]; exact ⟨none, 0, hv⟩
        · exact ⟨_, _, hv⟩
      obtain ⟨ao, c', rfl⟩ := hform
      exact h ao c' w' h1 ((Kept.refl _ w).grown h2 (by simp [Value.ownBlock])) h3
  · subst hv
    refine wpList_append_src hgd s x t t' ho ht ht' _ sv l m n k hln hmk g cap rfl hs hx hown d hsrc hlen ?_
    intro g' c w' h1 _ h3 h4
    refine h (some ⟨g', 0, none⟩) c w' h1 (by simpa [Value.ownBlock] using h3) ?_
    rcases h4 with h4 | h4
    · exact .inl (by simp [Value.ownBlock, h4])
    · exact .inr (by simp [Value.ownBlock, h4])

theorem wrap_u64 (n : Nat) (h : n < 18446744073709551616) : IntKind.u64.wrap (n : Int) = n := by rw [IntKind.wrap_u64]; omega

set_option maxHeartbeats 1000000 in
set_option maxRecDepth 100000 in
theorem frameBytes_any (kind channel : Nat) (s : Value) (l : List UInt8) (w : World) (hk : kind ≤ 255) (hch : channel ≤ 65535) (d : Nat) (hs : Src w s d l) (hl : l.length ≤ 1000000) (hsl : ∃ ao c, s = .slice ao l.length c) :
    Calls Tryz.prog 8 #[.int .i64 (kind : Int), .int .i64 (channel : Int), s] w fun e w' => ∃ v g, e = .returned v ∧ Row w' v g (frameB kind channel l) ∧ w.heap.size ≤ g ∧ Kept [] w w' := by
  have e1 := wrap_u64 kind (by omega)
  have e2 := wrap_u64 channel (by omega)
  have e3 := wrap_u64 l.length (by omega)
  obtain ⟨ao, c, rfl⟩ := hsl
  have HS := Lib.hid hs; have HL := Lib.hid (And.intro hk (And.intro hch hl))
  clear hs hk hch hl
  obtain ⟨wa, hwa⟩ : ∃ wa, wa = (w.alloc (.cells #[] 5)).alloc (.cells #[.slice (some ⟨w.heap.size, 0, none⟩) 0 0] 61) := ⟨_, rfl⟩
  have hka : Kept [] w wa := by subst hwa; exact ((Kept.refl [] w).alloc _).alloc _
  have hwr : Wr 61 wa (w.heap.size + 1) [w.heap.size] [] := by
    subst hwa
    refine ⟨.slice (some ⟨w.heap.size, 0, none⟩) 0 0, Blk.new_at (by simp), ⟨rfl, .inr ⟨w.heap.size, 0, #[], rfl, Nat.zero_le _, ?_, Nat.le_refl _, by unfold maxLen; omega, rfl, rfl⟩⟩, rfl, by simp⟩
    exact (Blk.new w #[] 5).alloc _
  have HA := Lib.hid (And.intro hka (And.intro hwr hwa)); clear hka hwr hwa
  go_enter Tryz.func8, Tryz.ntmps8
  go_wp2_with fail
  rw [← HA.out.2.2]
  refine (put_any (w.heap.size + 1) kind 1 _ _ wa HA.out.2.1 (by have := HL.out.1; omega) (by omega) (by simp)).mono ?_
  rintro e w1 ⟨rfl, bs1, hw1, ha1⟩
  have H1 := Lib.hid (And.intro hw1 ha1); clear hw1 ha1
  go_wp2_with fail
  refine (put_any (w.heap.size + 1) channel 2 _ _ w1 H1.out.1 (by have := HL.out.2.1; omega) (by omega) (by simp [Lib.beBytes_length])).mono ?_
  rintro e w2 ⟨rfl, bs2, hw2, ha2⟩
  have H2 := Lib.hid (And.intro hw2 (H1.out.2.trans ha2)); clear hw2 ha2
  go_wp2_with fail
  refine (put_any (w.heap.size + 1) l.length 4 _ _ w2 H2.out.1 (by have := HL.out.2.2; omega) (by omega) (by simp [Lib.beBytes_length])).mono ?_
  rintro e w3 ⟨rfl, bs3, hw3, ha3⟩
  have ha := H2.out.2.trans ha3
  have hk3 : Kept [] w w3 := HA.out.1.trans ha.kept (by simp)
  have hs3 := HS.out.kept hk3 (by simp)
  obtain ⟨v3, p1, p2, p3, p4⟩ := hw3
  obtain ⟨g3, c3, rfl, hc3, ho3⟩ := own_form p2 (by simp [Lib.beBytes_length])
  have c0 := p1.cell0
  have hn3 : w.heap.size ≤ g3 := by
    rcases ha.own g3 (by rw [p3, ho3]; simp) with h | h
    · simp at h; omega
    · exact Nat.le_trans HA.out.1.size h
  have hg3 : g3 ≠ w.heap.size + 1 := fun e => p4 (by rw [p3, ho3, e]; simp)
  obtain ⟨h7, hh, hl7⟩ : ∃ h7 : List UInt8, h7 = [] ++ Lib.beBytes 1 kind ++ Lib.beBytes 2 channel ++ Lib.beBytes 4 l.length ∧ h7.length = 7 := ⟨_, rfl, by simp [Lib.beBytes_length]⟩
  rw [← hh] at c0 p2
  rw [hl7] at c0 p2
  have H3 := Lib.hid (And.intro p2 (And.intro hk3 (And.intro hs3 (And.intro hn3 hg3)))); clear p1 p2 p3 p4 hs3 hk3 ha ha3 hn3 ho3 hg3
  have HH := Lib.hid hh; have HL7 := Lib.hid hl7; clear hh hl7
  have hb7 : 7 + l.length ≤ 140737488355328 := by have := HL.out.2.2; omega
  have hb8 : 7 + l.length + 1 ≤ 140737488355328 := by have := HL.out.2.2; omega
  go_wp2_with (refine wpList_append_src rfl (.tmp 25) (.tmp 26) 61 22 rfl Tryz.underlying61 Tryz.underlying22 _ _ h7 l 7 l.length HL7.out rfl g3 c3 rfl rfl rfl H3.out.1 d H3.out.2.2.1 hb7 ?_)
  intro g4 c4 w4 k1 k2 k3 k4
  have hk4 : Kept [] w w4 := H3.out.2.1.trans k3 (by simp; exact H3.out.2.2.2.1)
  have hn4 : w.heap.size ≤ g4 := by
    rcases k4 with h | h
    · rw [h]; exact H3.out.2.2.2.1
    · rw [h]; exact H3.out.2.1.size
  have hka : Kept [] w4 (w4.alloc (.cells #[.int .u8 206] 5)) := (Kept.refl [] w4).alloc _
  have k5 := ownsRow_kept k1 hka (by simp)
  have hsrc : Src (w4.alloc (.cells #[.int .u8 206] 5)) (.slice (some ⟨w4.heap.size, 0, none⟩) 1 1) w4.heap.size [206] := .inr ⟨⟨w4.heap.size, 0, none⟩, 1, rfl, rfl, cell_one_new _ _ _⟩
  have H4 := Lib.hid (And.intro k5 (And.intro (hk4.trans hka (by simp)) (And.intro hn4 (And.intro hsrc hk4.size)))); clear k1 k2 k3 k4 k5 hk4 hn4 hka hsrc
  go_wp2_with (refine wpList_append_src rfl (.tmp 27) (.tmp 28) 61 61 rfl Tryz.underlying61 Tryz.underlying61 _ _ (h7 ++ l) [206] (7 + l.length) 1 (by rw [List.length_append, HL7.out]) rfl g4 c4 rfl rfl rfl H4.out.1 w4.heap.size H4.out.2.2.2.1 hb8 ?_)
  intro g5 c5 w5 k1 k2 k3 k4
  have hk5 : Kept [] w w5 := H4.out.2.1.trans k3 (by simp; exact H4.out.2.2.1)
  have hn5 : w.heap.size ≤ g5 := by
    rcases k4 with h | h
    · rw [h]; exact H4.out.2.2.1
    · rw [h]; have := H4.out.2.2.2.2; omega
  have H5 := Lib.hid (And.intro k1 (And.intro hk5 hn5)); clear k1 k2 k3 k4 hk5 hn5
  go_wp2
  go_ret
  have hfin : h7 ++ (l ++ [206]) = frameB kind channel l := by rw [HH.out]; simp [frameB]
  have hle : 7 + l.length + 1 = (frameB kind channel l).length := by rw [frameB_length]; omega
  have hown := H5.out.1
  rw [hfin, hle] at hown
  have hrow : Row w5 (.slice (some ⟨g5, 0, none⟩) (7 + l.length + 1) c5) g5 (frameB kind channel l) := ⟨c5, congrArg (fun n => Value.slice (some ⟨g5, 0, none⟩) n c5) hle, by rw [hle]; exact hown⟩
  exact ⟨_, g5, rfl, hrow, H5.out.2.2, H5.out.2.1⟩

end Go.Proofs.YtkcdakohmfodjaaGreat
