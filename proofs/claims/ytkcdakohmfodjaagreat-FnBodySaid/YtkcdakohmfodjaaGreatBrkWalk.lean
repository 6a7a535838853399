/-
  FnBroken, walked.
-/
import Derived.Test.YtkcdakohmfodjaaGreatBadLaw
import Derived.Test.YtkcdakohmfodjaaGreatFmt
import Derived.Deep.Cut
namespace Go.Proofs.YtkcdakohmfodjaaGreat
open Go.RowKit
set_option linter.unusedVariables false
set_option linter.unusedSimpArgs false

theorem Row.bytes {w : World} {s : Value} {g : Nat} {l : List UInt8} (h : Row w s g l) (n : Nat) (hn : n ≤ l.length) (c : Nat) (hc : n ≤ c) (hcm : c ≤ 9223372036854775807) : BytesAt w (.slice (some ⟨g, 0, none⟩) n c) g (l.take n) := by
  obtain ⟨c0, rfl, h1, h2⟩ := h
  rcases h2 with ⟨h, _⟩ | ⟨g', cap, cur, h, _, hg, _, _, hs, ht⟩
  · cases h
  · cases h
    refine ⟨0, c, by rw [List.length_take, Nat.min_eq_left hn], by rw [List.length_take]; omega, hcm, fun j v hj => ?_⟩
    have hb : Blk w g cur 5 := hg
    rw [Nat.zero_add, hb.cell j]
    have hj2 : (u8s l)[j]? = some v := by
      rw [u8s_get] at hj ⊢
      rw [List.getElem?_take] at hj
      split at hj
      · exact hj
      · simp at hj
    rw [← ht, Nat.mul_one, List.getElem?_take] at hj2
    split at hj2
    · simpa using hj2
    · simp at hj2

theorem Row.cap {w : World} {g n c : Nat} {l : List UInt8} (h : Row w (.slice (some ⟨g, 0, none⟩) n c) g l) (hn : l.length = n) : n ≤ c ∧ c ≤ 9223372036854775807 := by
  obtain ⟨c0, h0, h1, h2⟩ := h
  rcases h2 with ⟨h, _⟩ | ⟨g', cap, cur, h, _, hg, hc, hm, _⟩
  · cases h
  · cases h; unfold maxLen at hm; exact ⟨by omega, by omega⟩

/-- The law's own variable of a frame: a new block with the answer's forty cells. -/
theorem frame_alloc (w : World) : (Instr.alloc 35 true (.tuple #[])).run Tryz.prog w = .ok (.pointer (some ⟨w.heap.size, 0, none⟩)) (w.alloc (.cells frame0.toArray 35)) := alloc_frame w

theorem Kept.stored {a w2 w3 : World} {o : Obj} (h : Kept [] a w2) (g2 : Kept [w2.heap.size] (w2.alloc o) w3) : Kept [] a w3 :=
  Kept.trans (S := []) (S' := [w2.heap.size]) (h.alloc o) g2 (fun x hx => .inr (by have := h.size; simp at hx; omega))

theorem Row.cells {w : World} {s : Value} {g : Nat} {l : List UInt8} (h : Row w s g l) (j : Nat) (v : Value) (hj : (u8s l)[j]? = some v) : w.cell? ⟨g, j, none⟩ = some v := by
  obtain ⟨c0, rfl, h1, h2⟩ := h
  rcases h2 with ⟨h, _⟩ | ⟨g', cap, cur, h, _, hg, _, _, hs, ht⟩
  · cases h
  · cases h
    have hb : Blk w g cur 5 := hg
    rw [hb.cell j]
    rw [← ht, Nat.mul_one, List.getElem?_take] at hj
    split at hj
    · simpa using hj
    · simp at hj

theorem Row.src {w : World} {s : Value} {g : Nat} {l : List UInt8} (h : Row w s g l) (n : Nat) (hn : n ≤ l.length) (c : Nat) : Src w (.slice (some ⟨g, 0, none⟩) n c) g (l.take n) := by
  refine .inr ⟨⟨g, 0, none⟩, c, rfl, by rw [List.length_take, Nat.min_eq_left hn], fun j v hj => ?_⟩
  rw [addr_add, Nat.zero_add]
  refine h.cells j v ?_
  rw [u8s_get] at hj ⊢
  rw [List.getElem?_take] at hj
  split at hj
  · exact hj
  · simp at hj

theorem Row.all {w : World} {s : Value} {g : Nat} {l : List UInt8} (h : Row w s g l) : BytesAt w s g l := by
  obtain ⟨c, rfl, h1⟩ := id h
  have hc := h.cap rfl
  exact ⟨0, c, rfl, hc.1, hc.2, fun j v hj => by rw [Nat.zero_add]; exact h.cells j v hj⟩

theorem Row.own {w : World} {g n c : Nat} {l : List UInt8} (h : Row w (.slice (some ⟨g, 0, none⟩) n c) g l) (hn : l.length = n) : w.ownsRow 0 5 1 (.slice (some ⟨g, 0, none⟩) n c) n (u8s l) := by
  subst hn; obtain ⟨c0, h0, h1⟩ := h; exact h1

theorem Row.blk {w : World} {s : Value} {g : Nat} {l : List UInt8} (h : Row w s g l) : ∃ cur, Blk w g cur 5 := by
  obtain ⟨c0, rfl, h1, h2⟩ := h
  rcases h2 with ⟨h, _⟩ | ⟨g', cap, cur, h, _, hg, _⟩
  · cases h
  · cases h; exact ⟨cur, hg⟩

theorem Row.free {w : World} {s : Value} {g : Nat} {l : List UInt8} (h : Row w s g l) : w.frozen? ⟨g, 0, none⟩ = false := by
  obtain ⟨cur, h⟩ := h.blk; exact h.free 0

theorem Row.set0 {w : World} {s : Value} {g : Nat} {l : List UInt8} (h : Row w s g l) (k : UInt8) : BytesAt (w.setCell ⟨g, 0, none⟩ (.int .u8 (k.toNat : Int))) s g (l.set 0 k) := by
  obtain ⟨cur, hb⟩ := h.blk
  have hb2 := hb.setCell 0 (.int .u8 (k.toNat : Int))
  obtain ⟨off, c, rfl, h1, h2, h3⟩ := h.all
  have : off = 0 := by obtain ⟨c0, h0, _⟩ := h; cases h0; rfl
  subst this
  refine ⟨0, c, by rw [List.length_set], by rw [List.length_set]; exact h1, h2, fun j v hj => ?_⟩
  rw [Nat.zero_add, hb2.cell j]
  by_cases hj0 : j = 0
  · subst hj0
    rw [u8s_get] at hj
    cases hl : l with
    | nil => rw [hl] at hj; simp at hj
    | cons a l' =>
      rw [hl] at hj
      have hc := h.cells 0 (.int .u8 (a.toNat : Int)) (by rw [hl, u8s_get]; simp)
      rw [hb.cell 0] at hc
      have hlt : 0 < cur.size := by
        rcases Nat.lt_or_ge 0 cur.size with h | h
        · exact h
        · rw [Array.getElem?_eq_none h] at hc; cases hc
      simp at hj
      simp [Array.getElem?_setIfInBounds, hlt, hj]
  · have hj2 : (u8s l)[j]? = some v := by
      rw [u8s_get] at hj ⊢
      rw [List.getElem?_set_ne (by omega)] at hj
      exact hj
    have := h.cells j v hj2
    rw [hb.cell j] at this
    rw [Array.getElem?_setIfInBounds_ne (by omega)]
    exact this

theorem Row.set0' {w : World} {s : Value} {g : Nat} {l : List UInt8} (h : Row w s g l) (k : UInt8) (hk : k.toNat = 0) : BytesAt (w.setCell ⟨g, 0, none⟩ (.int .u8 0)) s g (l.set 0 k) := by
  have := h.set0 k; rw [hk] at this; exact this

theorem u8_ne {a b : UInt8} (h : a.toNat ≠ b.toNat) : a ≠ b := fun e => h (by rw [e])

theorem kd0 {a : UInt8} (h : ((a.toNat : Int) == 0) = true) : a = 0 := by
  have := eq_of_beq h
  exact UInt8.toNat_inj.1 (by show a.toNat = 0; omega)

theorem empty_row (w : World) : (w.alloc (.cells #[] 5)).ownsRow 0 5 1 (.slice (some ⟨w.heap.size, 0, none⟩) 0 0) 0 (u8s []) :=
  ⟨rfl, .inr ⟨w.heap.size, 0, #[], rfl, Nat.zero_le _, Blk.new w #[] 5, Nat.le_refl _, by unfold maxLen; omega, rfl, rfl⟩⟩

theorem wpList_append_to {w : World} {ops : Array Oper} {rest : List Oper} {o : Oper} {a : Act} {Q : Exit → Act → World → Prop} (hgd : o.guard = none) (s x : Operand) (t t' : TypeId)
    (ho : o.op = .call { callee := .builtin .append, args := #[s, x], argTypes := #[t, t'] }) (ht : Tryz.prog.underlying t = some (.slice 5)) (ht' : Tryz.prog.underlying t' = some (.slice 5))
    (v sv : Value) (l m : List UInt8) (n k N : Nat) (hN : n + k = N) (hln : l.length = n) (hmk : m.length = k) (g0 c0 : Nat) (hv : v = .slice (some ⟨g0, 0, none⟩) n c0) (hs : a.eval s = v) (hx : a.eval x = sv) (hown : w.ownsRow 0 5 1 v n (u8s l)) (d : Nat) (hsrc : Src w sv d m) (hlen : N ≤ 140737488355328)
    (S : List Nat) (b : World) (hb : Kept S b w) (hg0 : b.heap.size ≤ g0)
    (h : ∀ g c w', Row w' (.slice (some ⟨g, 0, none⟩) N c) g (l ++ m) → Kept S b w' → b.heap.size ≤ g →
      wpList Tryz.prog ops Q rest (a.put o.dst (.slice (some ⟨g, 0, none⟩) N c)) w') : wpList Tryz.prog ops Q (o :: rest) a w := by
  subst hN
  refine wpList_append_src hgd s x t t' ho ht ht' v sv l m n k hln hmk g0 c0 hv hs hx hown d hsrc hlen fun g c w' h1 h2 h3 h4 => ?_
  refine h g c w' ⟨c, by rw [List.length_append, hln, hmk], by rw [List.length_append, hln, hmk]; exact h1⟩ (hb.trans h3 (by simp; exact .inr hg0)) ?_
  rcases h4 with rfl | rfl
  · exact hg0
  · exact hb.size

set_option maxHeartbeats 2000000 in
set_option maxRecDepth 100000 in
theorem broken_main (ch : Nat) (s : Value) (d : Nat) (body : List UInt8) (n : Int) (mk kd : UInt8) (w : World) (hch : ch ≤ 65535) (hlen : body.length ≤ 500) (hs : Src w s d body) (hsl : ∃ ao c, s = .slice ao body.length c) :
    Calls Tryz.prog 3 #[.int .i64 (ch : Int), s, .int .i64 n, .int .u8 (mk.toNat : Int), .int .u8 (kd.toNat : Int)] w fun e w' => e = .returned (.bool true) ∧ Kept [] w w' := by
  have hfb := frameBytes_any 3 ch s body w (by omega) hch d hs (by omega) hsl
  have ha := alloc_frame
  obtain ⟨ao, c, rfl⟩ := hsl
  have h1 : (body.length : Int) ≤ 500 := by omega
  have h2 : (ch : Int) ≤ 65535 := by omega
  have hb0 : body.length + 7 ≤ 140737488355328 := by omega
  have hb1 : body.length + 8 ≤ 140737488355328 := by omega
  have HF := Lib.hid hfb; have HS := Lib.hid hs
  clear hfb hs
  go_enter Tryz.func3, Tryz.ntmps3
  go_upto_if 48 with (go_at_call 8; refine HF.out.mono ?_; rintro e w1 ⟨v, g, rfl, hR⟩; have hR0 := hR.1; obtain ⟨cg, rfl, hown⟩ := hR0; rw [frameB_length] at *; have HR := Lib.hid hR; clear hR hown)
  all_goals
    have hcg : body.length + 8 ≤ cg ∧ cg ≤ 9223372036854775807 := HR.out.1.cap (by rw [frameB_length])
    go_cut [11] from 12 (fun s11 wx => s11 = .slice (some ⟨g, 0, none⟩) (body.length + 8) cg ∧ Hid (Row wx (.slice (some ⟨g, 0, none⟩) (body.length + 8) cg) g (frameB 3 ch body) ∧ Kept [] w wx))
    case first =>
      go_wp2_with (first
        | (go_at_call 9; refine (bad_parse (bad_take ch n.toNat body hlen (by omega)) (by rw [List.length_take, frameB_length]; omega) _ g w1 (HR.out.1.bytes n.toNat (by rw [frameB_length]; omega) _ (by omega) hcg.2)).mono ?_; rintro e w2 ⟨rfl, hk2⟩; have HP := Lib.hid hk2; clear hk2)
        | (refine wpList_store_row rfl rfl 35 (.tmp 12) (.tmp 54) rfl w2.heap.size rfl 35 frame0 frame0 (Blk.new w2 _ _) rfl rfl frame0_one frame_size ?_; intro w3 g1 g2; have HG := Lib.hid (HP.out.stored g2); clear g1 g2))
      all_goals
        go_meet
        case rel =>
          first
            | exact ⟨rfl, Lib.hid ⟨HR.out.1.kept HG.out (by simp), HR.out.2.2.trans HG.out (by simp)⟩⟩
            | exact ⟨rfl, Lib.hid ⟨HR.out.1, HR.out.2.2⟩⟩
    case rest =>
      obtain ⟨rfl, HC⟩ := hcut
      go_upto_if 59 with fail
      all_goals
        go_cut [11] from 12 (fun s11 wx => s11 = .slice (some ⟨g, 0, none⟩) (body.length + 8) cg ∧ Hid (Row wx (.slice (some ⟨g, 0, none⟩) (body.length + 8) cg) g (frameB 3 ch body) ∧ Kept [] w wx))
        case first =>
          have HK0 := Lib.hid ((Kept.refl [] wc).alloc (.cells #[] 5))
          have HK1 := Lib.hid (HC.out.1.kept HK0.out (by simp))
          by_cases hmk : mk = 206
          · have hq : ((mk.toNat : Int) != 206) = false := by subst hmk; rfl
            rw [hq]
            clear hq hmk
            go_wp2_with fail
            go_meet
            case rel => exact ⟨rfl, HC⟩
          · have hq : ((mk.toNat : Int) != 206) = true := by have := u8_beq (a := mk) (b := 206) 206 rfl hmk; simpa [bne] using this
            rw [hq]
            have HM := Lib.hid hmk
            clear hq hmk
            go_wp2_with (first
              | (refine wpList_append_to rfl (.tmp 60) (.tmp 65) 22 22 rfl Tryz.underlying22 Tryz.underlying22 _ _ [] ((frameB 3 ch body).take (body.length + 7)) 0 (body.length + 7) (body.length + 7) (Nat.zero_add _) rfl (by rw [List.length_take, frameB_length]; omega) wc.heap.size 0 rfl rfl rfl (empty_row wc) g (HK1.out.src _ (by rw [frameB_length]; omega) _) hb0 [] wc HK0.out (Nat.le_refl _) ?_; intro g4 c4 w4 k1 k2 k3; have HK4 := Lib.hid (k2.alloc (.cells #[.int .u8 (mk.toNat : Int)] 5)); have HR4 := Lib.hid (k1.kept ((Kept.refl [] w4).alloc (.cells #[.int .u8 (mk.toNat : Int)] 5)) (by simp)); have HG4 := Lib.hid k3; clear k1 k2 k3)
              | (refine wpList_append_to rfl (.tmp 66) (.tmp 68) 22 22 rfl Tryz.underlying22 Tryz.underlying22 _ _ ([] ++ (frameB 3 ch body).take (body.length + 7)) [mk] (body.length + 7) 1 (body.length + 8) rfl (by rw [List.nil_append, List.length_take, frameB_length]; omega) rfl g4 c4 rfl rfl rfl (HR4.out.own (by rw [List.nil_append, List.length_take, frameB_length]; omega)) w4.heap.size (.inr ⟨⟨w4.heap.size, 0, none⟩, 1, rfl, rfl, cell_one_new _ _ _⟩) hb1 [] wc HK4.out HG4.out ?_; intro g5 c5 w5 k1 k2 k3; have HR5 := Lib.hid (And.intro k1 k2); clear k1 k2 k3)
              | (go_at_call 9; refine (bad_parse (bad_mark ch mk body hlen HM.out) (by rw [List.length_append, List.length_take, frameB_length]; simp; omega) _ g5 w5 HR5.out.1.all).mono ?_; rintro e w2 ⟨rfl, hk2⟩; have HP := Lib.hid (HR5.out.2.trans (S' := []) hk2 (by simp)); clear hk2)
              | (refine wpList_store_row rfl rfl 35 (.tmp 16) (.tmp 73) rfl w2.heap.size rfl 35 frame0 frame0 (Blk.new w2 _ _) rfl rfl frame0_one frame_size ?_; intro w3 g1 g2; have HG := Lib.hid (HP.out.stored g2); clear g1 g2))
            go_meet
            case rel => exact ⟨rfl, Lib.hid ⟨HC.out.1.kept HG.out (by simp), HC.out.2.trans HG.out (by simp)⟩⟩
        case rest =>
          clear HC
          obtain ⟨rfl, HC⟩ := hcut
          have HK0 := Lib.hid ((Kept.refl [] wc).alloc (.cells #[] 5))
          have HK1 := Lib.hid (HC.out.1.kept HK0.out (by simp))
          go_wp2_with (first
              | (refine wpList_append_to rfl (.tmp 87) (.tmp 88) 22 22 rfl Tryz.underlying22 Tryz.underlying22 _ _ [] ((frameB 3 ch body).take (body.length + 8)) 0 (body.length + 8) (body.length + 8) (Nat.zero_add _) rfl (by rw [List.length_take, frameB_length]; omega) wc.heap.size 0 rfl rfl rfl (empty_row wc) g (HK1.out.src _ (by rw [frameB_length]; omega) _) hb1 [] wc HK0.out (Nat.le_refl _) ?_; intro g4 c4 w4 k1 k2 k3; rw [List.nil_append, List.take_of_length_le (by rw [frameB_length]; omega)] at k1; have q4 := k1.cells 0 (.int .u8 3) (by rw [frameB3]; rfl); have f4 := k1.free; have HR4 := Lib.hid (And.intro k1 (And.intro k2 k3)); clear k1 k2 k3)
              | (go_at_call 9; refine (bad_parse (bad_kind ch kd body hlen (u8_ne (by show kd.toNat ≠ 1; omega)) (u8_ne (by show kd.toNat ≠ 2; omega)) (u8_ne (by show kd.toNat ≠ 3; omega)) (u8_ne (by show kd.toNat ≠ 8; omega))) (by rw [List.length_set, frameB_length]; omega) _ g4 _ (HR4.out.1.set0 kd)).mono ?_; rintro e w2 ⟨rfl, hk2⟩; have HP := Lib.hid ((Kept.setCell HR4.out.2.1 (.inr HR4.out.2.2) _).trans (S' := []) hk2 (by simp)); clear hk2)
              | (go_at_call 9; have hz : kd = 0 := kd0 (by assumption); refine (bad_parse (bad_kind ch kd body hlen (by rw [hz]; decide) (by rw [hz]; decide) (by rw [hz]; decide) (by rw [hz]; decide)) (by rw [List.length_set, frameB_length]; omega) _ g4 _ (HR4.out.1.set0 kd)).mono ?_; rintro e w2 ⟨rfl, hk2⟩; have HP := Lib.hid ((Kept.setCell HR4.out.2.1 (.inr HR4.out.2.2) _).trans (S' := []) hk2 (by simp)); clear hk2)
              | (go_at_call 7; refine (works_any _).mono ?_; rintro e w9 ⟨rfl, hk9⟩; have H9 := Lib.hid hk9; clear hk9)
              | (refine wpList_store_row rfl rfl 35 (.tmp 20) (.tmp 96) rfl w2.heap.size rfl 35 frame0 frame0 (Blk.new w2 _ _) rfl rfl frame0_one frame_size ?_; intro w3 g1 g2; have HG := Lib.hid (HP.out.stored g2); clear g1 g2))
          all_goals
            go_ret
            first
              | exact ⟨rfl, (HC.out.2.trans HG.out (by simp)).trans H9.out (by simp)⟩
              | exact ⟨rfl, HC.out.2.trans H9.out (by simp)⟩

end Go.Proofs.YtkcdakohmfodjaaGreat
