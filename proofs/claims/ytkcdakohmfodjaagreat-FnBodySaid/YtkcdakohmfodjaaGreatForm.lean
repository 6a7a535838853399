/-
  WriteFrame and ZZWriteFrame, by the kind of the frame. (Printed by wip/gen/form.py.)
-/
import Derived.Test.YtkcdakohmfodjaaGreatWrite
import Derived.Test.YtkcdakohmfodjaaGreatBuf
namespace Go.Proofs.YtkcdakohmfodjaaGreat
open Go.RowKit
set_option linter.unusedVariables false
set_option linter.unusedSimpArgs false

/-- A written row that is not empty, as a slice. -/
theorem Wr.row {w : World} {q : Nat} {bs : List Nat} {l : List UInt8} (h : Wr TB w q bs l) (hl : 0 < l.length) : ∃ v g c, v = .slice (some ⟨g, 0, none⟩) l.length c ∧ w.cell? ⟨q, 0, none⟩ = some v ∧ Row w v g l ∧ bs = [g] := by
  obtain ⟨v, h1, h2, h3, h4⟩ := h
  obtain ⟨g, c, rfl, h5, h6⟩ := own_form h2 hl
  exact ⟨_, g, c, rfl, h1.cell0, ⟨c, rfl, h2⟩, by rw [h3, h6]; rfl⟩

theorem method_beat (k : Nat) (a : Addr) (w : World) : (method (k + 1) 89 (.pointer (some a)) "amqp091/pub/amqp091.write").run Tryz.prog w = .ok (203, .pointer (some a)) w := by kernel_rfl
theorem nilAhead_beat (k : Nat) (a : Addr) (w : World) : (nilAhead (k + 1) 89 (.pointer (some a)) "amqp091/pub/amqp091.write").run Tryz.prog w = .ok (some false) w := by kernel_rfl

set_option maxHeartbeats 400000 in
set_option maxRecDepth 100000 in
theorem wf_beat (wr q p : Nat) (w : World) (hwr : w.cell? ⟨wr, 0, none⟩ = some (.iface 111 (.pointer (some ⟨q, 0, none⟩)))) (R : World → Prop)
    (hc : Calls Tryz.prog 203 #[.pointer (some ⟨p, 0, none⟩), .iface 111 (.pointer (some ⟨q, 0, none⟩))] w.drew fun e w' => e = .returned .nilIface ∧ R w') :
    Calls Tryz.prog 74 #[.pointer (some ⟨wr, 0, none⟩), .iface 89 (.pointer (some ⟨p, 0, none⟩))] w fun e w' => e = .returned .nilIface ∧ R w' := by
  have hm1 := method_beat
  have hm2 := nilAhead_beat
  go_enter Tryz.func74, Tryz.ntmps74
  go_wp2
  go_region_with (go_at_call 203; refine hc.mono ?_; rintro e w' ⟨rfl, hR⟩)
  all_goals
    go_wp2
    go_ret
    exact ⟨rfl, hR⟩

set_option maxHeartbeats 400000 in
theorem zz_beat (p : Nat) (w : World) (l : List UInt8) (hl : 0 < l.length)
    (hc : ∀ w1 q, Kept [] w w1 → w.heap.size ≤ q → Wr TB w1 q [] [] → Calls Tryz.prog 203 #[.pointer (some ⟨p, 0, none⟩), .iface 111 (.pointer (some ⟨q, 0, none⟩))] w1 fun e w' => e = .returned .nilIface ∧ ∃ bs', Wr TB w' q bs' l ∧ Adv q [] bs' w1 w') :
    Calls Tryz.prog 52 #[.iface 89 (.pointer (some ⟨p, 0, none⟩))] w fun e w' => ∃ v g, e = .returned (.tuple #[v, .nilIface]) ∧ Row w' v g l ∧ w.heap.size ≤ g ∧ Kept [] w w' := by
  obtain ⟨wa, hwa⟩ : ∃ wa, wa = (w.alloc (.cells #[.slice none 0 0] TB)).alloc (.cells #[.iface 111 (.pointer (some ⟨w.heap.size, 0, none⟩))] 184) := ⟨_, rfl⟩
  have hka : Kept [] w wa := by subst hwa; exact ((Kept.refl [] w).alloc _).alloc _
  have hq : Blk wa w.heap.size #[.slice none 0 0] TB := by subst hwa; exact (Blk.new w _ _).alloc _
  have hr : Blk wa (w.heap.size + 1) #[.iface 111 (.pointer (some ⟨w.heap.size, 0, none⟩))] 184 := by subst hwa; exact Blk.new_at (by simp)
  have hd : Kept [] wa wa.drew := (Kept.refl [] wa).drew
  have hw : Wr TB wa.drew w.heap.size [] [] := ⟨_, hq.kept hd (by simp), World.ownsRow_nil _ _ _ _, rfl, by simp⟩
  have hcall := wf_beat (w.heap.size + 1) w.heap.size p wa hr.cell0 _ (hc wa.drew w.heap.size (hka.trans hd (by simp)) (Nat.le_refl _) hw)
  have HC := Lib.hid hcall; have HK := Lib.hid hka; have HW := Lib.hid hwa; clear hcall hka hwa hq hr hd hw hc
  go_enter Tryz.func52, Tryz.ntmps52
  go_wp2_with fail
  rw [← HW.out]
  refine HC.out.mono ?_
  rintro e w1 ⟨rfl, bs', hw1, ha1⟩
  obtain ⟨v, g, c, hv, c0, hrow, hbs⟩ := hw1.row hl
  have hb := bytes_any w.heap.size v w1 c0
  have HB := Lib.hid hb
  have HR := Lib.hid (And.intro hrow (And.intro ha1 hbs)); clear hrow ha1 hbs hw1 c0 hb
  subst hv
  go_wp2_with (go_at_call 75; refine HB.out.mono ?_; rintro e w2 ⟨rfl, rfl⟩)
  go_ret2
  refine ⟨_, g, rfl, HR.out.1, ?_, ?_⟩
  · rcases HR.out.2.1.own g (by rw [HR.out.2.2]; simp) with h | h
    · simp at h
    · exact Nat.le_trans HK.out.size h
  · exact (HK.out.drew).trans HR.out.2.1.kept (by simp)

theorem method_body (k : Nat) (a : Addr) (w : World) : (method (k + 1) 85 (.pointer (some a)) "amqp091/pub/amqp091.write").run Tryz.prog w = .ok (200, .pointer (some a)) w := by kernel_rfl
theorem nilAhead_body (k : Nat) (a : Addr) (w : World) : (nilAhead (k + 1) 85 (.pointer (some a)) "amqp091/pub/amqp091.write").run Tryz.prog w = .ok (some false) w := by kernel_rfl

set_option maxHeartbeats 400000 in
set_option maxRecDepth 100000 in
theorem wf_body (wr q p : Nat) (w : World) (hwr : w.cell? ⟨wr, 0, none⟩ = some (.iface 111 (.pointer (some ⟨q, 0, none⟩)))) (R : World → Prop)
    (hc : Calls Tryz.prog 200 #[.pointer (some ⟨p, 0, none⟩), .iface 111 (.pointer (some ⟨q, 0, none⟩))] w.drew fun e w' => e = .returned .nilIface ∧ R w') :
    Calls Tryz.prog 74 #[.pointer (some ⟨wr, 0, none⟩), .iface 85 (.pointer (some ⟨p, 0, none⟩))] w fun e w' => e = .returned .nilIface ∧ R w' := by
  have hm1 := method_body
  have hm2 := nilAhead_body
  go_enter Tryz.func74, Tryz.ntmps74
  go_wp2
  go_region_with (go_at_call 200; refine hc.mono ?_; rintro e w' ⟨rfl, hR⟩)
  all_goals
    go_wp2
    go_ret
    exact ⟨rfl, hR⟩

set_option maxHeartbeats 400000 in
theorem zz_body (p : Nat) (w : World) (l : List UInt8) (hl : 0 < l.length)
    (hc : ∀ w1 q, Kept [] w w1 → w.heap.size ≤ q → Wr TB w1 q [] [] → Calls Tryz.prog 200 #[.pointer (some ⟨p, 0, none⟩), .iface 111 (.pointer (some ⟨q, 0, none⟩))] w1 fun e w' => e = .returned .nilIface ∧ ∃ bs', Wr TB w' q bs' l ∧ Adv q [] bs' w1 w') :
    Calls Tryz.prog 52 #[.iface 85 (.pointer (some ⟨p, 0, none⟩))] w fun e w' => ∃ v g, e = .returned (.tuple #[v, .nilIface]) ∧ Row w' v g l ∧ w.heap.size ≤ g ∧ Kept [] w w' := by
  obtain ⟨wa, hwa⟩ : ∃ wa, wa = (w.alloc (.cells #[.slice none 0 0] TB)).alloc (.cells #[.iface 111 (.pointer (some ⟨w.heap.size, 0, none⟩))] 184) := ⟨_, rfl⟩
  have hka : Kept [] w wa := by subst hwa; exact ((Kept.refl [] w).alloc _).alloc _
  have hq : Blk wa w.heap.size #[.slice none 0 0] TB := by subst hwa; exact (Blk.new w _ _).alloc _
  have hr : Blk wa (w.heap.size + 1) #[.iface 111 (.pointer (some ⟨w.heap.size, 0, none⟩))] 184 := by subst hwa; exact Blk.new_at (by simp)
  have hd : Kept [] wa wa.drew := (Kept.refl [] wa).drew
  have hw : Wr TB wa.drew w.heap.size [] [] := ⟨_, hq.kept hd (by simp), World.ownsRow_nil _ _ _ _, rfl, by simp⟩
  have hcall := wf_body (w.heap.size + 1) w.heap.size p wa hr.cell0 _ (hc wa.drew w.heap.size (hka.trans hd (by simp)) (Nat.le_refl _) hw)
  have HC := Lib.hid hcall; have HK := Lib.hid hka; have HW := Lib.hid hwa; clear hcall hka hwa hq hr hd hw hc
  go_enter Tryz.func52, Tryz.ntmps52
  go_wp2_with fail
  rw [← HW.out]
  refine HC.out.mono ?_
  rintro e w1 ⟨rfl, bs', hw1, ha1⟩
  obtain ⟨v, g, c, hv, c0, hrow, hbs⟩ := hw1.row hl
  have hb := bytes_any w.heap.size v w1 c0
  have HB := Lib.hid hb
  have HR := Lib.hid (And.intro hrow (And.intro ha1 hbs)); clear hrow ha1 hbs hw1 c0 hb
  subst hv
  go_wp2_with (go_at_call 75; refine HB.out.mono ?_; rintro e w2 ⟨rfl, rfl⟩)
  go_ret2
  refine ⟨_, g, rfl, HR.out.1, ?_, ?_⟩
  · rcases HR.out.2.1.own g (by rw [HR.out.2.2]; simp) with h | h
    · simp at h
    · exact Nat.le_trans HK.out.size h
  · exact (HK.out.drew).trans HR.out.2.1.kept (by simp)

theorem method_head (k : Nat) (a : Addr) (w : World) : (method (k + 1) 94 (.pointer (some a)) "amqp091/pub/amqp091.write").run Tryz.prog w = .ok (205, .pointer (some a)) w := by kernel_rfl
theorem nilAhead_head (k : Nat) (a : Addr) (w : World) : (nilAhead (k + 1) 94 (.pointer (some a)) "amqp091/pub/amqp091.write").run Tryz.prog w = .ok (some false) w := by kernel_rfl

set_option maxHeartbeats 400000 in
set_option maxRecDepth 100000 in
theorem wf_head (wr q p : Nat) (w : World) (hwr : w.cell? ⟨wr, 0, none⟩ = some (.iface 111 (.pointer (some ⟨q, 0, none⟩)))) (R : World → Prop)
    (hc : Calls Tryz.prog 205 #[.pointer (some ⟨p, 0, none⟩), .iface 111 (.pointer (some ⟨q, 0, none⟩))] w.drew fun e w' => e = .returned .nilIface ∧ R w') :
    Calls Tryz.prog 74 #[.pointer (some ⟨wr, 0, none⟩), .iface 94 (.pointer (some ⟨p, 0, none⟩))] w fun e w' => e = .returned .nilIface ∧ R w' := by
  have hm1 := method_head
  have hm2 := nilAhead_head
  go_enter Tryz.func74, Tryz.ntmps74
  go_wp2
  go_region_with (go_at_call 205; refine hc.mono ?_; rintro e w' ⟨rfl, hR⟩)
  all_goals
    go_wp2
    go_ret
    exact ⟨rfl, hR⟩

set_option maxHeartbeats 400000 in
theorem zz_head (p : Nat) (w : World) (l : List UInt8) (hl : 0 < l.length)
    (hc : ∀ w1 q, Kept [] w w1 → w.heap.size ≤ q → Wr TB w1 q [] [] → Calls Tryz.prog 205 #[.pointer (some ⟨p, 0, none⟩), .iface 111 (.pointer (some ⟨q, 0, none⟩))] w1 fun e w' => e = .returned .nilIface ∧ ∃ bs', Wr TB w' q bs' l ∧ Adv q [] bs' w1 w') :
    Calls Tryz.prog 52 #[.iface 94 (.pointer (some ⟨p, 0, none⟩))] w fun e w' => ∃ v g, e = .returned (.tuple #[v, .nilIface]) ∧ Row w' v g l ∧ w.heap.size ≤ g ∧ Kept [] w w' := by
  obtain ⟨wa, hwa⟩ : ∃ wa, wa = (w.alloc (.cells #[.slice none 0 0] TB)).alloc (.cells #[.iface 111 (.pointer (some ⟨w.heap.size, 0, none⟩))] 184) := ⟨_, rfl⟩
  have hka : Kept [] w wa := by subst hwa; exact ((Kept.refl [] w).alloc _).alloc _
  have hq : Blk wa w.heap.size #[.slice none 0 0] TB := by subst hwa; exact (Blk.new w _ _).alloc _
  have hr : Blk wa (w.heap.size + 1) #[.iface 111 (.pointer (some ⟨w.heap.size, 0, none⟩))] 184 := by subst hwa; exact Blk.new_at (by simp)
  have hd : Kept [] wa wa.drew := (Kept.refl [] wa).drew
  have hw : Wr TB wa.drew w.heap.size [] [] := ⟨_, hq.kept hd (by simp), World.ownsRow_nil _ _ _ _, rfl, by simp⟩
  have hcall := wf_head (w.heap.size + 1) w.heap.size p wa hr.cell0 _ (hc wa.drew w.heap.size (hka.trans hd (by simp)) (Nat.le_refl _) hw)
  have HC := Lib.hid hcall; have HK := Lib.hid hka; have HW := Lib.hid hwa; clear hcall hka hwa hq hr hd hw hc
  go_enter Tryz.func52, Tryz.ntmps52
  go_wp2_with fail
  rw [← HW.out]
  refine HC.out.mono ?_
  rintro e w1 ⟨rfl, bs', hw1, ha1⟩
  obtain ⟨v, g, c, hv, c0, hrow, hbs⟩ := hw1.row hl
  have hb := bytes_any w.heap.size v w1 c0
  have HB := Lib.hid hb
  have HR := Lib.hid (And.intro hrow (And.intro ha1 hbs)); clear hrow ha1 hbs hw1 c0 hb
  subst hv
  go_wp2_with (go_at_call 75; refine HB.out.mono ?_; rintro e w2 ⟨rfl, rfl⟩)
  go_ret2
  refine ⟨_, g, rfl, HR.out.1, ?_, ?_⟩
  · rcases HR.out.2.1.own g (by rw [HR.out.2.2]; simp) with h | h
    · simp at h
    · exact Nat.le_trans HK.out.size h
  · exact (HK.out.drew).trans HR.out.2.1.kept (by simp)

set_option maxHeartbeats 400000 in
theorem beatWrite_any (q h : Nat) (bs : List Nat) (w : World) (hw : Wr TB w q bs []) (hh : w.cell? ⟨h, 0, none⟩ = some (.int .u16 0)) :
    Calls Tryz.prog 203 #[.pointer (some ⟨h, 0, none⟩), .iface 111 (.pointer (some ⟨q, 0, none⟩))] w fun e w' => e = .returned .nilIface ∧
      ∃ bs', Wr TB w' q bs' (frameB 8 0 []) ∧ Adv q bs bs' w w' := by
  have hk0 : Kept [] w (w.alloc (.cells #[] 5)) := (Kept.refl [] w).alloc _
  have hc := writeFrame_any q 8 0 (.slice (some ⟨w.heap.size, 0, none⟩) 0 0) [] (w.alloc (.cells #[] 5)) bs (hw.kept hk0 (by simp) (by simp)) w.heap.size (.inl ⟨rfl, _, _, rfl⟩) (by have := hw.lt; omega) (fun hm => by have := hw.blt _ hm; omega) (by simp) ⟨_, _, rfl⟩ (by omega) (by omega) (by simp)
  simp only [Int.natCast_zero] at hc
  have HC := Lib.hid hc; have HK := Lib.hid hk0; clear hc hk0 hw
  go_enter Tryz.func203, Tryz.ntmps203
  go_wp2_with (go_at_call 201; refine HC.out.mono ?_; rintro e w1 ⟨rfl, hR⟩)
  go_ret
  obtain ⟨bs', h1, h2⟩ := hR
  refine ⟨rfl, bs', h1, (HK.out.mono (by simp)).trans h2.kept (fun x hx => .inl hx), fun b hb => ?_⟩
  rcases h2.own b hb with h | h
  · exact .inl h
  · exact .inr (Nat.le_trans HK.out.size h)

set_option maxHeartbeats 400000 in
set_option maxRecDepth 100000 in
theorem bodyWrite_any (q h ch : Nat) (s : Value) (d : Nat) (m : List UInt8) (bs : List Nat) (w : World) (hw : Wr TB w q bs []) (hh : Blk w h #[.int .u16 (ch : Int), s] 87)
    (hs : Src w s d m) (hsl : ∃ ao c, s = .slice ao m.length c) (hdq : d ≠ q) (hdb : d ∉ bs) (hdw : d < w.heap.size) (hch : ch ≤ 65535) (hlen : m.length ≤ 1000000) :
    Calls Tryz.prog 200 #[.pointer (some ⟨h, 0, none⟩), .iface 111 (.pointer (some ⟨q, 0, none⟩))] w fun e w' => e = .returned .nilIface ∧
      ∃ bs', Wr TB w' q bs' (frameB 3 ch m) ∧ Adv q bs bs' w w' := by
  have hd : Kept [] w w.drew := (Kept.refl [] w).drew
  have hc := writeFrame_any q 3 ch s m w.drew bs (hw.kept hd (by simp) (by simp)) d (hs.kept hd (by simp)) hdq hdb hdw hsl (by omega) hch hlen
  obtain ⟨ao, c, rfl⟩ := hsl
  have c0 : w.cell? ⟨h, 0, none⟩ = some (.int .u16 (ch : Int)) := hh.cell 0
  have c1 : w.cell? ⟨h, 1, none⟩ = some (.slice ao m.length c) := hh.cell 1
  have HC := Lib.hid hc; have HD := Lib.hid hd; clear hc hd hw hh hs hlen
  go_enter Tryz.func200, Tryz.ntmps200
  go_wp2
  go_region_with (go_at_call 201; refine HC.out.mono ?_; rintro e w1 ⟨rfl, hR⟩)
  all_goals
    go_wp2
    go_ret
    obtain ⟨bs', h1, h2⟩ := hR
    exact ⟨rfl, bs', h1, (HD.out.mono (by simp)).trans h2.kept (fun x hx => .inl hx), h2.own⟩

end Go.Proofs.YtkcdakohmfodjaaGreat
