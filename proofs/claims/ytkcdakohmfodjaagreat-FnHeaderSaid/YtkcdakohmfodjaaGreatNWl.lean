/-
  Lemmas on the way to the statement of YtkcdakohmfodjaaGreatHeader, joined out of these texts: Wl. No condition.
-/
import Derived.Deep.AppendSrc
import Derived.Deep.Cut
import Derived.Deep.RegionHeld3
import Derived.Test.YtkcdakohmfodjaaGreatNHb
import Derived.Test.YtkcdakohmfodjaaGreatNHpW
import Derived.Test.YtkcdakohmfodjaaGreatNRarr
import Derived.Test.YtkcdakohmfodjaaGreatNSpVV
import Derived.Test.YtkcdakohmfodjaaGreatNTold
import Derived.Test.YtkcdakohmfodjaaGreatNToldV
namespace Go.Proofs.YtkcdakohmfodjaaGreat
open Go.RowKit
set_option linter.unusedVariables false
set_option linter.unusedSimpArgs false
theorem tno_int (u : TypeId) (v : Value) (w : World) (h : u ≠ 3) : (Instr.typeAssert (.iface u v) 20 3 true).run Tryz.prog w = .ok (.tuple #[.int .i64 0, .bool false]) w := by
  have e : (Instr.typeAssert (.iface u v) 20 3 true).run Tryz.prog w = (if u = 3 then (pure (Value.tuple #[v, .bool true]) : Sem Value) else (do pure (Value.tuple #[← zeroValue 3, .bool false]))).run Tryz.prog w := by kernel_rfl
  have z : (do pure (Value.tuple #[← zeroValue 3, .bool false]) : Sem Value).run Tryz.prog w = .ok (.tuple #[.int .i64 0, .bool false]) w := by kernel_rfl
  rw [e, if_neg h]
  exact z
theorem cells3 {w : World} {g : Nat} {x y z : Value} {t : TypeId} (h : Blk w g #[x, y, z] t) : w.cell? ⟨g, 0, none⟩ = some x ∧ w.cell? ⟨g, 1, none⟩ = some y ∧ w.cell? ⟨g, 2, none⟩ = some z := ⟨h.cell 0, h.cell 1, h.cell 2⟩
theorem putAt_takeN (cs : List Value) (o : Nat) (l : List Value) (n : Nat) (ho : o ≤ cs.length) (hn : o + l.length = n) : (putAt cs o l).take n = cs.take o ++ l := by
  unfold putAt
  exact List.take_left' (by simp; omega)
/-- Block g, new in w', holds the bytes m first; else w' is w. -/
theorem wl_end (q : Nat) (bs : List Nat) (l m : List UInt8) (g : Nat) (cs : List Value) (n : Nat) (t : TypeId) (w w1 : World) (hw : Wr TB w q bs l) (hl : l.length ≤ 800000000) (hk : Kept [] w w1) (hb : Blk w1 g cs.toArray t) (hm : cs.take n = u8s m) (hn : n = m.length) (h9 : n ≤ 9) :
    Calls Tryz.prog 238 #[.pointer (some ⟨q, 0, none⟩), .slice (some ⟨g, 0, none⟩) n 9] w1 fun e w' => e = .returned (.tuple #[.int .i64 (n : Int), .nilIface]) ∧ Wrote q bs l m w w' := by
  subst hn
  refine (write_any q bs _ g l m w1 (hw.kept hk (by simp) (by simp)) (hb.srcAt m hm rfl 9) ⟨_, 9, rfl⟩ (by omega)).mono ?_
  rintro e w2 ⟨rfl, bs', h1, h2⟩
  exact ⟨rfl, bs', h1, h2.kept_l hk⟩
theorem tnil_bool (w : World) : (Instr.typeAssert .nilIface 20 4 true).run Tryz.prog w = .ok (.tuple #[.bool false, .bool false]) w := by kernel_rfl
theorem tnil_u8 (w : World) : (Instr.typeAssert .nilIface 20 5 true).run Tryz.prog w = .ok (.tuple #[.int .u8 0, .bool false]) w := by kernel_rfl
theorem tnil_i8 (w : World) : (Instr.typeAssert .nilIface 20 188 true).run Tryz.prog w = .ok (.tuple #[.int .i8 0, .bool false]) w := by kernel_rfl
theorem tnil_i16 (w : World) : (Instr.typeAssert .nilIface 20 189 true).run Tryz.prog w = .ok (.tuple #[.int .i16 0, .bool false]) w := by kernel_rfl
theorem tnil_int (w : World) : (Instr.typeAssert .nilIface 20 3 true).run Tryz.prog w = .ok (.tuple #[.int .i64 0, .bool false]) w := by kernel_rfl
theorem tnil_i32 (w : World) : (Instr.typeAssert .nilIface 20 21 true).run Tryz.prog w = .ok (.tuple #[.int .i32 0, .bool false]) w := by kernel_rfl
theorem tnil_i64 (w : World) : (Instr.typeAssert .nilIface 20 2 true).run Tryz.prog w = .ok (.tuple #[.int .i64 0, .bool false]) w := by kernel_rfl
theorem tnil_u16 (w : World) : (Instr.typeAssert .nilIface 20 84 true).run Tryz.prog w = .ok (.tuple #[.int .u16 0, .bool false]) w := by kernel_rfl
theorem tnil_u32 (w : World) : (Instr.typeAssert .nilIface 20 70 true).run Tryz.prog w = .ok (.tuple #[.int .u32 0, .bool false]) w := by kernel_rfl
theorem tnil_f32 (w : World) : (Instr.typeAssert .nilIface 20 178 true).run Tryz.prog w = .ok (.tuple #[.float .f32 0, .bool false]) w := by kernel_rfl
theorem tnil_f64 (w : World) : (Instr.typeAssert .nilIface 20 138 true).run Tryz.prog w = .ok (.tuple #[.float .f64 0, .bool false]) w := by kernel_rfl
theorem tnil_dec (w : World) : (Instr.typeAssert .nilIface 20 191 true).run Tryz.prog w = .ok (.tuple #[.agg #[.int .u8 0, .int .i32 0], .bool false]) w := by kernel_rfl
theorem tnil_str (w : World) : (Instr.typeAssert .nilIface 20 9 true).run Tryz.prog w = .ok (.tuple #[.string ⟨#[]⟩, .bool false]) w := by kernel_rfl
theorem tnil_arr (w : World) : (Instr.typeAssert .nilIface 20 192 true).run Tryz.prog w = .ok (.tuple #[.slice none 0 0, .bool false]) w := by kernel_rfl
theorem tnil_tim (w : World) : (Instr.typeAssert .nilIface 20 99 true).run Tryz.prog w = .ok (.tuple #[.agg #[.int .u64 0, .int .i64 0, .pointer none], .bool false]) w := by kernel_rfl
theorem tnil_tab (w : World) : (Instr.typeAssert .nilIface 20 96 true).run Tryz.prog w = .ok (.tuple #[.map none, .bool false]) w := by kernel_rfl
theorem tnil_byt (w : World) : (Instr.typeAssert .nilIface 20 22 true).run Tryz.prog w = .ok (.tuple #[.slice none 0 0, .bool false]) w := by kernel_rfl
set_option maxHeartbeats 2000000 in
set_option maxRecDepth 100000 in
theorem wl_86 (q : Nat) (bs : List Nat) (l : List UInt8) (w : World) (hw : Wr TB w q bs l) (hl : l.length ≤ 800000000) :
    Calls Tryz.prog 213 #[.iface 111 (.pointer (some ⟨q, 0, none⟩)), .nilIface] w fun e w' => e = .returned .nilIface ∧ Wrote q bs l ([86]) w w' := by
  have hm1 := method_wbuf
  have hm2 := nilAhead_wbuf
  have tn_bool := tnil_bool
  have tn_u8 := tnil_u8
  have tn_i8 := tnil_i8
  have tn_i16 := tnil_i16
  have tn_int := tnil_int
  have tn_i32 := tnil_i32
  have tn_i64 := tnil_i64
  have tn_u16 := tnil_u16
  have tn_u32 := tnil_u32
  have tn_f32 := tnil_f32
  have tn_f64 := tnil_f64
  have tn_dec := tnil_dec
  have tn_str := tnil_str
  have tn_arr := tnil_arr
  have tn_tim := tnil_tim
  have tn_tab := tnil_tab
  have tn_byt := tnil_byt
  have nn := nil_nil
  obtain ⟨wa, hwa⟩ : ∃ wa, wa = w.alloc (.cells #[.int .u8 86, .int .u8 0, .int .u8 0, .int .u8 0, .int .u8 0, .int .u8 0, .int .u8 0, .int .u8 0, .int .u8 0] 455) := ⟨_, rfl⟩
  have hend := wl_end q bs l ([86]) w.heap.size [.int .u8 86, .int .u8 0, .int .u8 0, .int .u8 0, .int .u8 0, .int .u8 0, .int .u8 0, .int .u8 0, .int .u8 0] 1 455 w wa hw hl (by rw [hwa]; exact (Kept.refl [] w).alloc _) (by rw [hwa]; exact Blk.new w _ _) (by rfl) rfl (by decide)
  have HE := Lib.hid hend; have HA := Lib.hid hwa; clear hw hl hend hwa
  go_enter Tryz.func213, Tryz.ntmps213
  go_wp2_with fail
  rw [← HA.out]
  refine HE.out.mono ?_
  rintro e w2 ⟨rfl, hend⟩
  have HE := Lib.hid hend; clear hend
  go_wp2
  go_ret
  exact ⟨rfl, HE.out⟩
set_option maxHeartbeats 2000000 in
set_option maxRecDepth 100000 in
theorem wl_1160 (q : Nat) (bs : List Nat) (l : List UInt8) (w : World) (hw : Wr TB w q bs l) (hl : l.length ≤ 800000000) :
    Calls Tryz.prog 213 #[.iface 111 (.pointer (some ⟨q, 0, none⟩)), .iface 4 (.bool false)] w fun e w' => e = .returned .nilIface ∧ Wrote q bs l ([116, 0]) w w' := by
  have hm1 := method_wbuf
  have hm2 := nilAhead_wbuf
  have ty_bool := tyes_bool
  obtain ⟨wa, hwa⟩ : ∃ wa, wa = w.alloc (.cells #[.int .u8 116, .int .u8 0, .int .u8 0, .int .u8 0, .int .u8 0, .int .u8 0, .int .u8 0, .int .u8 0, .int .u8 0] 455) := ⟨_, rfl⟩
  have hend := wl_end q bs l ([116, 0]) w.heap.size [.int .u8 116, .int .u8 0, .int .u8 0, .int .u8 0, .int .u8 0, .int .u8 0, .int .u8 0, .int .u8 0, .int .u8 0] 2 455 w wa hw hl (by rw [hwa]; exact (Kept.refl [] w).alloc _) (by rw [hwa]; exact Blk.new w _ _) (by rfl) rfl (by decide)
  have HE := Lib.hid hend; have HA := Lib.hid hwa; clear hw hl hend hwa
  go_enter Tryz.func213, Tryz.ntmps213
  go_wp2_with fail
  rw [← HA.out]
  refine HE.out.mono ?_
  rintro e w2 ⟨rfl, hend⟩
  have HE := Lib.hid hend; clear hend
  go_wp2
  go_ret
  exact ⟨rfl, HE.out⟩
set_option maxHeartbeats 2000000 in
set_option maxRecDepth 100000 in
theorem wl_1161 (q : Nat) (bs : List Nat) (l : List UInt8) (w : World) (hw : Wr TB w q bs l) (hl : l.length ≤ 800000000) :
    Calls Tryz.prog 213 #[.iface 111 (.pointer (some ⟨q, 0, none⟩)), .iface 4 (.bool true)] w fun e w' => e = .returned .nilIface ∧ Wrote q bs l ([116, 1]) w w' := by
  have hm1 := method_wbuf
  have hm2 := nilAhead_wbuf
  have ty_bool := tyes_bool
  obtain ⟨wa, hwa⟩ : ∃ wa, wa = w.alloc (.cells #[.int .u8 116, .int .u8 1, .int .u8 0, .int .u8 0, .int .u8 0, .int .u8 0, .int .u8 0, .int .u8 0, .int .u8 0] 455) := ⟨_, rfl⟩
  have hend := wl_end q bs l ([116, 1]) w.heap.size [.int .u8 116, .int .u8 1, .int .u8 0, .int .u8 0, .int .u8 0, .int .u8 0, .int .u8 0, .int .u8 0, .int .u8 0] 2 455 w wa hw hl (by rw [hwa]; exact (Kept.refl [] w).alloc _) (by rw [hwa]; exact Blk.new w _ _) (by rfl) rfl (by decide)
  have HE := Lib.hid hend; have HA := Lib.hid hwa; clear hw hl hend hwa
  go_enter Tryz.func213, Tryz.ntmps213
  go_wp2_with fail
  rw [← HA.out]
  refine HE.out.mono ?_
  rintro e w2 ⟨rfl, hend⟩
  have HE := Lib.hid hend; clear hend
  go_wp2
  go_ret
  exact ⟨rfl, HE.out⟩
set_option maxHeartbeats 2000000 in
set_option maxRecDepth 100000 in
theorem wl_66 (x : UInt8) (q : Nat) (bs : List Nat) (l : List UInt8) (w : World) (hw : Wr TB w q bs l) (hl : l.length ≤ 800000000) :
    Calls Tryz.prog 213 #[.iface 111 (.pointer (some ⟨q, 0, none⟩)), .iface 5 (.int .u8 (x.toNat : Int))] w fun e w' => e = .returned .nilIface ∧ Wrote q bs l ([66, x]) w w' := by
  have hm1 := method_wbuf
  have hm2 := nilAhead_wbuf
  have tn_bool := fun v w => tno_bool 5 v w (by decide)
  have ty_u8 := tyes_u8
  obtain ⟨wa, hwa⟩ : ∃ wa, wa = w.alloc (.cells #[.int .u8 66, .int .u8 (x.toNat : Int), .int .u8 0, .int .u8 0, .int .u8 0, .int .u8 0, .int .u8 0, .int .u8 0, .int .u8 0] 455) := ⟨_, rfl⟩
  have hend := wl_end q bs l ([66, x]) w.heap.size [.int .u8 66, .int .u8 (x.toNat : Int), .int .u8 0, .int .u8 0, .int .u8 0, .int .u8 0, .int .u8 0, .int .u8 0, .int .u8 0] 2 455 w wa hw hl (by rw [hwa]; exact (Kept.refl [] w).alloc _) (by rw [hwa]; exact Blk.new w _ _) (by rfl) rfl (by decide)
  have HE := Lib.hid hend; have HA := Lib.hid hwa; clear hw hl hend hwa
  go_enter Tryz.func213, Tryz.ntmps213
  go_wp2_with fail
  rw [← HA.out]
  refine HE.out.mono ?_
  rintro e w2 ⟨rfl, hend⟩
  have HE := Lib.hid hend; clear hend
  go_wp2
  go_ret
  exact ⟨rfl, HE.out⟩
set_option maxHeartbeats 2000000 in
set_option maxRecDepth 100000 in
theorem wl_98 (n : Int) (x : UInt8) (hx : n % 256 = (x.toNat : Int)) (q : Nat) (bs : List Nat) (l : List UInt8) (w : World) (hw : Wr TB w q bs l) (hl : l.length ≤ 800000000) :
    Calls Tryz.prog 213 #[.iface 111 (.pointer (some ⟨q, 0, none⟩)), .iface 188 (.int .i8 n)] w fun e w' => e = .returned .nilIface ∧ Wrote q bs l ([98, x]) w w' := by
  have hm1 := method_wbuf
  have hm2 := nilAhead_wbuf
  have tn_bool := fun v w => tno_bool 188 v w (by decide)
  have tn_u8 := fun v w => tno_u8 188 v w (by decide)
  have ty_i8 := tyes_i8
  obtain ⟨wa, hwa⟩ : ∃ wa, wa = w.alloc (.cells #[.int .u8 98, .int .u8 (x.toNat : Int), .int .u8 0, .int .u8 0, .int .u8 0, .int .u8 0, .int .u8 0, .int .u8 0, .int .u8 0] 455) := ⟨_, rfl⟩
  have hend := wl_end q bs l ([98, x]) w.heap.size [.int .u8 98, .int .u8 (x.toNat : Int), .int .u8 0, .int .u8 0, .int .u8 0, .int .u8 0, .int .u8 0, .int .u8 0, .int .u8 0] 2 455 w wa hw hl (by rw [hwa]; exact (Kept.refl [] w).alloc _) (by rw [hwa]; exact Blk.new w _ _) (by rfl) rfl (by decide)
  have HE := Lib.hid hend; have HA := Lib.hid hwa; clear hw hl hend hwa
  go_enter Tryz.func213, Tryz.ntmps213
  go_wp2_with fail
  rw [← HA.out]
  refine HE.out.mono ?_
  rintro e w2 ⟨rfl, hend⟩
  have HE := Lib.hid hend; clear hend
  go_wp2
  go_ret
  exact ⟨rfl, HE.out⟩
set_option maxHeartbeats 2000000 in
set_option maxRecDepth 100000 in
theorem wl_115 (n : Int) (v : Nat) (hv : v < 65536) (hn : IntKind.u16.wrap n = (v : Int)) (q : Nat) (bs : List Nat) (l : List UInt8) (w : World) (hw : Wr TB w q bs l) (hl : l.length ≤ 800000000) :
    Calls Tryz.prog 213 #[.iface 111 (.pointer (some ⟨q, 0, none⟩)), .iface 189 (.int .i16 n)] w fun e w' => e = .returned .nilIface ∧ Wrote q bs l (115 :: Lib.beBytes 2 v) w w' := by
  have hm1 := method_wbuf
  have hm2 := nilAhead_wbuf
  have tn_bool := fun v w => tno_bool 189 v w (by decide)
  have tn_u8 := fun v w => tno_u8 189 v w (by decide)
  have tn_i8 := fun v w => tno_i8 189 v w (by decide)
  have ty_i16 := tyes_i16
  obtain ⟨wa, hwa⟩ : ∃ wa, wa = (w.alloc (.cells #[.int .u8 115, .int .u8 0, .int .u8 0, .int .u8 0, .int .u8 0, .int .u8 0, .int .u8 0, .int .u8 0, .int .u8 0] 455)) := ⟨_, rfl⟩
  have hba : Blk wa w.heap.size [.int .u8 115, .int .u8 0, .int .u8 0, .int .u8 0, .int .u8 0, .int .u8 0, .int .u8 0, .int .u8 0, .int .u8 0].toArray 455 := by rw [hwa]; exact Blk.new w _ _
  have hka : Kept [] w wa := by rw [hwa]; exact (Kept.refl [] w).alloc _
  have hput := put16_any w.heap.size 1 2 8 v [.int .u8 115, .int .u8 0, .int .u8 0, .int .u8 0, .int .u8 0, .int .u8 0, .int .u8 0, .int .u8 0, .int .u8 0] 455 wa hba (by omega) (by simp) hv
  have HP := Lib.hid (And.intro hput (And.intro hba hka))
  have HE := Lib.hid (And.intro hw hl); have HA := Lib.hid hwa; clear hw hl hwa hput hba hka
  go_enter Tryz.func213, Tryz.ntmps213
  go_upto_region 26 with fail
  rw [← HA.out]
  go_upto_region 27 with (go_at_call 209; refine HP.out.1.mono ?_; rintro e w1 ⟨rfl, h1, hk1⟩; have hkw : Kept [] w w1 := HP.out.2.2.trans hk1 (fun x hx => .inr (by simp at hx; omega)); have H1 := Lib.hid (And.intro h1 hkw); clear h1 hkw hk1)
  have hend := wl_end q bs l (115 :: Lib.beBytes 2 v) w.heap.size _ 3 455 w w1 HE.out.1 HE.out.2 H1.out.2 H1.out.1 (by rw [putAt_takeN _ _ _ _ (by simp) (by simp [u8s, Lib.beBytes_length])]; rfl) (by simp [Lib.beBytes_length]) (by decide)
  have HW := Lib.hid hend; clear hend
  go_wp2_with fail
  refine HW.out.mono ?_
  rintro e w2 ⟨rfl, hend⟩
  have H2 := Lib.hid hend; clear hend
  go_wp2
  go_ret
  exact ⟨rfl, H2.out⟩
set_option maxHeartbeats 2000000 in
set_option maxRecDepth 100000 in
theorem wl_73 (n : Int) (v : Nat) (hv : v < 4294967296) (hn : n % 4294967296 = (v : Int)) (q : Nat) (bs : List Nat) (l : List UInt8) (w : World) (hw : Wr TB w q bs l) (hl : l.length ≤ 800000000) :
    Calls Tryz.prog 213 #[.iface 111 (.pointer (some ⟨q, 0, none⟩)), .iface 21 (.int .i32 n)] w fun e w' => e = .returned .nilIface ∧ Wrote q bs l (73 :: Lib.beBytes 4 v) w w' := by
  have hm1 := method_wbuf
  have hm2 := nilAhead_wbuf
  have tn_bool := fun v w => tno_bool 21 v w (by decide)
  have tn_u8 := fun v w => tno_u8 21 v w (by decide)
  have tn_i8 := fun v w => tno_i8 21 v w (by decide)
  have tn_i16 := fun v w => tno_i16 21 v w (by decide)
  have tn_int := fun v w => tno_int 21 v w (by decide)
  have ty_i32 := tyes_i32
  obtain ⟨wa, hwa⟩ : ∃ wa, wa = (w.alloc (.cells #[.int .u8 73, .int .u8 0, .int .u8 0, .int .u8 0, .int .u8 0, .int .u8 0, .int .u8 0, .int .u8 0, .int .u8 0] 455)) := ⟨_, rfl⟩
  have hba : Blk wa w.heap.size [.int .u8 73, .int .u8 0, .int .u8 0, .int .u8 0, .int .u8 0, .int .u8 0, .int .u8 0, .int .u8 0, .int .u8 0].toArray 455 := by rw [hwa]; exact Blk.new w _ _
  have hka : Kept [] w wa := by rw [hwa]; exact (Kept.refl [] w).alloc _
  have hput := put32_any w.heap.size 1 4 8 v [.int .u8 73, .int .u8 0, .int .u8 0, .int .u8 0, .int .u8 0, .int .u8 0, .int .u8 0, .int .u8 0, .int .u8 0] 455 wa hba (by omega) (by simp) hv
  have HP := Lib.hid (And.intro hput (And.intro hba hka))
  have HE := Lib.hid (And.intro hw hl); have HA := Lib.hid hwa; clear hw hl hwa hput hba hka
  go_enter Tryz.func213, Tryz.ntmps213
  go_upto_region 36 with fail
  rw [← HA.out]
  go_upto_region 37 with (go_at_call 210; refine HP.out.1.mono ?_; rintro e w1 ⟨rfl, h1, hk1⟩; have hkw : Kept [] w w1 := HP.out.2.2.trans hk1 (fun x hx => .inr (by simp at hx; omega)); have H1 := Lib.hid (And.intro h1 hkw); clear h1 hkw hk1)
  have hend := wl_end q bs l (73 :: Lib.beBytes 4 v) w.heap.size _ 5 455 w w1 HE.out.1 HE.out.2 H1.out.2 H1.out.1 (by rw [putAt_takeN _ _ _ _ (by simp) (by simp [u8s, Lib.beBytes_length])]; rfl) (by simp [Lib.beBytes_length]) (by decide)
  have HW := Lib.hid hend; clear hend
  go_wp2_with fail
  refine HW.out.mono ?_
  rintro e w2 ⟨rfl, hend⟩
  have H2 := Lib.hid hend; clear hend
  go_wp2
  go_ret
  exact ⟨rfl, H2.out⟩
set_option maxHeartbeats 2000000 in
set_option maxRecDepth 100000 in
theorem wl_108 (n : Int) (v : Nat) (hv : v < 18446744073709551616) (hn : IntKind.u64.wrap n = (v : Int)) (q : Nat) (bs : List Nat) (l : List UInt8) (w : World) (hw : Wr TB w q bs l) (hl : l.length ≤ 800000000) :
    Calls Tryz.prog 213 #[.iface 111 (.pointer (some ⟨q, 0, none⟩)), .iface 2 (.int .i64 n)] w fun e w' => e = .returned .nilIface ∧ Wrote q bs l (108 :: Lib.beBytes 8 v) w w' := by
  have hm1 := method_wbuf
  have hm2 := nilAhead_wbuf
  have tn_bool := fun v w => tno_bool 2 v w (by decide)
  have tn_u8 := fun v w => tno_u8 2 v w (by decide)
  have tn_i8 := fun v w => tno_i8 2 v w (by decide)
  have tn_i16 := fun v w => tno_i16 2 v w (by decide)
  have tn_int := fun v w => tno_int 2 v w (by decide)
  have tn_i32 := fun v w => tno_i32 2 v w (by decide)
  have ty_i64 := tyes_i64
  obtain ⟨wa, hwa⟩ : ∃ wa, wa = (w.alloc (.cells #[.int .u8 108, .int .u8 0, .int .u8 0, .int .u8 0, .int .u8 0, .int .u8 0, .int .u8 0, .int .u8 0, .int .u8 0] 455)) := ⟨_, rfl⟩
  have hba : Blk wa w.heap.size [.int .u8 108, .int .u8 0, .int .u8 0, .int .u8 0, .int .u8 0, .int .u8 0, .int .u8 0, .int .u8 0, .int .u8 0].toArray 455 := by rw [hwa]; exact Blk.new w _ _
  have hka : Kept [] w wa := by rw [hwa]; exact (Kept.refl [] w).alloc _
  have hput := put64_any w.heap.size 1 8 8 v [.int .u8 108, .int .u8 0, .int .u8 0, .int .u8 0, .int .u8 0, .int .u8 0, .int .u8 0, .int .u8 0, .int .u8 0] 455 wa hba (by omega) (by omega) (by simp) hv
  have HP := Lib.hid (And.intro hput (And.intro hba hka))
  have HE := Lib.hid (And.intro hw hl); have HA := Lib.hid hwa; clear hw hl hwa hput hba hka
  go_enter Tryz.func213, Tryz.ntmps213
  go_upto_region 41 with fail
  rw [← HA.out]
  go_upto_region 42 with (go_at_call 211; refine HP.out.1.mono ?_; rintro e w1 ⟨rfl, h1, hk1⟩; have hkw : Kept [] w w1 := HP.out.2.2.trans hk1 (fun x hx => .inr (by simp at hx; omega)); have H1 := Lib.hid (And.intro h1 hkw); clear h1 hkw hk1)
  have hend := wl_end q bs l (108 :: Lib.beBytes 8 v) w.heap.size _ 9 455 w w1 HE.out.1 HE.out.2 H1.out.2 H1.out.1 (by rw [putAt_takeN _ _ _ _ (by simp) (by simp [u8s, Lib.beBytes_length])]; rfl) (by simp [Lib.beBytes_length]) (by decide)
  have HW := Lib.hid hend; clear hend
  go_wp2_with fail
  refine HW.out.mono ?_
  rintro e w2 ⟨rfl, hend⟩
  have H2 := Lib.hid hend; clear hend
  go_wp2
  go_ret
  exact ⟨rfl, H2.out⟩
set_option maxHeartbeats 2000000 in
set_option maxRecDepth 100000 in
theorem wl_102 (v : Nat) (hv : v < 4294967296) (q : Nat) (bs : List Nat) (l : List UInt8) (w : World) (hw : Wr TB w q bs l) (hl : l.length ≤ 800000000) :
    Calls Tryz.prog 213 #[.iface 111 (.pointer (some ⟨q, 0, none⟩)), .iface 178 (.float .f32 v)] w fun e w' => e = .returned .nilIface ∧ Wrote q bs l (102 :: Lib.beBytes 4 v) w w' := by
  have hbits := run_bits32 v
  have hm1 := method_wbuf
  have hm2 := nilAhead_wbuf
  have tn_bool := fun v w => tno_bool 178 v w (by decide)
  have tn_u8 := fun v w => tno_u8 178 v w (by decide)
  have tn_i8 := fun v w => tno_i8 178 v w (by decide)
  have tn_i16 := fun v w => tno_i16 178 v w (by decide)
  have tn_int := fun v w => tno_int 178 v w (by decide)
  have tn_i32 := fun v w => tno_i32 178 v w (by decide)
  have tn_i64 := fun v w => tno_i64 178 v w (by decide)
  have tn_u16 := fun v w => tno_u16 178 v w (by decide)
  have tn_u32 := fun v w => tno_u32 178 v w (by decide)
  have ty_f32 := tyes_f32
  obtain ⟨wa, hwa⟩ : ∃ wa, wa = (w.alloc (.cells #[.int .u8 102, .int .u8 0, .int .u8 0, .int .u8 0, .int .u8 0, .int .u8 0, .int .u8 0, .int .u8 0, .int .u8 0] 455)) := ⟨_, rfl⟩
  have hba : Blk wa w.heap.size [.int .u8 102, .int .u8 0, .int .u8 0, .int .u8 0, .int .u8 0, .int .u8 0, .int .u8 0, .int .u8 0, .int .u8 0].toArray 455 := by rw [hwa]; exact Blk.new w _ _
  have hka : Kept [] w wa := by rw [hwa]; exact (Kept.refl [] w).alloc _
  have hkd : Kept [] w wa.drew := hka.drew
  have hput := fun W (hb : Blk W w.heap.size [.int .u8 102, .int .u8 0, .int .u8 0, .int .u8 0, .int .u8 0, .int .u8 0, .int .u8 0, .int .u8 0, .int .u8 0].toArray 455) => put32_any w.heap.size 1 4 8 v [.int .u8 102, .int .u8 0, .int .u8 0, .int .u8 0, .int .u8 0, .int .u8 0, .int .u8 0, .int .u8 0, .int .u8 0] 455 W hb (by omega) (by simp) hv
  have HP := Lib.hid (And.intro hput (And.intro hba hka))
  have HE := Lib.hid (And.intro hw hl); have HA := Lib.hid hwa; clear hw hl hwa hput hba hka hkd
  go_enter Tryz.func213, Tryz.ntmps213
  go_upto_region 56 with fail
  rw [← HA.out]
  go_region_held3 (fun _ : World => True) (trivial) (first | (go_at_call 210; refine (HP.out.1 _ HP.out.2.1.drew).mono ?_; rintro e w1 ⟨rfl, h1, hk1⟩; have hkw : Kept [] w w1 := HP.out.2.2.drew.trans hk1 (fun x hx => .inr (by simp at hx; omega)); have H1 := Lib.hid (And.intro h1 hkw); clear h1 hkw hk1))
  all_goals
    have hend := wl_end q bs l (102 :: Lib.beBytes 4 v) w.heap.size _ 5 455 w w1 HE.out.1 HE.out.2 H1.out.2 H1.out.1 (by rw [putAt_takeN _ _ _ _ (by simp) (by simp [u8s, Lib.beBytes_length])]; rfl) (by simp [Lib.beBytes_length]) (by decide)
    have HW := Lib.hid hend; clear hend
    go_wp2_with fail
    refine HW.out.mono ?_
    rintro e w2 ⟨rfl, hend⟩
    have H2 := Lib.hid hend; clear hend
    go_wp2
    go_ret
    exact ⟨rfl, H2.out⟩
set_option maxHeartbeats 2000000 in
set_option maxRecDepth 100000 in
theorem wl_100 (v : Nat) (hv : v < 18446744073709551616) (q : Nat) (bs : List Nat) (l : List UInt8) (w : World) (hw : Wr TB w q bs l) (hl : l.length ≤ 800000000) :
    Calls Tryz.prog 213 #[.iface 111 (.pointer (some ⟨q, 0, none⟩)), .iface 138 (.float .f64 v)] w fun e w' => e = .returned .nilIface ∧ Wrote q bs l (100 :: Lib.beBytes 8 v) w w' := by
  have hbits := run_bits64 v
  have hm1 := method_wbuf
  have hm2 := nilAhead_wbuf
  have tn_bool := fun v w => tno_bool 138 v w (by decide)
  have tn_u8 := fun v w => tno_u8 138 v w (by decide)
  have tn_i8 := fun v w => tno_i8 138 v w (by decide)
  have tn_i16 := fun v w => tno_i16 138 v w (by decide)
  have tn_int := fun v w => tno_int 138 v w (by decide)
  have tn_i32 := fun v w => tno_i32 138 v w (by decide)
  have tn_i64 := fun v w => tno_i64 138 v w (by decide)
  have tn_u16 := fun v w => tno_u16 138 v w (by decide)
  have tn_u32 := fun v w => tno_u32 138 v w (by decide)
  have tn_f32 := fun v w => tno_f32 138 v w (by decide)
  have ty_f64 := tyes_f64
  obtain ⟨wa, hwa⟩ : ∃ wa, wa = (w.alloc (.cells #[.int .u8 100, .int .u8 0, .int .u8 0, .int .u8 0, .int .u8 0, .int .u8 0, .int .u8 0, .int .u8 0, .int .u8 0] 455)) := ⟨_, rfl⟩
  have hba : Blk wa w.heap.size [.int .u8 100, .int .u8 0, .int .u8 0, .int .u8 0, .int .u8 0, .int .u8 0, .int .u8 0, .int .u8 0, .int .u8 0].toArray 455 := by rw [hwa]; exact Blk.new w _ _
  have hka : Kept [] w wa := by rw [hwa]; exact (Kept.refl [] w).alloc _
  have hkd : Kept [] w wa.drew := hka.drew
  have hput := fun W (hb : Blk W w.heap.size [.int .u8 100, .int .u8 0, .int .u8 0, .int .u8 0, .int .u8 0, .int .u8 0, .int .u8 0, .int .u8 0, .int .u8 0].toArray 455) => put64_any w.heap.size 1 8 8 v [.int .u8 100, .int .u8 0, .int .u8 0, .int .u8 0, .int .u8 0, .int .u8 0, .int .u8 0, .int .u8 0, .int .u8 0] 455 W hb (by omega) (by omega) (by simp) hv
  have HP := Lib.hid (And.intro hput (And.intro hba hka))
  have HE := Lib.hid (And.intro hw hl); have HA := Lib.hid hwa; clear hw hl hwa hput hba hka hkd
  go_enter Tryz.func213, Tryz.ntmps213
  go_upto_region 61 with fail
  rw [← HA.out]
  go_region_held3 (fun _ : World => True) (trivial) (first | (go_at_call 211; refine (HP.out.1 _ HP.out.2.1.drew).mono ?_; rintro e w1 ⟨rfl, h1, hk1⟩; have hkw : Kept [] w w1 := HP.out.2.2.drew.trans hk1 (fun x hx => .inr (by simp at hx; omega)); have H1 := Lib.hid (And.intro h1 hkw); clear h1 hkw hk1))
  all_goals
    have hend := wl_end q bs l (100 :: Lib.beBytes 8 v) w.heap.size _ 9 455 w w1 HE.out.1 HE.out.2 H1.out.2 H1.out.1 (by rw [putAt_takeN _ _ _ _ (by simp) (by simp [u8s, Lib.beBytes_length])]; rfl) (by simp [Lib.beBytes_length]) (by decide)
    have HW := Lib.hid hend; clear hend
    go_wp2_with fail
    refine HW.out.mono ?_
    rintro e w2 ⟨rfl, hend⟩
    have H2 := Lib.hid hend; clear hend
    go_wp2
    go_ret
    exact ⟨rfl, H2.out⟩
set_option maxHeartbeats 2000000 in
set_option maxRecDepth 100000 in
theorem wl_68 (n : Int) (sc : UInt8) (v : Nat) (hv : v < 4294967296) (hn : IntKind.u32.wrap n = (v : Int)) (q : Nat) (bs : List Nat) (l : List UInt8) (w : World) (hw : Wr TB w q bs l) (hl : l.length ≤ 800000000) :
    Calls Tryz.prog 213 #[.iface 111 (.pointer (some ⟨q, 0, none⟩)), .iface 191 (.agg #[.int .u8 (sc.toNat : Int), .int .i32 n])] w fun e w' => e = .returned .nilIface ∧ Wrote q bs l (68 :: sc :: Lib.beBytes 4 v) w w' := by
  have hm1 := method_wbuf
  have hm2 := nilAhead_wbuf
  have tn_bool := fun v w => tno_bool 191 v w (by decide)
  have tn_u8 := fun v w => tno_u8 191 v w (by decide)
  have tn_i8 := fun v w => tno_i8 191 v w (by decide)
  have tn_i16 := fun v w => tno_i16 191 v w (by decide)
  have tn_int := fun v w => tno_int 191 v w (by decide)
  have tn_i32 := fun v w => tno_i32 191 v w (by decide)
  have tn_i64 := fun v w => tno_i64 191 v w (by decide)
  have tn_u16 := fun v w => tno_u16 191 v w (by decide)
  have tn_u32 := fun v w => tno_u32 191 v w (by decide)
  have tn_f32 := fun v w => tno_f32 191 v w (by decide)
  have tn_f64 := fun v w => tno_f64 191 v w (by decide)
  have ty_dec := tyes_dec
  obtain ⟨wa, hwa⟩ : ∃ wa, wa = (w.alloc (.cells #[.int .u8 68, .int .u8 (sc.toNat : Int), .int .u8 0, .int .u8 0, .int .u8 0, .int .u8 0, .int .u8 0, .int .u8 0, .int .u8 0] 455)).alloc (.cells #[.int .u8 (sc.toNat : Int), .int .i32 n] 191) := ⟨_, rfl⟩
  have hba : Blk wa w.heap.size [.int .u8 68, .int .u8 (sc.toNat : Int), .int .u8 0, .int .u8 0, .int .u8 0, .int .u8 0, .int .u8 0, .int .u8 0, .int .u8 0].toArray 455 := by rw [hwa]; exact (Blk.new w _ _).alloc _
  have hka : Kept [] w wa := by rw [hwa]; exact ((Kept.refl [] w).alloc _).alloc _
  have htb : Blk wa (w.heap.size + 1) #[.int .u8 (sc.toNat : Int), .int .i32 n] 191 := by rw [hwa]; exact Blk.new_at (by simp)
  have hcell : wa.drew.cell? ⟨w.heap.size + 1, 1, none⟩ = some (.int .i32 n) := htb.drew.cell 1
  have HC := Lib.hid hcell; have HTB := Lib.hid htb.drew; clear hcell htb
  have hkd : Kept [] w wa.drew := hka.drew
  have hput := fun W (hb : Blk W w.heap.size [.int .u8 68, .int .u8 (sc.toNat : Int), .int .u8 0, .int .u8 0, .int .u8 0, .int .u8 0, .int .u8 0, .int .u8 0, .int .u8 0].toArray 455) => put32_any w.heap.size 2 4 7 v [.int .u8 68, .int .u8 (sc.toNat : Int), .int .u8 0, .int .u8 0, .int .u8 0, .int .u8 0, .int .u8 0, .int .u8 0, .int .u8 0] 455 W hb (by omega) (by simp) hv
  have HP := Lib.hid (And.intro hput (And.intro hba hka))
  have HE := Lib.hid (And.intro hw hl); have HA := Lib.hid hwa; clear hw hl hwa hput hba hka hkd
  go_enter Tryz.func213, Tryz.ntmps213
  go_upto_region 67 with fail
  rw [← HA.out]
  go_region_held3 (fun w' : World => w'.cell? ⟨w.heap.size + 1, 1, none⟩ = some (.int .i32 n)) (first | with_reducible exact HC.out | with_reducible exact HT1.out) (first | (go_at_call 210; refine (HP.out.1 _ HP.out.2.1.drew).mono ?_; rintro e w1 ⟨rfl, h1, hk1⟩; have hkw : Kept [] w w1 := HP.out.2.2.drew.trans hk1 (fun x hx => .inr (by simp at hx; omega)); have hc1 : w1.cell? ⟨w.heap.size + 1, 1, none⟩ = some (.int .i32 n) := (HTB.out.kept hk1 (by simp)).cell 1; have HT1 := Lib.hid hc1; have H1 := Lib.hid (And.intro h1 hkw); clear h1 hkw hk1 hc1))
  all_goals
    have hend := wl_end q bs l (68 :: sc :: Lib.beBytes 4 v) w.heap.size _ 6 455 w w1 HE.out.1 HE.out.2 H1.out.2 H1.out.1 (by rw [putAt_takeN _ _ _ _ (by simp) (by simp [u8s, Lib.beBytes_length])]; rfl) (by simp [Lib.beBytes_length]) (by decide)
    have HW := Lib.hid hend; clear hend
    go_wp2_with fail
    refine HW.out.mono ?_
    rintro e w2 ⟨rfl, hend⟩
    have H2 := Lib.hid hend; clear hend
    go_wp2
    go_ret
    exact ⟨rfl, H2.out⟩
set_option maxHeartbeats 2000000 in
set_option maxRecDepth 100000 in
theorem wl_84 (n e : Int) (v : Nat) (hv : v < 18446744073709551616) (hn : IntKind.u64.wrap n = (v : Int)) (hun : ∀ W, Calls Tryz.prog 70 #[.agg #[.int .u64 0, .int .i64 e, .pointer none]] W fun e w' => e = .returned (.int .i64 n) ∧ Kept [] W w') (q : Nat) (bs : List Nat) (l : List UInt8) (w : World) (hw : Wr TB w q bs l) (hl : l.length ≤ 800000000) :
    Calls Tryz.prog 213 #[.iface 111 (.pointer (some ⟨q, 0, none⟩)), .iface 99 (.agg #[.int .u64 0, .int .i64 e, .pointer none])] w fun e w' => e = .returned .nilIface ∧ Wrote q bs l (84 :: Lib.beBytes 8 v) w w' := by
  have hm1 := method_wbuf
  have hm2 := nilAhead_wbuf
  have tn_bool := fun v w => tno_bool 99 v w (by decide)
  have tn_u8 := fun v w => tno_u8 99 v w (by decide)
  have tn_i8 := fun v w => tno_i8 99 v w (by decide)
  have tn_i16 := fun v w => tno_i16 99 v w (by decide)
  have tn_int := fun v w => tno_int 99 v w (by decide)
  have tn_i32 := fun v w => tno_i32 99 v w (by decide)
  have tn_i64 := fun v w => tno_i64 99 v w (by decide)
  have tn_u16 := fun v w => tno_u16 99 v w (by decide)
  have tn_u32 := fun v w => tno_u32 99 v w (by decide)
  have tn_f32 := fun v w => tno_f32 99 v w (by decide)
  have tn_f64 := fun v w => tno_f64 99 v w (by decide)
  have tn_dec := fun v w => tno_dec 99 v w (by decide)
  have tn_str := fun v w => tno_str 99 v w (by decide)
  have tn_arr := fun v w => tno_arr 99 v w (by decide)
  have ty_tim := tyes_tim
  obtain ⟨wa, hwa⟩ : ∃ wa, wa = (w.alloc (.cells #[.int .u8 84, .int .u8 0, .int .u8 0, .int .u8 0, .int .u8 0, .int .u8 0, .int .u8 0, .int .u8 0, .int .u8 0] 455)).alloc (.cells #[.int .u64 0, .int .i64 e, .pointer none] 99) := ⟨_, rfl⟩
  have hba : Blk wa w.heap.size [.int .u8 84, .int .u8 0, .int .u8 0, .int .u8 0, .int .u8 0, .int .u8 0, .int .u8 0, .int .u8 0, .int .u8 0].toArray 455 := by rw [hwa]; exact (Blk.new w _ _).alloc _
  have hka : Kept [] w wa := by rw [hwa]; exact ((Kept.refl [] w).alloc _).alloc _
  have htb : Blk wa (w.heap.size + 1) #[.int .u64 0, .int .i64 e, .pointer none] 99 := by rw [hwa]; exact Blk.new_at (by simp)
  have hcell := cells3 htb.drew
  have HC := Lib.hid hcell; have HUN := Lib.hid hun; have HTB := Lib.hid (htb.drew); clear hcell hun htb
  have hkd : Kept [] w wa.drew := hka.drew
  have hput := fun W (hb : Blk W w.heap.size [.int .u8 84, .int .u8 0, .int .u8 0, .int .u8 0, .int .u8 0, .int .u8 0, .int .u8 0, .int .u8 0, .int .u8 0].toArray 455) => put64_any w.heap.size 1 8 8 v [.int .u8 84, .int .u8 0, .int .u8 0, .int .u8 0, .int .u8 0, .int .u8 0, .int .u8 0, .int .u8 0, .int .u8 0] 455 W hb (by omega) (by omega) (by simp) hv
  have HP := Lib.hid (And.intro hput (And.intro hba hka))
  have HE := Lib.hid (And.intro hw hl); have HA := Lib.hid hwa; clear hw hl hwa hput hba hka hkd
  go_enter Tryz.func213, Tryz.ntmps213
  go_upto_region 92 with fail
  rw [← HA.out]
  go_region_held3 (fun w' : World => w'.cell? ⟨w.heap.size + 1, 0, none⟩ = some (.int .u64 0) ∧ w'.cell? ⟨w.heap.size + 1, 1, none⟩ = some (.int .i64 e) ∧ w'.cell? ⟨w.heap.size + 1, 2, none⟩ = some (.pointer none)) (first | with_reducible exact HC.out | with_reducible exact HT0.out | with_reducible exact HT1.out) (first | (go_at_call 70; refine (HUN.out _).mono ?_; rintro e w0 ⟨rfl, hk0⟩; have hc0 := cells3 (HTB.out.kept hk0 (by simp)); have HT0 := Lib.hid hc0; clear hc0; have hb0 := HP.out.2.1.drew.kept hk0 (by simp); have H0 := Lib.hid (And.intro hk0 hb0); clear hk0 hb0) | (go_at_call 211; refine (HP.out.1 _ H0.out.2).mono ?_; rintro e w1 ⟨rfl, h1, hk1⟩; have hkw : Kept [] w w1 := (HP.out.2.2.drew.trans H0.out.1 (by simp)).trans hk1 (fun x hx => .inr (by simp at hx; omega)); have hc1 := cells3 ((HTB.out.kept H0.out.1 (by simp)).kept hk1 (by simp)); have HT1 := Lib.hid hc1; have H1 := Lib.hid (And.intro h1 hkw); clear h1 hkw hk1 hc1))
  all_goals
    have hend := wl_end q bs l (84 :: Lib.beBytes 8 v) w.heap.size _ 9 455 w w1 HE.out.1 HE.out.2 H1.out.2 H1.out.1 (by rw [putAt_takeN _ _ _ _ (by simp) (by simp [u8s, Lib.beBytes_length])]; rfl) (by simp [Lib.beBytes_length]) (by decide)
    have HW := Lib.hid hend; clear hend
    go_wp2_with fail
    refine HW.out.mono ?_
    rintro e w2 ⟨rfl, hend⟩
    have H2 := Lib.hid hend; clear hend
    go_wp2
    go_ret
    exact ⟨rfl, H2.out⟩
set_option maxHeartbeats 2000000 in
set_option maxRecDepth 100000 in
theorem wl_83 (s : List UInt8) (hs : s.length ≤ 1000000) (q : Nat) (bs : List Nat) (l : List UInt8) (w : World) (hw : Wr TB w q bs l) (hl : l.length ≤ 800000000) :
    Calls Tryz.prog 213 #[.iface 111 (.pointer (some ⟨q, 0, none⟩)), .iface 9 (.string (bstr s))] w fun e w' => e = .returned .nilIface ∧ Wrote q bs l (83 :: (Lib.beBytes 4 s.length ++ s)) w w' := by
  have hm1 := method_wbuf
  have hm2 := nilAhead_wbuf
  have tn_bool := fun v w => tno_bool 9 v w (by decide)
  have tn_u8 := fun v w => tno_u8 9 v w (by decide)
  have tn_i8 := fun v w => tno_i8 9 v w (by decide)
  have tn_i16 := fun v w => tno_i16 9 v w (by decide)
  have tn_int := fun v w => tno_int 9 v w (by decide)
  have tn_i32 := fun v w => tno_i32 9 v w (by decide)
  have tn_i64 := fun v w => tno_i64 9 v w (by decide)
  have tn_u16 := fun v w => tno_u16 9 v w (by decide)
  have tn_u32 := fun v w => tno_u32 9 v w (by decide)
  have tn_f32 := fun v w => tno_f32 9 v w (by decide)
  have tn_f64 := fun v w => tno_f64 9 v w (by decide)
  have tn_dec := fun v w => tno_dec 9 v w (by decide)
  have ty_str := tyes_str
  have e0 : (s.length : Int) % 4294967296 = s.length := by omega
  obtain ⟨wa, hwa⟩ : ∃ wa, wa = w.alloc (.cells #[.int .u8 83, .int .u8 0, .int .u8 0, .int .u8 0, .int .u8 0, .int .u8 0, .int .u8 0, .int .u8 0, .int .u8 0] 455) := ⟨_, rfl⟩
  have hba : Blk wa w.heap.size [.int .u8 83, .int .u8 0, .int .u8 0, .int .u8 0, .int .u8 0, .int .u8 0, .int .u8 0, .int .u8 0, .int .u8 0].toArray 455 := by rw [hwa]; exact Blk.new w _ _
  have hka : Kept [] w wa := by rw [hwa]; exact (Kept.refl [] w).alloc _
  have hput := put32_any w.heap.size 1 4 8 s.length _ 455 wa hba (by omega) (by decide) (by omega)
  have HP := Lib.hid (And.intro hput (And.intro hba hka))
  have HE := Lib.hid (And.intro hw (And.intro hl hs)); have HA := Lib.hid hwa; clear hw hl hs hwa hput hba hka
  go_enter Tryz.func213, Tryz.ntmps213
  go_upto_region 72 with fail
  rw [← HA.out]
  go_upto_region 111 with (first
    | (go_at_call 210; refine HP.out.1.mono ?_; rintro e w1 ⟨rfl, h1, hk1⟩; have hkw : Kept [] w w1 := HP.out.2.2.trans hk1 (fun x hx => .inr (by simp at hx; omega)); have H1 := Lib.hid (And.intro h1 hkw); clear h1 hkw hk1)
    | (refine wpList_conv_bytes2 rfl 9 22 5 _ rfl Tryz.underlying9 Tryz.underlying22 Tryz.underlying5 s rfl ?_; intro cap w2 hcap hlb hlt hk2; have H2 := Lib.hid (And.intro (hlb.src cap) (And.intro (H1.out.1.kept hk2 (by simp)) (And.intro (H1.out.2.trans hk2 (by simp)) H1.out.1.lt))); clear hlb hlt hk2)
    | (at_builtin; refine wpList_append_arr rfl (.tmp 147) (.tmp 149) 22 22 rfl Tryz.underlying22 Tryz.underlying22 w.heap.size 5 _ 455 H2.out.2.1 (by rw [putAt_len _ _ _ (by simp [u8s, Lib.beBytes_length])]; rfl) (by decide) (83 :: Lib.beBytes 4 s.length) s (by rw [putAt_takeN _ _ _ _ (by decide) (by simp [u8s, Lib.beBytes_length])]; rfl) (by simp [Lib.beBytes_length]) rfl _ rfl _ H2.out.1 _ rfl (by have := HE.out.2.2; omega) ?_; intro d3 c3 ao3 w3 g1 g2 g3; have H3 := Lib.hid (And.intro g1 (And.intro g2 (H2.out.2.2.1.trans g3 (fun x hx => .inr (by simp at hx; omega))))); clear g1 g2 g3))
  have hlen : (83 :: Lib.beBytes 4 s.length ++ s).length = 5 + s.length := by simp [Lib.beBytes_length]; omega
  have hwr := write_any q bs _ d3 l (83 :: Lib.beBytes 4 s.length ++ s) w3 (HE.out.1.kept H3.out.2.2 (by simp) (by simp)) H3.out.1 ⟨ao3, c3, by rw [hlen]⟩ (by have h1 := HE.out.2.1; have h2 := HE.out.2.2; omega)
  have HW := Lib.hid hwr; clear hwr hlen
  go_wp2_with fail
  refine HW.out.mono ?_
  rintro e w4 ⟨rfl, bs4, h4, k4⟩
  have H4 := Lib.hid (And.intro h4 k4); clear h4 k4
  go_wp2
  go_ret
  exact ⟨rfl, bs4, by rw [← List.cons_append]; exact H4.out.1, H4.out.2.kept_l H3.out.2.2⟩
set_option maxHeartbeats 2000000 in
set_option maxRecDepth 100000 in
theorem wl_120 (q : Nat) (bs : List Nat) (l : List UInt8) (w : World) (hw : Wr TB w q bs l) (hl : l.length ≤ 800000000) (s : List UInt8) (ao : Option Addr) (c d : Nat) (hs : s.length ≤ 1000000) (hsrc : Src w (.slice ao s.length c) d s) (hdq : d ∉ q :: bs) (hdw : s ≠ [] → d < w.heap.size) :
    Calls Tryz.prog 213 #[.iface 111 (.pointer (some ⟨q, 0, none⟩)), .iface 22 (.slice ao s.length c)] w fun e w' => e = .returned .nilIface ∧ Wrote q bs l (120 :: (Lib.beBytes 4 s.length ++ s)) w w' := by
  have hm1 := method_wbuf
  have hm2 := nilAhead_wbuf
  have tn_bool := fun v w => tno_bool 22 v w (by decide)
  have tn_u8 := fun v w => tno_u8 22 v w (by decide)
  have tn_i8 := fun v w => tno_i8 22 v w (by decide)
  have tn_i16 := fun v w => tno_i16 22 v w (by decide)
  have tn_int := fun v w => tno_int 22 v w (by decide)
  have tn_i32 := fun v w => tno_i32 22 v w (by decide)
  have tn_i64 := fun v w => tno_i64 22 v w (by decide)
  have tn_u16 := fun v w => tno_u16 22 v w (by decide)
  have tn_u32 := fun v w => tno_u32 22 v w (by decide)
  have tn_f32 := fun v w => tno_f32 22 v w (by decide)
  have tn_f64 := fun v w => tno_f64 22 v w (by decide)
  have tn_dec := fun v w => tno_dec 22 v w (by decide)
  have tn_str := fun v w => tno_str 22 v w (by decide)
  have tn_arr := fun v w => tno_arr 22 v w (by decide)
  have tn_tim := fun v w => tno_tim 22 v w (by decide)
  have tn_tab := fun v w => tno_tab 22 v w (by decide)
  have ty_byt := tyes_byt
  have e0 : (s.length : Int) % 4294967296 = s.length := by omega
  obtain ⟨wa, hwa⟩ : ∃ wa, wa = w.alloc (.cells #[.int .u8 120, .int .u8 0, .int .u8 0, .int .u8 0, .int .u8 0, .int .u8 0, .int .u8 0, .int .u8 0, .int .u8 0] 455) := ⟨_, rfl⟩
  have hba : Blk wa w.heap.size [.int .u8 120, .int .u8 0, .int .u8 0, .int .u8 0, .int .u8 0, .int .u8 0, .int .u8 0, .int .u8 0, .int .u8 0].toArray 455 := by rw [hwa]; exact Blk.new w _ _
  have hka : Kept [] w wa := by rw [hwa]; exact (Kept.refl [] w).alloc _
  have hput := put32_any w.heap.size 1 4 8 s.length _ 455 wa hba (by omega) (by decide) (by omega)
  have HP := Lib.hid (And.intro hput (And.intro hba hka))
  have HE := Lib.hid (And.intro hw (And.intro hl (And.intro hs (And.intro hsrc (And.intro hdq hdw))))); have HA := Lib.hid hwa; clear hw hl hs hsrc hdq hdw hwa hput hba hka
  go_enter Tryz.func213, Tryz.ntmps213
  go_upto_region 102 with fail
  rw [← HA.out]
  go_upto_region 103 with (go_at_call 210; refine HP.out.1.mono ?_; rintro e w1 ⟨rfl, h1, hk1⟩; have hkw : Kept [] w w1 := HP.out.2.2.trans hk1 (fun x hx => .inr (by simp at hx; omega)); have H1 := Lib.hid (And.intro h1 hkw); clear h1 hkw hk1)
  have hend := wl_end q bs l (120 :: Lib.beBytes 4 s.length) w.heap.size _ 5 455 w w1.drew HE.out.1 HE.out.2.1 H1.out.2.drew H1.out.1.drew (by rw [putAt_takeN _ _ _ _ (by decide) (by simp [u8s, Lib.beBytes_length])]; rfl) (by simp [Lib.beBytes_length]) (by decide)
  have HW := Lib.hid hend; clear hend
  go_region_held3 (fun _ : World => True) (trivial) (first | (go_at_call 238; refine HW.out.mono ?_; rintro e w2 ⟨rfl, bs2, h2, k2⟩; have H2 := Lib.hid (And.intro h2 k2); clear h2 k2))
  all_goals
    have hlt : w.heap.size < w1.heap.size := H1.out.1.lt
    have hwr := write_any q bs2 _ d _ s w2 H2.out.1 (HE.out.2.2.2.1.kept H2.out.2.kept HE.out.2.2.2.2.1) ⟨ao, c, rfl⟩ (by have h1 := HE.out.2.1; have h2 := HE.out.2.2.1; simp [Lib.beBytes_length]; omega)
    have HW2 := Lib.hid hwr; clear hwr hlt
    go_wp2_with fail
    refine HW2.out.mono ?_
    rintro e w4 ⟨rfl, bs4, h4, k4⟩
    have H4 := Lib.hid (And.intro h4 k4); clear h4 k4
    go_wp2
    go_ret
    exact ⟨rfl, bs4, by rw [← List.cons_append, ← List.append_assoc]; exact H4.out.1, H2.out.2.trans H4.out.2⟩
end Go.Proofs.YtkcdakohmfodjaaGreat
