/-
  Lemmas on the way to the statement of YtkcdakohmfodjaaGreatHeader, joined out of these texts: Told. No condition.
-/
import Derived.Test.YtkcdakohmfodjaaGreatNConvV
import Derived.Test.YtkcdakohmfodjaaGreatNHpW
namespace Go.Proofs.YtkcdakohmfodjaaGreat
open Go.RowKit
set_option linter.unusedVariables false
set_option linter.unusedSimpArgs false
theorem any_nil (u : TypeId) (v : Value) (w : World) : (binOp .eql 20 (.iface u v) .nilIface).run Tryz.prog w = .ok (.bool false) w := by kernel_rfl
theorem nil_nil (w : World) : (binOp .eql 20 .nilIface .nilIface).run Tryz.prog w = .ok (.bool true) w := by kernel_rfl
theorem tno_bool (u : TypeId) (v : Value) (w : World) (h : u ≠ 4) : (Instr.typeAssert (.iface u v) 20 4 true).run Tryz.prog w = .ok (.tuple #[.bool false, .bool false]) w := by
  have e : (Instr.typeAssert (.iface u v) 20 4 true).run Tryz.prog w = (if u = 4 then (pure (Value.tuple #[v, .bool true]) : Sem Value) else (do pure (Value.tuple #[← zeroValue 4, .bool false]))).run Tryz.prog w := by kernel_rfl
  have z : (do pure (Value.tuple #[← zeroValue 4, .bool false]) : Sem Value).run Tryz.prog w = .ok (.tuple #[.bool false, .bool false]) w := by kernel_rfl
  rw [e, if_neg h]
  exact z
theorem tyes_bool (v : Value) (w : World) : (Instr.typeAssert (.iface 4 v) 20 4 true).run Tryz.prog w = .ok (.tuple #[v, .bool true]) w := by kernel_rfl
theorem tno_i8 (u : TypeId) (v : Value) (w : World) (h : u ≠ 188) : (Instr.typeAssert (.iface u v) 20 188 true).run Tryz.prog w = .ok (.tuple #[.int .i8 0, .bool false]) w := by
  have e : (Instr.typeAssert (.iface u v) 20 188 true).run Tryz.prog w = (if u = 188 then (pure (Value.tuple #[v, .bool true]) : Sem Value) else (do pure (Value.tuple #[← zeroValue 188, .bool false]))).run Tryz.prog w := by kernel_rfl
  have z : (do pure (Value.tuple #[← zeroValue 188, .bool false]) : Sem Value).run Tryz.prog w = .ok (.tuple #[.int .i8 0, .bool false]) w := by kernel_rfl
  rw [e, if_neg h]
  exact z
theorem tyes_i8 (v : Value) (w : World) : (Instr.typeAssert (.iface 188 v) 20 188 true).run Tryz.prog w = .ok (.tuple #[v, .bool true]) w := by kernel_rfl
theorem tno_u8 (u : TypeId) (v : Value) (w : World) (h : u ≠ 5) : (Instr.typeAssert (.iface u v) 20 5 true).run Tryz.prog w = .ok (.tuple #[.int .u8 0, .bool false]) w := by
  have e : (Instr.typeAssert (.iface u v) 20 5 true).run Tryz.prog w = (if u = 5 then (pure (Value.tuple #[v, .bool true]) : Sem Value) else (do pure (Value.tuple #[← zeroValue 5, .bool false]))).run Tryz.prog w := by kernel_rfl
  have z : (do pure (Value.tuple #[← zeroValue 5, .bool false]) : Sem Value).run Tryz.prog w = .ok (.tuple #[.int .u8 0, .bool false]) w := by kernel_rfl
  rw [e, if_neg h]
  exact z
theorem tyes_u8 (v : Value) (w : World) : (Instr.typeAssert (.iface 5 v) 20 5 true).run Tryz.prog w = .ok (.tuple #[v, .bool true]) w := by kernel_rfl
theorem tno_i16 (u : TypeId) (v : Value) (w : World) (h : u ≠ 189) : (Instr.typeAssert (.iface u v) 20 189 true).run Tryz.prog w = .ok (.tuple #[.int .i16 0, .bool false]) w := by
  have e : (Instr.typeAssert (.iface u v) 20 189 true).run Tryz.prog w = (if u = 189 then (pure (Value.tuple #[v, .bool true]) : Sem Value) else (do pure (Value.tuple #[← zeroValue 189, .bool false]))).run Tryz.prog w := by kernel_rfl
  have z : (do pure (Value.tuple #[← zeroValue 189, .bool false]) : Sem Value).run Tryz.prog w = .ok (.tuple #[.int .i16 0, .bool false]) w := by kernel_rfl
  rw [e, if_neg h]
  exact z
theorem tyes_i16 (v : Value) (w : World) : (Instr.typeAssert (.iface 189 v) 20 189 true).run Tryz.prog w = .ok (.tuple #[v, .bool true]) w := by kernel_rfl
theorem tno_u16 (u : TypeId) (v : Value) (w : World) (h : u ≠ 84) : (Instr.typeAssert (.iface u v) 20 84 true).run Tryz.prog w = .ok (.tuple #[.int .u16 0, .bool false]) w := by
  have e : (Instr.typeAssert (.iface u v) 20 84 true).run Tryz.prog w = (if u = 84 then (pure (Value.tuple #[v, .bool true]) : Sem Value) else (do pure (Value.tuple #[← zeroValue 84, .bool false]))).run Tryz.prog w := by kernel_rfl
  have z : (do pure (Value.tuple #[← zeroValue 84, .bool false]) : Sem Value).run Tryz.prog w = .ok (.tuple #[.int .u16 0, .bool false]) w := by kernel_rfl
  rw [e, if_neg h]
  exact z
theorem tyes_u16 (v : Value) (w : World) : (Instr.typeAssert (.iface 84 v) 20 84 true).run Tryz.prog w = .ok (.tuple #[v, .bool true]) w := by kernel_rfl
theorem tno_i32 (u : TypeId) (v : Value) (w : World) (h : u ≠ 21) : (Instr.typeAssert (.iface u v) 20 21 true).run Tryz.prog w = .ok (.tuple #[.int .i32 0, .bool false]) w := by
  have e : (Instr.typeAssert (.iface u v) 20 21 true).run Tryz.prog w = (if u = 21 then (pure (Value.tuple #[v, .bool true]) : Sem Value) else (do pure (Value.tuple #[← zeroValue 21, .bool false]))).run Tryz.prog w := by kernel_rfl
  have z : (do pure (Value.tuple #[← zeroValue 21, .bool false]) : Sem Value).run Tryz.prog w = .ok (.tuple #[.int .i32 0, .bool false]) w := by kernel_rfl
  rw [e, if_neg h]
  exact z
theorem tyes_i32 (v : Value) (w : World) : (Instr.typeAssert (.iface 21 v) 20 21 true).run Tryz.prog w = .ok (.tuple #[v, .bool true]) w := by kernel_rfl
theorem tno_u32 (u : TypeId) (v : Value) (w : World) (h : u ≠ 70) : (Instr.typeAssert (.iface u v) 20 70 true).run Tryz.prog w = .ok (.tuple #[.int .u32 0, .bool false]) w := by
  have e : (Instr.typeAssert (.iface u v) 20 70 true).run Tryz.prog w = (if u = 70 then (pure (Value.tuple #[v, .bool true]) : Sem Value) else (do pure (Value.tuple #[← zeroValue 70, .bool false]))).run Tryz.prog w := by kernel_rfl
  have z : (do pure (Value.tuple #[← zeroValue 70, .bool false]) : Sem Value).run Tryz.prog w = .ok (.tuple #[.int .u32 0, .bool false]) w := by kernel_rfl
  rw [e, if_neg h]
  exact z
theorem tyes_u32 (v : Value) (w : World) : (Instr.typeAssert (.iface 70 v) 20 70 true).run Tryz.prog w = .ok (.tuple #[v, .bool true]) w := by kernel_rfl
theorem tno_i64 (u : TypeId) (v : Value) (w : World) (h : u ≠ 2) : (Instr.typeAssert (.iface u v) 20 2 true).run Tryz.prog w = .ok (.tuple #[.int .i64 0, .bool false]) w := by
  have e : (Instr.typeAssert (.iface u v) 20 2 true).run Tryz.prog w = (if u = 2 then (pure (Value.tuple #[v, .bool true]) : Sem Value) else (do pure (Value.tuple #[← zeroValue 2, .bool false]))).run Tryz.prog w := by kernel_rfl
  have z : (do pure (Value.tuple #[← zeroValue 2, .bool false]) : Sem Value).run Tryz.prog w = .ok (.tuple #[.int .i64 0, .bool false]) w := by kernel_rfl
  rw [e, if_neg h]
  exact z
theorem tyes_i64 (v : Value) (w : World) : (Instr.typeAssert (.iface 2 v) 20 2 true).run Tryz.prog w = .ok (.tuple #[v, .bool true]) w := by kernel_rfl
theorem tno_f32 (u : TypeId) (v : Value) (w : World) (h : u ≠ 178) : (Instr.typeAssert (.iface u v) 20 178 true).run Tryz.prog w = .ok (.tuple #[.float .f32 0, .bool false]) w := by
  have e : (Instr.typeAssert (.iface u v) 20 178 true).run Tryz.prog w = (if u = 178 then (pure (Value.tuple #[v, .bool true]) : Sem Value) else (do pure (Value.tuple #[← zeroValue 178, .bool false]))).run Tryz.prog w := by kernel_rfl
  have z : (do pure (Value.tuple #[← zeroValue 178, .bool false]) : Sem Value).run Tryz.prog w = .ok (.tuple #[.float .f32 0, .bool false]) w := by kernel_rfl
  rw [e, if_neg h]
  exact z
theorem tyes_f32 (v : Value) (w : World) : (Instr.typeAssert (.iface 178 v) 20 178 true).run Tryz.prog w = .ok (.tuple #[v, .bool true]) w := by kernel_rfl
theorem tno_f64 (u : TypeId) (v : Value) (w : World) (h : u ≠ 138) : (Instr.typeAssert (.iface u v) 20 138 true).run Tryz.prog w = .ok (.tuple #[.float .f64 0, .bool false]) w := by
  have e : (Instr.typeAssert (.iface u v) 20 138 true).run Tryz.prog w = (if u = 138 then (pure (Value.tuple #[v, .bool true]) : Sem Value) else (do pure (Value.tuple #[← zeroValue 138, .bool false]))).run Tryz.prog w := by kernel_rfl
  have z : (do pure (Value.tuple #[← zeroValue 138, .bool false]) : Sem Value).run Tryz.prog w = .ok (.tuple #[.float .f64 0, .bool false]) w := by kernel_rfl
  rw [e, if_neg h]
  exact z
theorem tyes_f64 (v : Value) (w : World) : (Instr.typeAssert (.iface 138 v) 20 138 true).run Tryz.prog w = .ok (.tuple #[v, .bool true]) w := by kernel_rfl
theorem tno_dec (u : TypeId) (v : Value) (w : World) (h : u ≠ 191) : (Instr.typeAssert (.iface u v) 20 191 true).run Tryz.prog w = .ok (.tuple #[.agg #[.int .u8 0, .int .i32 0], .bool false]) w := by
  have e : (Instr.typeAssert (.iface u v) 20 191 true).run Tryz.prog w = (if u = 191 then (pure (Value.tuple #[v, .bool true]) : Sem Value) else (do pure (Value.tuple #[← zeroValue 191, .bool false]))).run Tryz.prog w := by kernel_rfl
  have z : (do pure (Value.tuple #[← zeroValue 191, .bool false]) : Sem Value).run Tryz.prog w = .ok (.tuple #[.agg #[.int .u8 0, .int .i32 0], .bool false]) w := by kernel_rfl
  rw [e, if_neg h]
  exact z
theorem tyes_dec (v : Value) (w : World) : (Instr.typeAssert (.iface 191 v) 20 191 true).run Tryz.prog w = .ok (.tuple #[v, .bool true]) w := by kernel_rfl
theorem tno_str (u : TypeId) (v : Value) (w : World) (h : u ≠ 9) : (Instr.typeAssert (.iface u v) 20 9 true).run Tryz.prog w = .ok (.tuple #[.string ⟨#[]⟩, .bool false]) w := by
  have e : (Instr.typeAssert (.iface u v) 20 9 true).run Tryz.prog w = (if u = 9 then (pure (Value.tuple #[v, .bool true]) : Sem Value) else (do pure (Value.tuple #[← zeroValue 9, .bool false]))).run Tryz.prog w := by kernel_rfl
  have z : (do pure (Value.tuple #[← zeroValue 9, .bool false]) : Sem Value).run Tryz.prog w = .ok (.tuple #[.string ⟨#[]⟩, .bool false]) w := by kernel_rfl
  rw [e, if_neg h]
  exact z
theorem tyes_str (v : Value) (w : World) : (Instr.typeAssert (.iface 9 v) 20 9 true).run Tryz.prog w = .ok (.tuple #[v, .bool true]) w := by kernel_rfl
theorem tno_byt (u : TypeId) (v : Value) (w : World) (h : u ≠ 22) : (Instr.typeAssert (.iface u v) 20 22 true).run Tryz.prog w = .ok (.tuple #[.slice none 0 0, .bool false]) w := by
  have e : (Instr.typeAssert (.iface u v) 20 22 true).run Tryz.prog w = (if u = 22 then (pure (Value.tuple #[v, .bool true]) : Sem Value) else (do pure (Value.tuple #[← zeroValue 22, .bool false]))).run Tryz.prog w := by kernel_rfl
  have z : (do pure (Value.tuple #[← zeroValue 22, .bool false]) : Sem Value).run Tryz.prog w = .ok (.tuple #[.slice none 0 0, .bool false]) w := by kernel_rfl
  rw [e, if_neg h]
  exact z
theorem tyes_byt (v : Value) (w : World) : (Instr.typeAssert (.iface 22 v) 20 22 true).run Tryz.prog w = .ok (.tuple #[v, .bool true]) w := by kernel_rfl
theorem tno_tim (u : TypeId) (v : Value) (w : World) (h : u ≠ 99) : (Instr.typeAssert (.iface u v) 20 99 true).run Tryz.prog w = .ok (.tuple #[.agg #[.int .u64 0, .int .i64 0, .pointer none], .bool false]) w := by
  have e : (Instr.typeAssert (.iface u v) 20 99 true).run Tryz.prog w = (if u = 99 then (pure (Value.tuple #[v, .bool true]) : Sem Value) else (do pure (Value.tuple #[← zeroValue 99, .bool false]))).run Tryz.prog w := by kernel_rfl
  have z : (do pure (Value.tuple #[← zeroValue 99, .bool false]) : Sem Value).run Tryz.prog w = .ok (.tuple #[.agg #[.int .u64 0, .int .i64 0, .pointer none], .bool false]) w := by kernel_rfl
  rw [e, if_neg h]
  exact z
theorem tyes_tim (v : Value) (w : World) : (Instr.typeAssert (.iface 99 v) 20 99 true).run Tryz.prog w = .ok (.tuple #[v, .bool true]) w := by kernel_rfl
theorem tno_arr (u : TypeId) (v : Value) (w : World) (h : u ≠ 192) : (Instr.typeAssert (.iface u v) 20 192 true).run Tryz.prog w = .ok (.tuple #[.slice none 0 0, .bool false]) w := by
  have e : (Instr.typeAssert (.iface u v) 20 192 true).run Tryz.prog w = (if u = 192 then (pure (Value.tuple #[v, .bool true]) : Sem Value) else (do pure (Value.tuple #[← zeroValue 192, .bool false]))).run Tryz.prog w := by kernel_rfl
  have z : (do pure (Value.tuple #[← zeroValue 192, .bool false]) : Sem Value).run Tryz.prog w = .ok (.tuple #[.slice none 0 0, .bool false]) w := by kernel_rfl
  rw [e, if_neg h]
  exact z
theorem tyes_arr (v : Value) (w : World) : (Instr.typeAssert (.iface 192 v) 20 192 true).run Tryz.prog w = .ok (.tuple #[v, .bool true]) w := by kernel_rfl
theorem tno_tab (u : TypeId) (v : Value) (w : World) (h : u ≠ 96) : (Instr.typeAssert (.iface u v) 20 96 true).run Tryz.prog w = .ok (.tuple #[.map none, .bool false]) w := by
  have e : (Instr.typeAssert (.iface u v) 20 96 true).run Tryz.prog w = (if u = 96 then (pure (Value.tuple #[v, .bool true]) : Sem Value) else (do pure (Value.tuple #[← zeroValue 96, .bool false]))).run Tryz.prog w := by kernel_rfl
  have z : (do pure (Value.tuple #[← zeroValue 96, .bool false]) : Sem Value).run Tryz.prog w = .ok (.tuple #[.map none, .bool false]) w := by kernel_rfl
  rw [e, if_neg h]
  exact z
theorem tyes_tab (v : Value) (w : World) : (Instr.typeAssert (.iface 96 v) 20 96 true).run Tryz.prog w = .ok (.tuple #[v, .bool true]) w := by kernel_rfl
theorem results_told {tmps : Array Value} {g : Nat} {cs : Array Value} {ok : Bool} {w : World} (h : tmps.getD 2 undef = .pointer (some ⟨g, 0, none⟩)) (h3 : tmps.getD 3 undef = .bool ok) (hg : Blk w g cs 151) (hs : cs.size = 7) :
    (results Tryz.f150 tmps).run Tryz.prog w = .ok (.tuple #[.agg cs, .bool ok]) w := by
  have hl := run_loadVar_row (P := Tryz.prog) w g 151 151 cs (0, 0) _ hg Tryz.underlying151 rfl (by rw [hs]; exact size_iVal)
  simp only [Array.getD_eq_getD_getElem?] at h h3
  simp [results, Tryz.results150, h, h3, asAddr, hl]
theorem run_f64 (f : Nat) (h : fracB f = true) (hf : f < 18446744073709551616) (w : World) : (convert 178 138 (.float .f32 (Flt.toS f))).run Tryz.prog w = .ok (.float .f64 f) w := by
  obtain ⟨h0, ⟨neg, m, p, hr⟩, ⟨neg', m', p', hr'⟩, _⟩ := (fracB_nice h).toSingle hf
  have hr1 : FloatKind.f32.decode (Flt.toS f) = .number neg' m' p' := hr'
  have e1 : FloatKind.f64.encode (.number neg' m' p') = f := by
    have : Flt.ofS (Flt.toS f) = f := h0
    unfold Flt.ofS at this; rw [hr'] at this; exact this
  have hr2 : FloatKind.f64.decode f = .number neg m p := hr
  simp [convert, run_underlying Tryz.underlying138, run_underlying Tryz.underlying178, Conv.floatToFloat, hr1, e1, hr2, Ieee.Datum.isInfinity]
set_option maxHeartbeats 400000 in
theorem sec_any (p : Nat) (a1 : Int) (v2 : Value) (w : World) (hp : Blk w p #[.int .u64 0, .int .i64 a1, v2] 99) :
    Calls Tryz.prog 163 #[.pointer (some ⟨p, 0, none⟩)] w fun e w' => e = .returned (.int .i64 a1) ∧ Kept [] w w' := by
  have c0 : w.cell? ⟨p, 0, none⟩ = some (.int .u64 0) := hp.cell 0
  have c1 : w.cell? ⟨p, 1, none⟩ = some (.int .i64 a1) := hp.cell 1
  have hb : bits .and .u64 0 9223372036854775808 = 0 := by decide
  go_enter Tryz.func163, Tryz.ntmps163
  go_wp2
  go_ret
  exact ⟨rfl, Kept.refl _ _⟩
set_option maxHeartbeats 400000 in
theorem unixSec_any (p : Nat) (n : Int) (h0 : 0 ≤ n) (h1 : n ≤ 4611686018427387904) (v2 : Value) (w : World) (hp : Blk w p #[.int .u64 0, .int .i64 (n + 62135596800), v2] 99) :
    Calls Tryz.prog 153 #[.pointer (some ⟨p, 0, none⟩)] w fun e w' => e = .returned (.int .i64 n) ∧ Kept [] w w' := by
  have hc := sec_any p (n + 62135596800) v2 w hp
  have HC := Lib.hid hc; clear hc hp
  have hw : IntKind.i64.wrap (n + 62135596800 + -62135596800) = n := by rw [IntKind.wrap_i64]; omega
  clear h0 h1
  generalize n + 62135596800 = m at HC hw
  go_enter Tryz.func153, Tryz.ntmps153
  go_wp2_with (go_at_call 163; refine HC.out.mono ?_; rintro e w1 ⟨rfl, hk⟩; have HK := Lib.hid hk; clear hk)
  go_ret
  exact ⟨rfl, HK.out⟩
set_option maxHeartbeats 400000 in
theorem tunix_any (n : Int) (h0 : 0 ≤ n) (h1 : n ≤ 4611686018427387904) (w : World) :
    Calls Tryz.prog 70 #[.agg #[.int .u64 0, .int .i64 (n + 62135596800), .pointer none]] w fun e w' => e = .returned (.int .i64 n) ∧ Kept [] w w' := by
  have hc := unixSec_any w.heap.size n h0 h1 (.pointer none) _ (Blk.new w _ _)
  have HC := Lib.hid hc; clear hc h0 h1
  generalize n + 62135596800 = m at HC ⊢
  go_enter Tryz.func70, Tryz.ntmps70
  go_wp2_with (go_at_call 153; refine HC.out.mono ?_; rintro e w1 ⟨rfl, hk⟩; have HK := Lib.hid hk; clear hk)
  go_ret
  exact ⟨rfl, ((Kept.refl [] w).alloc _).trans HK.out (by simp)⟩
set_option maxHeartbeats 1000000 in
set_option maxRecDepth 100000 in
theorem told_86  (w : World) : Calls Tryz.prog 150 #[.nilIface] w fun e w' => e = .returned (.tuple #[.agg #[.int .u8 86, .int .i64 0, .float .f64 0, .int .i64 0, .string ⟨#[]⟩, .slice none 0 0, .slice none 0 0], .bool true]) ∧ Kept [] w w' := by
  have an := nil_nil
  go_enter Tryz.func150, Tryz.ntmps150
  go_wp2_with (first
    | (refine wpList_store_row (P := Tryz.prog) rfl rfl 151 (.tmp 2) (.tmp 31) rfl w.heap.size rfl 151 _ [.int .u8 86, .int .i64 0, .float .f64 0, .int .i64 0, .string ⟨#[]⟩, .slice none 0 0, .slice none 0 0] (Blk.new w _ _) rfl rfl (by simp [Value.oneCell']) size_iVal ?_; intro w5 hb5 hk5; have HB5 := Lib.hid (And.intro hb5 hk5); clear hb5 hk5))
  refine bodyPost_ret (v := .tuple #[.agg #[.int .u8 86, .int .i64 0, .float .f64 0, .int .i64 0, .string ⟨#[]⟩, .slice none 0 0, .slice none 0 0], .bool true]) (results_told rfl rfl HB5.out.1 rfl) rfl ⟨rfl, ?_⟩
  exact ((Kept.refl [] w).alloc _).trans HB5.out.2 (fun x hx => .inr (by simp at hx; omega))
set_option maxHeartbeats 1000000 in
set_option maxRecDepth 100000 in
theorem told_98 (n : Int) (w : World) (h0 : -128 ≤ n) (h1 : n ≤ 127) : Calls Tryz.prog 150 #[.iface 188 (.int .i8 n)] w fun e w' => e = .returned (.tuple #[.agg #[.int .u8 98, .int .i64 n, .float .f64 0, .int .i64 0, .string ⟨#[]⟩, .slice none 0 0, .slice none 0 0], .bool true]) ∧ Kept [] w w' := by
  have hw : IntKind.i64.wrap n = n := by rw [IntKind.wrap_i64]; omega
  clear h0 h1
  have an := any_nil 188
  have tn_bool := fun v w => tno_bool 188 v w (by decide)
  have ty_i8 := tyes_i8
  go_enter Tryz.func150, Tryz.ntmps150
  go_wp2_with (first
    | (refine wpList_store_row (P := Tryz.prog) rfl rfl 151 (.tmp 2) (.tmp 44) rfl w.heap.size rfl 151 _ [.int .u8 98, .int .i64 n, .float .f64 0, .int .i64 0, .string ⟨#[]⟩, .slice none 0 0, .slice none 0 0] (Blk.new w _ _) rfl rfl (by simp [Value.oneCell']) size_iVal ?_; intro w5 hb5 hk5; have HB5 := Lib.hid (And.intro hb5 hk5); clear hb5 hk5))
  refine bodyPost_ret (v := .tuple #[.agg #[.int .u8 98, .int .i64 n, .float .f64 0, .int .i64 0, .string ⟨#[]⟩, .slice none 0 0, .slice none 0 0], .bool true]) (results_told rfl rfl HB5.out.1 rfl) rfl ⟨rfl, ?_⟩
  exact ((Kept.refl [] w).alloc _).trans HB5.out.2 (fun x hx => .inr (by simp at hx; omega))
set_option maxHeartbeats 1000000 in
set_option maxRecDepth 100000 in
theorem told_66 (n : Int) (w : World) (h0 : 0 ≤ n) (h1 : n ≤ 255) : Calls Tryz.prog 150 #[.iface 5 (.int .u8 n)] w fun e w' => e = .returned (.tuple #[.agg #[.int .u8 66, .int .i64 n, .float .f64 0, .int .i64 0, .string ⟨#[]⟩, .slice none 0 0, .slice none 0 0], .bool true]) ∧ Kept [] w w' := by
  have hw : IntKind.i64.wrap n = n := by rw [IntKind.wrap_i64]; omega
  clear h0 h1
  have an := any_nil 5
  have tn_bool := fun v w => tno_bool 5 v w (by decide)
  have tn_i8 := fun v w => tno_i8 5 v w (by decide)
  have ty_u8 := tyes_u8
  go_enter Tryz.func150, Tryz.ntmps150
  go_wp2_with (first
    | (refine wpList_store_row (P := Tryz.prog) rfl rfl 151 (.tmp 2) (.tmp 50) rfl w.heap.size rfl 151 _ [.int .u8 66, .int .i64 n, .float .f64 0, .int .i64 0, .string ⟨#[]⟩, .slice none 0 0, .slice none 0 0] (Blk.new w _ _) rfl rfl (by simp [Value.oneCell']) size_iVal ?_; intro w5 hb5 hk5; have HB5 := Lib.hid (And.intro hb5 hk5); clear hb5 hk5))
  refine bodyPost_ret (v := .tuple #[.agg #[.int .u8 66, .int .i64 n, .float .f64 0, .int .i64 0, .string ⟨#[]⟩, .slice none 0 0, .slice none 0 0], .bool true]) (results_told rfl rfl HB5.out.1 rfl) rfl ⟨rfl, ?_⟩
  exact ((Kept.refl [] w).alloc _).trans HB5.out.2 (fun x hx => .inr (by simp at hx; omega))
set_option maxHeartbeats 1000000 in
set_option maxRecDepth 100000 in
theorem told_115 (n : Int) (w : World) (h0 : -32768 ≤ n) (h1 : n ≤ 32767) : Calls Tryz.prog 150 #[.iface 189 (.int .i16 n)] w fun e w' => e = .returned (.tuple #[.agg #[.int .u8 115, .int .i64 n, .float .f64 0, .int .i64 0, .string ⟨#[]⟩, .slice none 0 0, .slice none 0 0], .bool true]) ∧ Kept [] w w' := by
  have hw : IntKind.i64.wrap n = n := by rw [IntKind.wrap_i64]; omega
  clear h0 h1
  have an := any_nil 189
  have tn_bool := fun v w => tno_bool 189 v w (by decide)
  have tn_i8 := fun v w => tno_i8 189 v w (by decide)
  have tn_u8 := fun v w => tno_u8 189 v w (by decide)
  have ty_i16 := tyes_i16
  go_enter Tryz.func150, Tryz.ntmps150
  go_wp2_with (first
    | (refine wpList_store_row (P := Tryz.prog) rfl rfl 151 (.tmp 2) (.tmp 56) rfl w.heap.size rfl 151 _ [.int .u8 115, .int .i64 n, .float .f64 0, .int .i64 0, .string ⟨#[]⟩, .slice none 0 0, .slice none 0 0] (Blk.new w _ _) rfl rfl (by simp [Value.oneCell']) size_iVal ?_; intro w5 hb5 hk5; have HB5 := Lib.hid (And.intro hb5 hk5); clear hb5 hk5))
  refine bodyPost_ret (v := .tuple #[.agg #[.int .u8 115, .int .i64 n, .float .f64 0, .int .i64 0, .string ⟨#[]⟩, .slice none 0 0, .slice none 0 0], .bool true]) (results_told rfl rfl HB5.out.1 rfl) rfl ⟨rfl, ?_⟩
  exact ((Kept.refl [] w).alloc _).trans HB5.out.2 (fun x hx => .inr (by simp at hx; omega))
set_option maxHeartbeats 1000000 in
set_option maxRecDepth 100000 in
theorem told_73 (n : Int) (w : World) (h0 : -2147483648 ≤ n) (h1 : n ≤ 2147483647) : Calls Tryz.prog 150 #[.iface 21 (.int .i32 n)] w fun e w' => e = .returned (.tuple #[.agg #[.int .u8 73, .int .i64 n, .float .f64 0, .int .i64 0, .string ⟨#[]⟩, .slice none 0 0, .slice none 0 0], .bool true]) ∧ Kept [] w w' := by
  have hw : IntKind.i64.wrap n = n := by rw [IntKind.wrap_i64]; omega
  clear h0 h1
  have an := any_nil 21
  have tn_bool := fun v w => tno_bool 21 v w (by decide)
  have tn_i8 := fun v w => tno_i8 21 v w (by decide)
  have tn_u8 := fun v w => tno_u8 21 v w (by decide)
  have tn_i16 := fun v w => tno_i16 21 v w (by decide)
  have tn_u16 := fun v w => tno_u16 21 v w (by decide)
  have ty_i32 := tyes_i32
  go_enter Tryz.func150, Tryz.ntmps150
  go_wp2_with (first
    | (refine wpList_store_row (P := Tryz.prog) rfl rfl 151 (.tmp 2) (.tmp 68) rfl w.heap.size rfl 151 _ [.int .u8 73, .int .i64 n, .float .f64 0, .int .i64 0, .string ⟨#[]⟩, .slice none 0 0, .slice none 0 0] (Blk.new w _ _) rfl rfl (by simp [Value.oneCell']) size_iVal ?_; intro w5 hb5 hk5; have HB5 := Lib.hid (And.intro hb5 hk5); clear hb5 hk5))
  refine bodyPost_ret (v := .tuple #[.agg #[.int .u8 73, .int .i64 n, .float .f64 0, .int .i64 0, .string ⟨#[]⟩, .slice none 0 0, .slice none 0 0], .bool true]) (results_told rfl rfl HB5.out.1 rfl) rfl ⟨rfl, ?_⟩
  exact ((Kept.refl [] w).alloc _).trans HB5.out.2 (fun x hx => .inr (by simp at hx; omega))
set_option maxHeartbeats 1000000 in
set_option maxRecDepth 100000 in
theorem told_108 (n : Int) (w : World) : Calls Tryz.prog 150 #[.iface 2 (.int .i64 n)] w fun e w' => e = .returned (.tuple #[.agg #[.int .u8 108, .int .i64 n, .float .f64 0, .int .i64 0, .string ⟨#[]⟩, .slice none 0 0, .slice none 0 0], .bool true]) ∧ Kept [] w w' := by
  have an := any_nil 2
  have tn_bool := fun v w => tno_bool 2 v w (by decide)
  have tn_i8 := fun v w => tno_i8 2 v w (by decide)
  have tn_u8 := fun v w => tno_u8 2 v w (by decide)
  have tn_i16 := fun v w => tno_i16 2 v w (by decide)
  have tn_u16 := fun v w => tno_u16 2 v w (by decide)
  have tn_i32 := fun v w => tno_i32 2 v w (by decide)
  have tn_u32 := fun v w => tno_u32 2 v w (by decide)
  have ty_i64 := tyes_i64
  go_enter Tryz.func150, Tryz.ntmps150
  go_wp2_with (first
    | (refine wpList_store_row (P := Tryz.prog) rfl rfl 151 (.tmp 2) (.tmp 79) rfl w.heap.size rfl 151 _ [.int .u8 108, .int .i64 n, .float .f64 0, .int .i64 0, .string ⟨#[]⟩, .slice none 0 0, .slice none 0 0] (Blk.new w _ _) rfl rfl (by simp [Value.oneCell']) size_iVal ?_; intro w5 hb5 hk5; have HB5 := Lib.hid (And.intro hb5 hk5); clear hb5 hk5))
  refine bodyPost_ret (v := .tuple #[.agg #[.int .u8 108, .int .i64 n, .float .f64 0, .int .i64 0, .string ⟨#[]⟩, .slice none 0 0, .slice none 0 0], .bool true]) (results_told rfl rfl HB5.out.1 rfl) rfl ⟨rfl, ?_⟩
  exact ((Kept.refl [] w).alloc _).trans HB5.out.2 (fun x hx => .inr (by simp at hx; omega))
set_option maxHeartbeats 1000000 in
set_option maxRecDepth 100000 in
theorem told_102 (f : Nat) (w : World) (h0 : fracB f = true) (h1 : f < 18446744073709551616) : Calls Tryz.prog 150 #[.iface 178 (.float .f32 (Flt.toS f))] w fun e w' => e = .returned (.tuple #[.agg #[.int .u8 102, .int .i64 0, .float .f64 f, .int .i64 0, .string ⟨#[]⟩, .slice none 0 0, .slice none 0 0], .bool true]) ∧ Kept [] w w' := by
  have hw := run_f64 f h0 h1
  clear h0 h1
  generalize Flt.toS f = g at hw ⊢
  have an := any_nil 178
  have tn_bool := fun v w => tno_bool 178 v w (by decide)
  have tn_i8 := fun v w => tno_i8 178 v w (by decide)
  have tn_u8 := fun v w => tno_u8 178 v w (by decide)
  have tn_i16 := fun v w => tno_i16 178 v w (by decide)
  have tn_u16 := fun v w => tno_u16 178 v w (by decide)
  have tn_i32 := fun v w => tno_i32 178 v w (by decide)
  have tn_u32 := fun v w => tno_u32 178 v w (by decide)
  have tn_i64 := fun v w => tno_i64 178 v w (by decide)
  have ty_f32 := tyes_f32
  go_enter Tryz.func150, Tryz.ntmps150
  go_wp2_with (first
    | (refine wpList_store_row (P := Tryz.prog) rfl rfl 151 (.tmp 2) (.tmp 85) rfl w.heap.size rfl 151 _ [.int .u8 102, .int .i64 0, .float .f64 f, .int .i64 0, .string ⟨#[]⟩, .slice none 0 0, .slice none 0 0] (Blk.new w _ _) rfl rfl (by simp [Value.oneCell']) size_iVal ?_; intro w5 hb5 hk5; have HB5 := Lib.hid (And.intro hb5 hk5); clear hb5 hk5))
  refine bodyPost_ret (v := .tuple #[.agg #[.int .u8 102, .int .i64 0, .float .f64 f, .int .i64 0, .string ⟨#[]⟩, .slice none 0 0, .slice none 0 0], .bool true]) (results_told rfl rfl HB5.out.1 rfl) rfl ⟨rfl, ?_⟩
  exact ((Kept.refl [] w).alloc _).trans HB5.out.2 (fun x hx => .inr (by simp at hx; omega))
set_option maxHeartbeats 1000000 in
set_option maxRecDepth 100000 in
theorem told_100 (f : Nat) (w : World) : Calls Tryz.prog 150 #[.iface 138 (.float .f64 f)] w fun e w' => e = .returned (.tuple #[.agg #[.int .u8 100, .int .i64 0, .float .f64 f, .int .i64 0, .string ⟨#[]⟩, .slice none 0 0, .slice none 0 0], .bool true]) ∧ Kept [] w w' := by
  have an := any_nil 138
  have tn_bool := fun v w => tno_bool 138 v w (by decide)
  have tn_i8 := fun v w => tno_i8 138 v w (by decide)
  have tn_u8 := fun v w => tno_u8 138 v w (by decide)
  have tn_i16 := fun v w => tno_i16 138 v w (by decide)
  have tn_u16 := fun v w => tno_u16 138 v w (by decide)
  have tn_i32 := fun v w => tno_i32 138 v w (by decide)
  have tn_u32 := fun v w => tno_u32 138 v w (by decide)
  have tn_i64 := fun v w => tno_i64 138 v w (by decide)
  have tn_f32 := fun v w => tno_f32 138 v w (by decide)
  have ty_f64 := tyes_f64
  go_enter Tryz.func150, Tryz.ntmps150
  go_wp2_with (first
    | (refine wpList_store_row (P := Tryz.prog) rfl rfl 151 (.tmp 2) (.tmp 90) rfl w.heap.size rfl 151 _ [.int .u8 100, .int .i64 0, .float .f64 f, .int .i64 0, .string ⟨#[]⟩, .slice none 0 0, .slice none 0 0] (Blk.new w _ _) rfl rfl (by simp [Value.oneCell']) size_iVal ?_; intro w5 hb5 hk5; have HB5 := Lib.hid (And.intro hb5 hk5); clear hb5 hk5))
  refine bodyPost_ret (v := .tuple #[.agg #[.int .u8 100, .int .i64 0, .float .f64 f, .int .i64 0, .string ⟨#[]⟩, .slice none 0 0, .slice none 0 0], .bool true]) (results_told rfl rfl HB5.out.1 rfl) rfl ⟨rfl, ?_⟩
  exact ((Kept.refl [] w).alloc _).trans HB5.out.2 (fun x hx => .inr (by simp at hx; omega))
set_option maxHeartbeats 1000000 in
set_option maxRecDepth 100000 in
theorem told_68 (sc n : Int) (w : World) (h2 : 0 ≤ sc) (h3 : sc ≤ 255) (h0 : -2147483648 ≤ n) (h1 : n ≤ 2147483647) : Calls Tryz.prog 150 #[.iface 191 (.agg #[.int .u8 sc, .int .i32 n])] w fun e w' => e = .returned (.tuple #[.agg #[.int .u8 68, .int .i64 n, .float .f64 0, .int .i64 sc, .string ⟨#[]⟩, .slice none 0 0, .slice none 0 0], .bool true]) ∧ Kept [] w w' := by
  have hw : IntKind.i64.wrap n = n := by rw [IntKind.wrap_i64]; omega
  have hw2 : IntKind.i64.wrap sc = sc := by rw [IntKind.wrap_i64]; omega
  clear h0 h1 h2 h3
  have an := any_nil 191
  have tn_bool := fun v w => tno_bool 191 v w (by decide)
  have tn_i8 := fun v w => tno_i8 191 v w (by decide)
  have tn_u8 := fun v w => tno_u8 191 v w (by decide)
  have tn_i16 := fun v w => tno_i16 191 v w (by decide)
  have tn_u16 := fun v w => tno_u16 191 v w (by decide)
  have tn_i32 := fun v w => tno_i32 191 v w (by decide)
  have tn_u32 := fun v w => tno_u32 191 v w (by decide)
  have tn_i64 := fun v w => tno_i64 191 v w (by decide)
  have tn_f32 := fun v w => tno_f32 191 v w (by decide)
  have tn_f64 := fun v w => tno_f64 191 v w (by decide)
  have ty_dec := tyes_dec
  go_enter Tryz.func150, Tryz.ntmps150
  go_wp2_with (first
    | (refine wpList_store_row (P := Tryz.prog) rfl rfl 151 (.tmp 2) (.tmp 100) rfl w.heap.size rfl 151 _ [.int .u8 68, .int .i64 n, .float .f64 0, .int .i64 sc, .string ⟨#[]⟩, .slice none 0 0, .slice none 0 0] ((Blk.new w _ _).alloc _) rfl rfl (by simp [Value.oneCell']) size_iVal ?_; intro w5 hb5 hk5; have HB5 := Lib.hid (And.intro hb5 hk5); clear hb5 hk5))
  refine bodyPost_ret (v := .tuple #[.agg #[.int .u8 68, .int .i64 n, .float .f64 0, .int .i64 sc, .string ⟨#[]⟩, .slice none 0 0, .slice none 0 0], .bool true]) (results_told rfl rfl HB5.out.1 rfl) rfl ⟨rfl, ?_⟩
  exact (((Kept.refl [] w).alloc _).alloc _).trans HB5.out.2 (fun x hx => .inr (by simp at hx; omega))
set_option maxHeartbeats 1000000 in
set_option maxRecDepth 100000 in
theorem told_83 (t : ByteArray) (w : World) : Calls Tryz.prog 150 #[.iface 9 (.string t)] w fun e w' => e = .returned (.tuple #[.agg #[.int .u8 83, .int .i64 0, .float .f64 0, .int .i64 0, .string t, .slice none 0 0, .slice none 0 0], .bool true]) ∧ Kept [] w w' := by
  have an := any_nil 9
  have tn_bool := fun v w => tno_bool 9 v w (by decide)
  have tn_i8 := fun v w => tno_i8 9 v w (by decide)
  have tn_u8 := fun v w => tno_u8 9 v w (by decide)
  have tn_i16 := fun v w => tno_i16 9 v w (by decide)
  have tn_u16 := fun v w => tno_u16 9 v w (by decide)
  have tn_i32 := fun v w => tno_i32 9 v w (by decide)
  have tn_u32 := fun v w => tno_u32 9 v w (by decide)
  have tn_i64 := fun v w => tno_i64 9 v w (by decide)
  have tn_f32 := fun v w => tno_f32 9 v w (by decide)
  have tn_f64 := fun v w => tno_f64 9 v w (by decide)
  have tn_dec := fun v w => tno_dec 9 v w (by decide)
  have ty_str := tyes_str
  go_enter Tryz.func150, Tryz.ntmps150
  go_wp2_with (first
    | (refine wpList_store_row (P := Tryz.prog) rfl rfl 151 (.tmp 2) (.tmp 105) rfl w.heap.size rfl 151 _ [.int .u8 83, .int .i64 0, .float .f64 0, .int .i64 0, .string t, .slice none 0 0, .slice none 0 0] (Blk.new w _ _) rfl rfl (by simp [Value.oneCell']) size_iVal ?_; intro w5 hb5 hk5; have HB5 := Lib.hid (And.intro hb5 hk5); clear hb5 hk5))
  refine bodyPost_ret (v := .tuple #[.agg #[.int .u8 83, .int .i64 0, .float .f64 0, .int .i64 0, .string t, .slice none 0 0, .slice none 0 0], .bool true]) (results_told rfl rfl HB5.out.1 rfl) rfl ⟨rfl, ?_⟩
  exact ((Kept.refl [] w).alloc _).trans HB5.out.2 (fun x hx => .inr (by simp at hx; omega))
set_option maxHeartbeats 1000000 in
set_option maxRecDepth 100000 in
theorem told_120 (g : Nat) (t : List UInt8) (n : Nat) (w : World) (hg : Blk w g (u8s t).toArray 5) (hn : t.length = n) : Calls Tryz.prog 150 #[.iface 22 (.slice (some ⟨g, 0, none⟩) n n)] w fun e w' => e = .returned (.tuple #[.agg #[.int .u8 120, .int .i64 0, .float .f64 0, .int .i64 0, .string ⟨t.toArray⟩, .slice none 0 0, .slice none 0 0], .bool true]) ∧ Kept [] w w' := by
  have hc : ∀ w', Kept [] w w' → (convert 22 9 (.slice (some ⟨g, 0, none⟩) n n)).run Tryz.prog w' = .ok (.string ⟨t.toArray⟩) w' := fun w' hk => conv_blk (hg.kept hk (by simp)) hn
  have hc := hc _ ((Kept.refl [] w).alloc (.cells #[.int .u8 0, .int .i64 0, .float .f64 0, .int .i64 0, .string ⟨#[]⟩, .slice none 0 0, .slice none 0 0] 151))
  clear hg hn
  have an := any_nil 22
  have tn_bool := fun v w => tno_bool 22 v w (by decide)
  have tn_i8 := fun v w => tno_i8 22 v w (by decide)
  have tn_u8 := fun v w => tno_u8 22 v w (by decide)
  have tn_i16 := fun v w => tno_i16 22 v w (by decide)
  have tn_u16 := fun v w => tno_u16 22 v w (by decide)
  have tn_i32 := fun v w => tno_i32 22 v w (by decide)
  have tn_u32 := fun v w => tno_u32 22 v w (by decide)
  have tn_i64 := fun v w => tno_i64 22 v w (by decide)
  have tn_f32 := fun v w => tno_f32 22 v w (by decide)
  have tn_f64 := fun v w => tno_f64 22 v w (by decide)
  have tn_dec := fun v w => tno_dec 22 v w (by decide)
  have tn_str := fun v w => tno_str 22 v w (by decide)
  have ty_byt := tyes_byt
  go_enter Tryz.func150, Tryz.ntmps150
  go_wp2_with (first
    | (refine wpList_store_row (P := Tryz.prog) rfl rfl 151 (.tmp 2) (.tmp 111) rfl w.heap.size rfl 151 _ [.int .u8 120, .int .i64 0, .float .f64 0, .int .i64 0, .string ⟨t.toArray⟩, .slice none 0 0, .slice none 0 0] (Blk.new w _ _) rfl rfl (by simp [Value.oneCell']) size_iVal ?_; intro w5 hb5 hk5; have HB5 := Lib.hid (And.intro hb5 hk5); clear hb5 hk5))
  refine bodyPost_ret (v := .tuple #[.agg #[.int .u8 120, .int .i64 0, .float .f64 0, .int .i64 0, .string ⟨t.toArray⟩, .slice none 0 0, .slice none 0 0], .bool true]) (results_told rfl rfl HB5.out.1 rfl) rfl ⟨rfl, ?_⟩
  exact ((Kept.refl [] w).alloc _).trans HB5.out.2 (fun x hx => .inr (by simp at hx; omega))
set_option maxHeartbeats 1000000 in
set_option maxRecDepth 100000 in
theorem told_84 (n : Int) (w : World) (h0 : 0 ≤ n) (h1 : n ≤ 4611686018427387904) : Calls Tryz.prog 150 #[.iface 99 (.agg #[.int .u64 0, .int .i64 (n + 62135596800), .pointer none])] w fun e w' => e = .returned (.tuple #[.agg #[.int .u8 84, .int .i64 n, .float .f64 0, .int .i64 0, .string ⟨#[]⟩, .slice none 0 0, .slice none 0 0], .bool true]) ∧ Kept [] w w' := by
  have hc := tunix_any n h0 h1
  have HC := Lib.hid hc; clear hc h0 h1
  generalize n + 62135596800 = m at HC ⊢
  have an := any_nil 99
  have tn_bool := fun v w => tno_bool 99 v w (by decide)
  have tn_i8 := fun v w => tno_i8 99 v w (by decide)
  have tn_u8 := fun v w => tno_u8 99 v w (by decide)
  have tn_i16 := fun v w => tno_i16 99 v w (by decide)
  have tn_u16 := fun v w => tno_u16 99 v w (by decide)
  have tn_i32 := fun v w => tno_i32 99 v w (by decide)
  have tn_u32 := fun v w => tno_u32 99 v w (by decide)
  have tn_i64 := fun v w => tno_i64 99 v w (by decide)
  have tn_f32 := fun v w => tno_f32 99 v w (by decide)
  have tn_f64 := fun v w => tno_f64 99 v w (by decide)
  have tn_dec := fun v w => tno_dec 99 v w (by decide)
  have tn_str := fun v w => tno_str 99 v w (by decide)
  have tn_byt := fun v w => tno_byt 99 v w (by decide)
  have ty_tim := tyes_tim
  go_enter Tryz.func150, Tryz.ntmps150
  go_wp2_with (first
    | (refine wpList_store_row (P := Tryz.prog) rfl rfl 151 (.tmp 2) (.tmp 117) rfl w.heap.size rfl 151 _ [.int .u8 84, .int .i64 n, .float .f64 0, .int .i64 0, .string ⟨#[]⟩, .slice none 0 0, .slice none 0 0] (((Blk.new w _ _).alloc _).kept HK.out (by simp)) rfl rfl (by simp [Value.oneCell']) size_iVal ?_; intro w5 hb5 hk5; have HB5 := Lib.hid (And.intro hb5 hk5); clear hb5 hk5)
    | (go_at_call 70; refine (HC.out _).mono ?_; rintro e w3 ⟨rfl, hk⟩; have HK := Lib.hid hk; clear hk))
  refine bodyPost_ret (v := .tuple #[.agg #[.int .u8 84, .int .i64 n, .float .f64 0, .int .i64 0, .string ⟨#[]⟩, .slice none 0 0, .slice none 0 0], .bool true]) (results_told rfl rfl HB5.out.1 rfl) rfl ⟨rfl, ?_⟩
  exact ((((Kept.refl [] w).alloc _).alloc _).trans HK.out (S := []) (by simp)).trans HB5.out.2 (fun x hx => .inr (by simp at hx; omega))
set_option maxHeartbeats 1000000 in
set_option maxRecDepth 100000 in
theorem told_116t  (w : World) : Calls Tryz.prog 150 #[.iface 4 (.bool true)] w fun e w' => e = .returned (.tuple #[.agg #[.int .u8 116, .int .i64 1, .float .f64 0, .int .i64 0, .string ⟨#[]⟩, .slice none 0 0, .slice none 0 0], .bool true]) ∧ Kept [] w w' := by
  have an := any_nil 4
  have ty_bool := tyes_bool
  go_enter Tryz.func150, Tryz.ntmps150
  go_wp2_with (first
    | (refine wpList_store_row (P := Tryz.prog) rfl rfl 151 (.tmp 2) (.tmp 38) rfl w.heap.size rfl 151 _ [.int .u8 116, .int .i64 1, .float .f64 0, .int .i64 0, .string ⟨#[]⟩, .slice none 0 0, .slice none 0 0] ((((Blk.new w _ _).alloc _).kept HB6.out.2 (by simp)).setCell_other (by simp) _) rfl rfl (by simp [Value.oneCell']) size_iVal ?_; intro w5 hb5 hk5; have HB5 := Lib.hid (And.intro hb5 hk5); clear hb5 hk5)
    | (refine wpList_store_row (P := Tryz.prog) rfl rfl 151 (.tmp 6) (.tmp 35) rfl (w.heap.size + 1) rfl 151 _ [.int .u8 116, .int .i64 0, .float .f64 0, .int .i64 0, .string ⟨#[]⟩, .slice none 0 0, .slice none 0 0] (Blk.new_at (by simp)) rfl rfl (by simp [Value.oneCell']) size_iVal ?_; intro w6 hb6 hk6; have q1 : w6.cell? ⟨w.heap.size + 1, 1, none⟩ = some (.int .i64 0) := hb6.cell 1; have q2 := hb6.free 1; have HB6 := Lib.hid (And.intro hb6 hk6); clear hb6 hk6)
    | (refine wpList_load_row (P := Tryz.prog) rfl 151 (.tmp 6) rfl (w.heap.size + 1) rfl 151 #[.int .u8 116, .int .i64 1, .float .f64 0, .int .i64 0, .string ⟨#[]⟩, .slice none 0 0, .slice none 0 0] (HB6.out.1.setCell 1 _) _ Tryz.underlying151 rfl size_iVal ?_))
  refine bodyPost_ret (v := .tuple #[.agg #[.int .u8 116, .int .i64 1, .float .f64 0, .int .i64 0, .string ⟨#[]⟩, .slice none 0 0, .slice none 0 0], .bool true]) (results_told rfl rfl HB5.out.1 rfl) rfl ⟨rfl, ?_⟩
  exact (((((Kept.refl [] w).alloc _).alloc _).trans HB6.out.2 (S := []) (fun x hx => .inr (by simp at hx; omega))).setCell (p := ⟨w.heap.size + 1, 1, none⟩) (.inr (by simp)) _).trans HB5.out.2 (fun x hx => .inr (by simp at hx; omega))
set_option maxHeartbeats 1000000 in
set_option maxRecDepth 100000 in
theorem told_116f  (w : World) : Calls Tryz.prog 150 #[.iface 4 (.bool false)] w fun e w' => e = .returned (.tuple #[.agg #[.int .u8 116, .int .i64 0, .float .f64 0, .int .i64 0, .string ⟨#[]⟩, .slice none 0 0, .slice none 0 0], .bool true]) ∧ Kept [] w w' := by
  have an := any_nil 4
  have ty_bool := tyes_bool
  go_enter Tryz.func150, Tryz.ntmps150
  go_wp2_with (first
    | (refine wpList_store_row (P := Tryz.prog) rfl rfl 151 (.tmp 2) (.tmp 38) rfl w.heap.size rfl 151 _ [.int .u8 116, .int .i64 0, .float .f64 0, .int .i64 0, .string ⟨#[]⟩, .slice none 0 0, .slice none 0 0] ((((Blk.new w _ _).alloc _).kept HB6.out.2 (by simp))) rfl rfl (by simp [Value.oneCell']) size_iVal ?_; intro w5 hb5 hk5; have HB5 := Lib.hid (And.intro hb5 hk5); clear hb5 hk5)
    | (refine wpList_store_row (P := Tryz.prog) rfl rfl 151 (.tmp 6) (.tmp 35) rfl (w.heap.size + 1) rfl 151 _ [.int .u8 116, .int .i64 0, .float .f64 0, .int .i64 0, .string ⟨#[]⟩, .slice none 0 0, .slice none 0 0] (Blk.new_at (by simp)) rfl rfl (by simp [Value.oneCell']) size_iVal ?_; intro w6 hb6 hk6; have q1 : w6.cell? ⟨w.heap.size + 1, 1, none⟩ = some (.int .i64 0) := hb6.cell 1; have q2 := hb6.free 1; have HB6 := Lib.hid (And.intro hb6 hk6); clear hb6 hk6)
    | (refine wpList_load_row (P := Tryz.prog) rfl 151 (.tmp 6) rfl (w.heap.size + 1) rfl 151 #[.int .u8 116, .int .i64 0, .float .f64 0, .int .i64 0, .string ⟨#[]⟩, .slice none 0 0, .slice none 0 0] (HB6.out.1) _ Tryz.underlying151 rfl size_iVal ?_))
  refine bodyPost_ret (v := .tuple #[.agg #[.int .u8 116, .int .i64 0, .float .f64 0, .int .i64 0, .string ⟨#[]⟩, .slice none 0 0, .slice none 0 0], .bool true]) (results_told rfl rfl HB5.out.1 rfl) rfl ⟨rfl, ?_⟩
  exact ((((Kept.refl [] w).alloc _).alloc _).trans HB6.out.2 (S := []) (fun x hx => .inr (by simp at hx; omega))).trans HB5.out.2 (fun x hx => .inr (by simp at hx; omega))
end Go.Proofs.YtkcdakohmfodjaaGreat
