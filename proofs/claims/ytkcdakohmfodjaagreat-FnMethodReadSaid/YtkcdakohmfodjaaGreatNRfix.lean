/-
  Lemmas on the way to the statement of YtkcdakohmfodjaaGreatMethodRead, joined out of these texts: Rfix, Rstr. No condition.
-/
import Derived.Deep.Cut
import Derived.Laws.IdiomStrings
import Derived.Lib.EndianMore
import Derived.Test.YtkcdakohmfodjaaGreatMAH
import Derived.Test.YtkcdakohmfodjaaGreatNIter
namespace Go.Proofs.YtkcdakohmfodjaaGreat
open Go.RowKit
set_option linter.unusedVariables false
set_option linter.unusedSimpArgs false
/-- readFixed has read the bytes 'pre' and laid the value u at p. -/
def Fixed (r : Value) (ps : List Nat) (d : Nat) (Ns : List Nat) (n : Nat) (rest : List UInt8) (p : Addr) (u : Value) (w : World) (e : Ending) (w' : World) : Prop :=
  e = .returned .nilIface ∧ ∃ w1, Kept ps w w1 ∧ Rd w1 r ps d (Ns.map (· - n)) rest ∧ w' = w1.setCell p u
theorem make_bytes (n : Nat) (hb : n ≤ 281474976710656) (w : World) : (Instr.makeSlice 22 (.int .i64 n) (.int .i64 n)).run Tryz.prog w = .ok (.slice (some ⟨w.heap.size, 0, none⟩) n n) (w.alloc (.cells (List.replicate n (.int .u8 0)).toArray 5)) := make_u8 n n (Nat.le_refl _) hb w
theorem run_from32 (n : Nat) (w : World) : (callFunc 154 #[.int .u32 (n : Int)]).run Tryz.prog w = .ok (.value (.float .f32 n)) w := by kernel_rfl
theorem run_from64 (n : Nat) (w : World) : (callFunc 156 #[.int .u64 (n : Int)]).run Tryz.prog w = .ok (.value (.float .f64 n)) w := by kernel_rfl
theorem run_store_fl (k : FloatKind) (a : Addr) (b : Nat) (m : Mode) (w : World) : (store a (.float k b) m).run Tryz.prog w = stored Tryz.prog w a (.float k b) m := run_store Tryz.prog w a _ m rfl
theorem i32_same (n : Int) : IntKind.i32.wrap n = wrap32 n := by rw [IntKind.wrap_i32]; unfold wrap32; rfl
theorem i64_same (n : Int) : IntKind.i64.wrap n = wrap64 n := by rw [IntKind.wrap_i64]; unfold wrap64; rfl
theorem ta_u8_u8 (a : Addr) (w : World) : (Instr.typeAssert (.iface 375 (.pointer (some a))) 20 375 true).run Tryz.prog w = .ok (.tuple #[.pointer (some a), .bool true]) w := by kernel_rfl
theorem ta_u8_i8 (a : Addr) (w : World) : (Instr.typeAssert (.iface 375 (.pointer (some a))) 20 389 true).run Tryz.prog w = .ok (.tuple #[.pointer none, .bool false]) w := by kernel_rfl
theorem ta_u8_u16 (a : Addr) (w : World) : (Instr.typeAssert (.iface 375 (.pointer (some a))) 20 199 true).run Tryz.prog w = .ok (.tuple #[.pointer none, .bool false]) w := by kernel_rfl
theorem ta_u8_i16 (a : Addr) (w : World) : (Instr.typeAssert (.iface 375 (.pointer (some a))) 20 390 true).run Tryz.prog w = .ok (.tuple #[.pointer none, .bool false]) w := by kernel_rfl
theorem ta_u8_u32 (a : Addr) (w : World) : (Instr.typeAssert (.iface 375 (.pointer (some a))) 20 115 true).run Tryz.prog w = .ok (.tuple #[.pointer none, .bool false]) w := by kernel_rfl
theorem ta_u8_i32 (a : Addr) (w : World) : (Instr.typeAssert (.iface 375 (.pointer (some a))) 20 391 true).run Tryz.prog w = .ok (.tuple #[.pointer none, .bool false]) w := by kernel_rfl
theorem ta_u8_f32 (a : Addr) (w : World) : (Instr.typeAssert (.iface 375 (.pointer (some a))) 20 392 true).run Tryz.prog w = .ok (.tuple #[.pointer none, .bool false]) w := by kernel_rfl
theorem ta_u8_u64 (a : Addr) (w : World) : (Instr.typeAssert (.iface 375 (.pointer (some a))) 20 369 true).run Tryz.prog w = .ok (.tuple #[.pointer none, .bool false]) w := by kernel_rfl
theorem ta_u8_i64 (a : Addr) (w : World) : (Instr.typeAssert (.iface 375 (.pointer (some a))) 20 393 true).run Tryz.prog w = .ok (.tuple #[.pointer none, .bool false]) w := by kernel_rfl
theorem ta_u8_f64 (a : Addr) (w : World) : (Instr.typeAssert (.iface 375 (.pointer (some a))) 20 394 true).run Tryz.prog w = .ok (.tuple #[.pointer none, .bool false]) w := by kernel_rfl
theorem ta_i8_u8 (a : Addr) (w : World) : (Instr.typeAssert (.iface 389 (.pointer (some a))) 20 375 true).run Tryz.prog w = .ok (.tuple #[.pointer none, .bool false]) w := by kernel_rfl
theorem ta_i8_i8 (a : Addr) (w : World) : (Instr.typeAssert (.iface 389 (.pointer (some a))) 20 389 true).run Tryz.prog w = .ok (.tuple #[.pointer (some a), .bool true]) w := by kernel_rfl
theorem ta_i8_u16 (a : Addr) (w : World) : (Instr.typeAssert (.iface 389 (.pointer (some a))) 20 199 true).run Tryz.prog w = .ok (.tuple #[.pointer none, .bool false]) w := by kernel_rfl
theorem ta_i8_i16 (a : Addr) (w : World) : (Instr.typeAssert (.iface 389 (.pointer (some a))) 20 390 true).run Tryz.prog w = .ok (.tuple #[.pointer none, .bool false]) w := by kernel_rfl
theorem ta_i8_u32 (a : Addr) (w : World) : (Instr.typeAssert (.iface 389 (.pointer (some a))) 20 115 true).run Tryz.prog w = .ok (.tuple #[.pointer none, .bool false]) w := by kernel_rfl
theorem ta_i8_i32 (a : Addr) (w : World) : (Instr.typeAssert (.iface 389 (.pointer (some a))) 20 391 true).run Tryz.prog w = .ok (.tuple #[.pointer none, .bool false]) w := by kernel_rfl
theorem ta_i8_f32 (a : Addr) (w : World) : (Instr.typeAssert (.iface 389 (.pointer (some a))) 20 392 true).run Tryz.prog w = .ok (.tuple #[.pointer none, .bool false]) w := by kernel_rfl
theorem ta_i8_u64 (a : Addr) (w : World) : (Instr.typeAssert (.iface 389 (.pointer (some a))) 20 369 true).run Tryz.prog w = .ok (.tuple #[.pointer none, .bool false]) w := by kernel_rfl
theorem ta_i8_i64 (a : Addr) (w : World) : (Instr.typeAssert (.iface 389 (.pointer (some a))) 20 393 true).run Tryz.prog w = .ok (.tuple #[.pointer none, .bool false]) w := by kernel_rfl
theorem ta_i8_f64 (a : Addr) (w : World) : (Instr.typeAssert (.iface 389 (.pointer (some a))) 20 394 true).run Tryz.prog w = .ok (.tuple #[.pointer none, .bool false]) w := by kernel_rfl
theorem ta_u16_u8 (a : Addr) (w : World) : (Instr.typeAssert (.iface 199 (.pointer (some a))) 20 375 true).run Tryz.prog w = .ok (.tuple #[.pointer none, .bool false]) w := by kernel_rfl
theorem ta_u16_i8 (a : Addr) (w : World) : (Instr.typeAssert (.iface 199 (.pointer (some a))) 20 389 true).run Tryz.prog w = .ok (.tuple #[.pointer none, .bool false]) w := by kernel_rfl
theorem ta_u16_u16 (a : Addr) (w : World) : (Instr.typeAssert (.iface 199 (.pointer (some a))) 20 199 true).run Tryz.prog w = .ok (.tuple #[.pointer (some a), .bool true]) w := by kernel_rfl
theorem ta_u16_i16 (a : Addr) (w : World) : (Instr.typeAssert (.iface 199 (.pointer (some a))) 20 390 true).run Tryz.prog w = .ok (.tuple #[.pointer none, .bool false]) w := by kernel_rfl
theorem ta_u16_u32 (a : Addr) (w : World) : (Instr.typeAssert (.iface 199 (.pointer (some a))) 20 115 true).run Tryz.prog w = .ok (.tuple #[.pointer none, .bool false]) w := by kernel_rfl
theorem ta_u16_i32 (a : Addr) (w : World) : (Instr.typeAssert (.iface 199 (.pointer (some a))) 20 391 true).run Tryz.prog w = .ok (.tuple #[.pointer none, .bool false]) w := by kernel_rfl
theorem ta_u16_f32 (a : Addr) (w : World) : (Instr.typeAssert (.iface 199 (.pointer (some a))) 20 392 true).run Tryz.prog w = .ok (.tuple #[.pointer none, .bool false]) w := by kernel_rfl
theorem ta_u16_u64 (a : Addr) (w : World) : (Instr.typeAssert (.iface 199 (.pointer (some a))) 20 369 true).run Tryz.prog w = .ok (.tuple #[.pointer none, .bool false]) w := by kernel_rfl
theorem ta_u16_i64 (a : Addr) (w : World) : (Instr.typeAssert (.iface 199 (.pointer (some a))) 20 393 true).run Tryz.prog w = .ok (.tuple #[.pointer none, .bool false]) w := by kernel_rfl
theorem ta_u16_f64 (a : Addr) (w : World) : (Instr.typeAssert (.iface 199 (.pointer (some a))) 20 394 true).run Tryz.prog w = .ok (.tuple #[.pointer none, .bool false]) w := by kernel_rfl
theorem ta_i16_u8 (a : Addr) (w : World) : (Instr.typeAssert (.iface 390 (.pointer (some a))) 20 375 true).run Tryz.prog w = .ok (.tuple #[.pointer none, .bool false]) w := by kernel_rfl
theorem ta_i16_i8 (a : Addr) (w : World) : (Instr.typeAssert (.iface 390 (.pointer (some a))) 20 389 true).run Tryz.prog w = .ok (.tuple #[.pointer none, .bool false]) w := by kernel_rfl
theorem ta_i16_u16 (a : Addr) (w : World) : (Instr.typeAssert (.iface 390 (.pointer (some a))) 20 199 true).run Tryz.prog w = .ok (.tuple #[.pointer none, .bool false]) w := by kernel_rfl
theorem ta_i16_i16 (a : Addr) (w : World) : (Instr.typeAssert (.iface 390 (.pointer (some a))) 20 390 true).run Tryz.prog w = .ok (.tuple #[.pointer (some a), .bool true]) w := by kernel_rfl
theorem ta_i16_u32 (a : Addr) (w : World) : (Instr.typeAssert (.iface 390 (.pointer (some a))) 20 115 true).run Tryz.prog w = .ok (.tuple #[.pointer none, .bool false]) w := by kernel_rfl
theorem ta_i16_i32 (a : Addr) (w : World) : (Instr.typeAssert (.iface 390 (.pointer (some a))) 20 391 true).run Tryz.prog w = .ok (.tuple #[.pointer none, .bool false]) w := by kernel_rfl
theorem ta_i16_f32 (a : Addr) (w : World) : (Instr.typeAssert (.iface 390 (.pointer (some a))) 20 392 true).run Tryz.prog w = .ok (.tuple #[.pointer none, .bool false]) w := by kernel_rfl
theorem ta_i16_u64 (a : Addr) (w : World) : (Instr.typeAssert (.iface 390 (.pointer (some a))) 20 369 true).run Tryz.prog w = .ok (.tuple #[.pointer none, .bool false]) w := by kernel_rfl
theorem ta_i16_i64 (a : Addr) (w : World) : (Instr.typeAssert (.iface 390 (.pointer (some a))) 20 393 true).run Tryz.prog w = .ok (.tuple #[.pointer none, .bool false]) w := by kernel_rfl
theorem ta_i16_f64 (a : Addr) (w : World) : (Instr.typeAssert (.iface 390 (.pointer (some a))) 20 394 true).run Tryz.prog w = .ok (.tuple #[.pointer none, .bool false]) w := by kernel_rfl
theorem ta_u32_u8 (a : Addr) (w : World) : (Instr.typeAssert (.iface 115 (.pointer (some a))) 20 375 true).run Tryz.prog w = .ok (.tuple #[.pointer none, .bool false]) w := by kernel_rfl
theorem ta_u32_i8 (a : Addr) (w : World) : (Instr.typeAssert (.iface 115 (.pointer (some a))) 20 389 true).run Tryz.prog w = .ok (.tuple #[.pointer none, .bool false]) w := by kernel_rfl
theorem ta_u32_u16 (a : Addr) (w : World) : (Instr.typeAssert (.iface 115 (.pointer (some a))) 20 199 true).run Tryz.prog w = .ok (.tuple #[.pointer none, .bool false]) w := by kernel_rfl
theorem ta_u32_i16 (a : Addr) (w : World) : (Instr.typeAssert (.iface 115 (.pointer (some a))) 20 390 true).run Tryz.prog w = .ok (.tuple #[.pointer none, .bool false]) w := by kernel_rfl
theorem ta_u32_u32 (a : Addr) (w : World) : (Instr.typeAssert (.iface 115 (.pointer (some a))) 20 115 true).run Tryz.prog w = .ok (.tuple #[.pointer (some a), .bool true]) w := by kernel_rfl
theorem ta_u32_i32 (a : Addr) (w : World) : (Instr.typeAssert (.iface 115 (.pointer (some a))) 20 391 true).run Tryz.prog w = .ok (.tuple #[.pointer none, .bool false]) w := by kernel_rfl
theorem ta_u32_f32 (a : Addr) (w : World) : (Instr.typeAssert (.iface 115 (.pointer (some a))) 20 392 true).run Tryz.prog w = .ok (.tuple #[.pointer none, .bool false]) w := by kernel_rfl
theorem ta_u32_u64 (a : Addr) (w : World) : (Instr.typeAssert (.iface 115 (.pointer (some a))) 20 369 true).run Tryz.prog w = .ok (.tuple #[.pointer none, .bool false]) w := by kernel_rfl
theorem ta_u32_i64 (a : Addr) (w : World) : (Instr.typeAssert (.iface 115 (.pointer (some a))) 20 393 true).run Tryz.prog w = .ok (.tuple #[.pointer none, .bool false]) w := by kernel_rfl
theorem ta_u32_f64 (a : Addr) (w : World) : (Instr.typeAssert (.iface 115 (.pointer (some a))) 20 394 true).run Tryz.prog w = .ok (.tuple #[.pointer none, .bool false]) w := by kernel_rfl
theorem ta_i32_u8 (a : Addr) (w : World) : (Instr.typeAssert (.iface 391 (.pointer (some a))) 20 375 true).run Tryz.prog w = .ok (.tuple #[.pointer none, .bool false]) w := by kernel_rfl
theorem ta_i32_i8 (a : Addr) (w : World) : (Instr.typeAssert (.iface 391 (.pointer (some a))) 20 389 true).run Tryz.prog w = .ok (.tuple #[.pointer none, .bool false]) w := by kernel_rfl
theorem ta_i32_u16 (a : Addr) (w : World) : (Instr.typeAssert (.iface 391 (.pointer (some a))) 20 199 true).run Tryz.prog w = .ok (.tuple #[.pointer none, .bool false]) w := by kernel_rfl
theorem ta_i32_i16 (a : Addr) (w : World) : (Instr.typeAssert (.iface 391 (.pointer (some a))) 20 390 true).run Tryz.prog w = .ok (.tuple #[.pointer none, .bool false]) w := by kernel_rfl
theorem ta_i32_u32 (a : Addr) (w : World) : (Instr.typeAssert (.iface 391 (.pointer (some a))) 20 115 true).run Tryz.prog w = .ok (.tuple #[.pointer none, .bool false]) w := by kernel_rfl
theorem ta_i32_i32 (a : Addr) (w : World) : (Instr.typeAssert (.iface 391 (.pointer (some a))) 20 391 true).run Tryz.prog w = .ok (.tuple #[.pointer (some a), .bool true]) w := by kernel_rfl
theorem ta_i32_f32 (a : Addr) (w : World) : (Instr.typeAssert (.iface 391 (.pointer (some a))) 20 392 true).run Tryz.prog w = .ok (.tuple #[.pointer none, .bool false]) w := by kernel_rfl
theorem ta_i32_u64 (a : Addr) (w : World) : (Instr.typeAssert (.iface 391 (.pointer (some a))) 20 369 true).run Tryz.prog w = .ok (.tuple #[.pointer none, .bool false]) w := by kernel_rfl
theorem ta_i32_i64 (a : Addr) (w : World) : (Instr.typeAssert (.iface 391 (.pointer (some a))) 20 393 true).run Tryz.prog w = .ok (.tuple #[.pointer none, .bool false]) w := by kernel_rfl
theorem ta_i32_f64 (a : Addr) (w : World) : (Instr.typeAssert (.iface 391 (.pointer (some a))) 20 394 true).run Tryz.prog w = .ok (.tuple #[.pointer none, .bool false]) w := by kernel_rfl
theorem ta_f32_u8 (a : Addr) (w : World) : (Instr.typeAssert (.iface 392 (.pointer (some a))) 20 375 true).run Tryz.prog w = .ok (.tuple #[.pointer none, .bool false]) w := by kernel_rfl
theorem ta_f32_i8 (a : Addr) (w : World) : (Instr.typeAssert (.iface 392 (.pointer (some a))) 20 389 true).run Tryz.prog w = .ok (.tuple #[.pointer none, .bool false]) w := by kernel_rfl
theorem ta_f32_u16 (a : Addr) (w : World) : (Instr.typeAssert (.iface 392 (.pointer (some a))) 20 199 true).run Tryz.prog w = .ok (.tuple #[.pointer none, .bool false]) w := by kernel_rfl
theorem ta_f32_i16 (a : Addr) (w : World) : (Instr.typeAssert (.iface 392 (.pointer (some a))) 20 390 true).run Tryz.prog w = .ok (.tuple #[.pointer none, .bool false]) w := by kernel_rfl
theorem ta_f32_u32 (a : Addr) (w : World) : (Instr.typeAssert (.iface 392 (.pointer (some a))) 20 115 true).run Tryz.prog w = .ok (.tuple #[.pointer none, .bool false]) w := by kernel_rfl
theorem ta_f32_i32 (a : Addr) (w : World) : (Instr.typeAssert (.iface 392 (.pointer (some a))) 20 391 true).run Tryz.prog w = .ok (.tuple #[.pointer none, .bool false]) w := by kernel_rfl
theorem ta_f32_f32 (a : Addr) (w : World) : (Instr.typeAssert (.iface 392 (.pointer (some a))) 20 392 true).run Tryz.prog w = .ok (.tuple #[.pointer (some a), .bool true]) w := by kernel_rfl
theorem ta_f32_u64 (a : Addr) (w : World) : (Instr.typeAssert (.iface 392 (.pointer (some a))) 20 369 true).run Tryz.prog w = .ok (.tuple #[.pointer none, .bool false]) w := by kernel_rfl
theorem ta_f32_i64 (a : Addr) (w : World) : (Instr.typeAssert (.iface 392 (.pointer (some a))) 20 393 true).run Tryz.prog w = .ok (.tuple #[.pointer none, .bool false]) w := by kernel_rfl
theorem ta_f32_f64 (a : Addr) (w : World) : (Instr.typeAssert (.iface 392 (.pointer (some a))) 20 394 true).run Tryz.prog w = .ok (.tuple #[.pointer none, .bool false]) w := by kernel_rfl
theorem ta_u64_u8 (a : Addr) (w : World) : (Instr.typeAssert (.iface 369 (.pointer (some a))) 20 375 true).run Tryz.prog w = .ok (.tuple #[.pointer none, .bool false]) w := by kernel_rfl
theorem ta_u64_i8 (a : Addr) (w : World) : (Instr.typeAssert (.iface 369 (.pointer (some a))) 20 389 true).run Tryz.prog w = .ok (.tuple #[.pointer none, .bool false]) w := by kernel_rfl
theorem ta_u64_u16 (a : Addr) (w : World) : (Instr.typeAssert (.iface 369 (.pointer (some a))) 20 199 true).run Tryz.prog w = .ok (.tuple #[.pointer none, .bool false]) w := by kernel_rfl
theorem ta_u64_i16 (a : Addr) (w : World) : (Instr.typeAssert (.iface 369 (.pointer (some a))) 20 390 true).run Tryz.prog w = .ok (.tuple #[.pointer none, .bool false]) w := by kernel_rfl
theorem ta_u64_u32 (a : Addr) (w : World) : (Instr.typeAssert (.iface 369 (.pointer (some a))) 20 115 true).run Tryz.prog w = .ok (.tuple #[.pointer none, .bool false]) w := by kernel_rfl
theorem ta_u64_i32 (a : Addr) (w : World) : (Instr.typeAssert (.iface 369 (.pointer (some a))) 20 391 true).run Tryz.prog w = .ok (.tuple #[.pointer none, .bool false]) w := by kernel_rfl
theorem ta_u64_f32 (a : Addr) (w : World) : (Instr.typeAssert (.iface 369 (.pointer (some a))) 20 392 true).run Tryz.prog w = .ok (.tuple #[.pointer none, .bool false]) w := by kernel_rfl
theorem ta_u64_u64 (a : Addr) (w : World) : (Instr.typeAssert (.iface 369 (.pointer (some a))) 20 369 true).run Tryz.prog w = .ok (.tuple #[.pointer (some a), .bool true]) w := by kernel_rfl
theorem ta_u64_i64 (a : Addr) (w : World) : (Instr.typeAssert (.iface 369 (.pointer (some a))) 20 393 true).run Tryz.prog w = .ok (.tuple #[.pointer none, .bool false]) w := by kernel_rfl
theorem ta_u64_f64 (a : Addr) (w : World) : (Instr.typeAssert (.iface 369 (.pointer (some a))) 20 394 true).run Tryz.prog w = .ok (.tuple #[.pointer none, .bool false]) w := by kernel_rfl
theorem ta_i64_u8 (a : Addr) (w : World) : (Instr.typeAssert (.iface 393 (.pointer (some a))) 20 375 true).run Tryz.prog w = .ok (.tuple #[.pointer none, .bool false]) w := by kernel_rfl
theorem ta_i64_i8 (a : Addr) (w : World) : (Instr.typeAssert (.iface 393 (.pointer (some a))) 20 389 true).run Tryz.prog w = .ok (.tuple #[.pointer none, .bool false]) w := by kernel_rfl
theorem ta_i64_u16 (a : Addr) (w : World) : (Instr.typeAssert (.iface 393 (.pointer (some a))) 20 199 true).run Tryz.prog w = .ok (.tuple #[.pointer none, .bool false]) w := by kernel_rfl
theorem ta_i64_i16 (a : Addr) (w : World) : (Instr.typeAssert (.iface 393 (.pointer (some a))) 20 390 true).run Tryz.prog w = .ok (.tuple #[.pointer none, .bool false]) w := by kernel_rfl
theorem ta_i64_u32 (a : Addr) (w : World) : (Instr.typeAssert (.iface 393 (.pointer (some a))) 20 115 true).run Tryz.prog w = .ok (.tuple #[.pointer none, .bool false]) w := by kernel_rfl
theorem ta_i64_i32 (a : Addr) (w : World) : (Instr.typeAssert (.iface 393 (.pointer (some a))) 20 391 true).run Tryz.prog w = .ok (.tuple #[.pointer none, .bool false]) w := by kernel_rfl
theorem ta_i64_f32 (a : Addr) (w : World) : (Instr.typeAssert (.iface 393 (.pointer (some a))) 20 392 true).run Tryz.prog w = .ok (.tuple #[.pointer none, .bool false]) w := by kernel_rfl
theorem ta_i64_u64 (a : Addr) (w : World) : (Instr.typeAssert (.iface 393 (.pointer (some a))) 20 369 true).run Tryz.prog w = .ok (.tuple #[.pointer none, .bool false]) w := by kernel_rfl
theorem ta_i64_i64 (a : Addr) (w : World) : (Instr.typeAssert (.iface 393 (.pointer (some a))) 20 393 true).run Tryz.prog w = .ok (.tuple #[.pointer (some a), .bool true]) w := by kernel_rfl
theorem ta_i64_f64 (a : Addr) (w : World) : (Instr.typeAssert (.iface 393 (.pointer (some a))) 20 394 true).run Tryz.prog w = .ok (.tuple #[.pointer none, .bool false]) w := by kernel_rfl
theorem ta_f64_u8 (a : Addr) (w : World) : (Instr.typeAssert (.iface 394 (.pointer (some a))) 20 375 true).run Tryz.prog w = .ok (.tuple #[.pointer none, .bool false]) w := by kernel_rfl
theorem ta_f64_i8 (a : Addr) (w : World) : (Instr.typeAssert (.iface 394 (.pointer (some a))) 20 389 true).run Tryz.prog w = .ok (.tuple #[.pointer none, .bool false]) w := by kernel_rfl
theorem ta_f64_u16 (a : Addr) (w : World) : (Instr.typeAssert (.iface 394 (.pointer (some a))) 20 199 true).run Tryz.prog w = .ok (.tuple #[.pointer none, .bool false]) w := by kernel_rfl
theorem ta_f64_i16 (a : Addr) (w : World) : (Instr.typeAssert (.iface 394 (.pointer (some a))) 20 390 true).run Tryz.prog w = .ok (.tuple #[.pointer none, .bool false]) w := by kernel_rfl
theorem ta_f64_u32 (a : Addr) (w : World) : (Instr.typeAssert (.iface 394 (.pointer (some a))) 20 115 true).run Tryz.prog w = .ok (.tuple #[.pointer none, .bool false]) w := by kernel_rfl
theorem ta_f64_i32 (a : Addr) (w : World) : (Instr.typeAssert (.iface 394 (.pointer (some a))) 20 391 true).run Tryz.prog w = .ok (.tuple #[.pointer none, .bool false]) w := by kernel_rfl
theorem ta_f64_f32 (a : Addr) (w : World) : (Instr.typeAssert (.iface 394 (.pointer (some a))) 20 392 true).run Tryz.prog w = .ok (.tuple #[.pointer none, .bool false]) w := by kernel_rfl
theorem ta_f64_u64 (a : Addr) (w : World) : (Instr.typeAssert (.iface 394 (.pointer (some a))) 20 369 true).run Tryz.prog w = .ok (.tuple #[.pointer none, .bool false]) w := by kernel_rfl
theorem ta_f64_i64 (a : Addr) (w : World) : (Instr.typeAssert (.iface 394 (.pointer (some a))) 20 393 true).run Tryz.prog w = .ok (.tuple #[.pointer none, .bool false]) w := by kernel_rfl
theorem ta_f64_f64 (a : Addr) (w : World) : (Instr.typeAssert (.iface 394 (.pointer (some a))) 20 394 true).run Tryz.prog w = .ok (.tuple #[.pointer (some a), .bool true]) w := by kernel_rfl
set_option maxHeartbeats 1000000 in
set_option maxRecDepth 100000 in
theorem rfix_u8 {w : World} {r : Value} {ps : List Nat} {d : Nat} {Ns : List Nat} (pre rest : List UInt8) (hpre : pre.length = 1) (h : Rd w r ps d Ns (pre ++ rest)) (hl : rest.length ≤ 1000000000) (hav : 1 ≤ avail Ns (pre ++ rest)) (hd : d < w.heap.size) (pb po : Nat) (v0 : Value)
    (hp : w.cell? ⟨pb, po, none⟩ = some v0) (hpf : w.frozen? ⟨pb, po, none⟩ = false) (hpp : pb ∉ ps) (hpd : pb ≠ d) :
    Calls Tryz.prog 77 #[r, .iface 375 (.pointer (some ⟨pb, po, none⟩))] w (Fixed r ps d Ns 1 rest ⟨pb, po, none⟩ (.int .u8 (Lib.beNat pre : Nat)) w) := by
  obtain ⟨b0, rfl⟩ : ∃ b0, pre = [b0] := by
    match pre, hpre with
    | [b0], _ => exact ⟨_, rfl⟩
  obtain ⟨wa, hwa⟩ : ∃ wa, wa = w.alloc (.cells (List.replicate 1 (.int .u8 0)).toArray 5) := ⟨_, rfl⟩
  have hmk : (Instr.makeSlice 22 (.int .i64 1) (.int .i64 1)).run Tryz.prog w = .ok (.slice (some ⟨w.heap.size, 0, none⟩) 1 1) wa := by rw [hwa]; exact make_bytes 1 (by omega) w
  have hka : Kept [] w wa := by rw [hwa]; exact (Kept.refl [] w).alloc _
  have hpl : pb < w.heap.size := World.block_lt_of_cell? w _ hp
  have hfull := (h.kept hka (by simp) (by simp)).full (by unfold Small; simp; omega) 1 1 w.heap.size 0 _ (by omega) (Nat.le_refl _) (by unfold Small; omega) (by rw [hwa]; exact Blk.new w (List.replicate 1 (Value.int .u8 0)).toArray 5) (by simp) (fun hm => by have := h.mem_lt _ hm; omega) (by omega) hav
  have HF := Lib.hid hfull; have HK := Lib.hid (And.intro hka (And.intro hp (And.intro hpf (And.intro hpp (And.intro hpd hpl)))))
  have HH := Lib.hid h
  clear hfull hka hp hpf hpp hpd hpl h hav hpre hwa
  have t_u8 := ta_u8_u8
  have t_i8 := ta_u8_i8
  have t_u16 := ta_u8_u16
  have t_i16 := ta_u8_i16
  have t_u32 := ta_u8_u32
  have t_i32 := ta_u8_i32
  have t_f32 := ta_u8_f32
  have t_u64 := ta_u8_u64
  have t_i64 := ta_u8_i64
  have t_f64 := ta_u8_f64
  go_enter Tryz.func77, Tryz.ntmps77
  go_upto_region 14 with (go_at_call 56; refine HF.out.mono ?_; rintro e w2 ⟨rfl, hG⟩)
  obtain ⟨g1, g2, g3⟩ := hG
  have hkw : Kept ps w w2 := (HK.out.1.mono (by simp)).trans g3 (fun x hx => by
    simp only [List.mem_cons] at hx
    rcases hx with rfl | hx
    · exact .inr (Nat.le_refl _)
    · exact .inl hx)
  rw [splice_all 1 _ _ (by simp)] at g2
  have g1' : Rd w2 r ps d (Ns.map (· - 1)) rest := by simpa using g1
  have H2 := Lib.hid (And.intro g1' (And.intro g2 (And.intro (0 : Nat).le_refl hkw)))
  have p2 : w2.cell? ⟨pb, po, none⟩ = some v0 := hkw.cell HK.out.2.1 HK.out.2.2.2.1
  have pf2 : w2.frozen? ⟨pb, po, none⟩ = false := by rw [hkw.frozen HK.out.2.2.2.2.2 HK.out.2.2.2.1]; exact HK.out.2.2.1
  have hcell := g2.cell
  have x0 : w2.cell? ⟨w.heap.size, 0, none⟩ = some (.int .u8 b0.toNat) := hcell 0
  clear g1 g2 g3 g1' hkw hcell hmk
  have HB1 := Lib.hid (show Lib.beNat [b0] = b0.toNat by simp [Lib.beNat, Lib.beFrom])
  go_wp2_with fail
  go_ret
  exact ⟨rfl, _, H2.out.2.2.2, H2.out.1, by rw [HB1.out]⟩
set_option maxHeartbeats 1000000 in
set_option maxRecDepth 100000 in
theorem rfix_i8 {w : World} {r : Value} {ps : List Nat} {d : Nat} {Ns : List Nat} (pre rest : List UInt8) (hpre : pre.length = 1) (h : Rd w r ps d Ns (pre ++ rest)) (hl : rest.length ≤ 1000000000) (hav : 1 ≤ avail Ns (pre ++ rest)) (hd : d < w.heap.size) (pb po : Nat) (v0 : Value)
    (hp : w.cell? ⟨pb, po, none⟩ = some v0) (hpf : w.frozen? ⟨pb, po, none⟩ = false) (hpp : pb ∉ ps) (hpd : pb ≠ d) :
    Calls Tryz.prog 77 #[r, .iface 389 (.pointer (some ⟨pb, po, none⟩))] w (Fixed r ps d Ns 1 rest ⟨pb, po, none⟩ (.int .i8 (IntKind.i8.wrap (Lib.beNat pre : Nat))) w) := by
  obtain ⟨b0, rfl⟩ : ∃ b0, pre = [b0] := by
    match pre, hpre with
    | [b0], _ => exact ⟨_, rfl⟩
  obtain ⟨wa, hwa⟩ : ∃ wa, wa = w.alloc (.cells (List.replicate 1 (.int .u8 0)).toArray 5) := ⟨_, rfl⟩
  have hmk : (Instr.makeSlice 22 (.int .i64 1) (.int .i64 1)).run Tryz.prog w = .ok (.slice (some ⟨w.heap.size, 0, none⟩) 1 1) wa := by rw [hwa]; exact make_bytes 1 (by omega) w
  have hka : Kept [] w wa := by rw [hwa]; exact (Kept.refl [] w).alloc _
  have hpl : pb < w.heap.size := World.block_lt_of_cell? w _ hp
  have hfull := (h.kept hka (by simp) (by simp)).full (by unfold Small; simp; omega) 1 1 w.heap.size 0 _ (by omega) (Nat.le_refl _) (by unfold Small; omega) (by rw [hwa]; exact Blk.new w (List.replicate 1 (Value.int .u8 0)).toArray 5) (by simp) (fun hm => by have := h.mem_lt _ hm; omega) (by omega) hav
  have HF := Lib.hid hfull; have HK := Lib.hid (And.intro hka (And.intro hp (And.intro hpf (And.intro hpp (And.intro hpd hpl)))))
  have HH := Lib.hid h
  clear hfull hka hp hpf hpp hpd hpl h hav hpre hwa
  have t_u8 := ta_i8_u8
  have t_i8 := ta_i8_i8
  have t_u16 := ta_i8_u16
  have t_i16 := ta_i8_i16
  have t_u32 := ta_i8_u32
  have t_i32 := ta_i8_i32
  have t_f32 := ta_i8_f32
  have t_u64 := ta_i8_u64
  have t_i64 := ta_i8_i64
  have t_f64 := ta_i8_f64
  go_enter Tryz.func77, Tryz.ntmps77
  go_upto_region 14 with (go_at_call 56; refine HF.out.mono ?_; rintro e w2 ⟨rfl, hG⟩)
  obtain ⟨g1, g2, g3⟩ := hG
  have hkw : Kept ps w w2 := (HK.out.1.mono (by simp)).trans g3 (fun x hx => by
    simp only [List.mem_cons] at hx
    rcases hx with rfl | hx
    · exact .inr (Nat.le_refl _)
    · exact .inl hx)
  rw [splice_all 1 _ _ (by simp)] at g2
  have g1' : Rd w2 r ps d (Ns.map (· - 1)) rest := by simpa using g1
  have H2 := Lib.hid (And.intro g1' (And.intro g2 (And.intro (0 : Nat).le_refl hkw)))
  have p2 : w2.cell? ⟨pb, po, none⟩ = some v0 := hkw.cell HK.out.2.1 HK.out.2.2.2.1
  have pf2 : w2.frozen? ⟨pb, po, none⟩ = false := by rw [hkw.frozen HK.out.2.2.2.2.2 HK.out.2.2.2.1]; exact HK.out.2.2.1
  have hcell := g2.cell
  have x0 : w2.cell? ⟨w.heap.size, 0, none⟩ = some (.int .u8 b0.toNat) := hcell 0
  clear g1 g2 g3 g1' hkw hcell hmk
  have HB1 := Lib.hid (show Lib.beNat [b0] = b0.toNat by simp [Lib.beNat, Lib.beFrom])
  go_wp2_with fail
  go_ret
  exact ⟨rfl, _, H2.out.2.2.2, H2.out.1, by rw [HB1.out]⟩
set_option maxHeartbeats 1000000 in
set_option maxRecDepth 100000 in
theorem rfix_u16 {w : World} {r : Value} {ps : List Nat} {d : Nat} {Ns : List Nat} (pre rest : List UInt8) (hpre : pre.length = 2) (h : Rd w r ps d Ns (pre ++ rest)) (hl : rest.length ≤ 1000000000) (hav : 2 ≤ avail Ns (pre ++ rest)) (hd : d < w.heap.size) (pb po : Nat) (v0 : Value)
    (hp : w.cell? ⟨pb, po, none⟩ = some v0) (hpf : w.frozen? ⟨pb, po, none⟩ = false) (hpp : pb ∉ ps) (hpd : pb ≠ d) :
    Calls Tryz.prog 77 #[r, .iface 199 (.pointer (some ⟨pb, po, none⟩))] w (Fixed r ps d Ns 2 rest ⟨pb, po, none⟩ (.int .u16 (Lib.beNat pre : Nat)) w) := by
  obtain ⟨b0, b1, rfl⟩ : ∃ b0 b1, pre = [b0, b1] := by
    match pre, hpre with
    | [b0, b1], _ => exact ⟨_, _, rfl⟩
  obtain ⟨wa, hwa⟩ : ∃ wa, wa = w.alloc (.cells (List.replicate 2 (.int .u8 0)).toArray 5) := ⟨_, rfl⟩
  have hmk : (Instr.makeSlice 22 (.int .i64 2) (.int .i64 2)).run Tryz.prog w = .ok (.slice (some ⟨w.heap.size, 0, none⟩) 2 2) wa := by rw [hwa]; exact make_bytes 2 (by omega) w
  have hka : Kept [] w wa := by rw [hwa]; exact (Kept.refl [] w).alloc _
  have hpl : pb < w.heap.size := World.block_lt_of_cell? w _ hp
  have hfull := (h.kept hka (by simp) (by simp)).full (by unfold Small; simp; omega) 2 2 w.heap.size 0 _ (by omega) (Nat.le_refl _) (by unfold Small; omega) (by rw [hwa]; exact Blk.new w (List.replicate 2 (Value.int .u8 0)).toArray 5) (by simp) (fun hm => by have := h.mem_lt _ hm; omega) (by omega) hav
  have HF := Lib.hid hfull; have HK := Lib.hid (And.intro hka (And.intro hp (And.intro hpf (And.intro hpp (And.intro hpd hpl)))))
  have HH := Lib.hid h
  clear hfull hka hp hpf hpp hpd hpl h hav hpre hwa
  have t_u8 := ta_u16_u8
  have t_i8 := ta_u16_i8
  have t_u16 := ta_u16_u16
  have t_i16 := ta_u16_i16
  have t_u32 := ta_u16_u32
  have t_i32 := ta_u16_i32
  have t_f32 := ta_u16_f32
  have t_u64 := ta_u16_u64
  have t_i64 := ta_u16_i64
  have t_f64 := ta_u16_f64
  go_enter Tryz.func77, Tryz.ntmps77
  go_upto_region 14 with (go_at_call 56; refine HF.out.mono ?_; rintro e w2 ⟨rfl, hG⟩)
  obtain ⟨g1, g2, g3⟩ := hG
  have hkw : Kept ps w w2 := (HK.out.1.mono (by simp)).trans g3 (fun x hx => by
    simp only [List.mem_cons] at hx
    rcases hx with rfl | hx
    · exact .inr (Nat.le_refl _)
    · exact .inl hx)
  rw [splice_all 2 _ _ (by simp)] at g2
  have g1' : Rd w2 r ps d (Ns.map (· - 2)) rest := by simpa using g1
  have H2 := Lib.hid (And.intro g1' (And.intro g2 (And.intro (0 : Nat).le_refl hkw)))
  have p2 : w2.cell? ⟨pb, po, none⟩ = some v0 := hkw.cell HK.out.2.1 HK.out.2.2.2.1
  have pf2 : w2.frozen? ⟨pb, po, none⟩ = false := by rw [hkw.frozen HK.out.2.2.2.2.2 HK.out.2.2.2.1]; exact HK.out.2.2.1
  have hcell := g2.cell
  have x0 : w2.cell? ⟨w.heap.size, 0, none⟩ = some (.int .u8 b0.toNat) := hcell 0
  have x1 : w2.cell? ⟨w.heap.size, 1, none⟩ = some (.int .u8 b1.toNat) := hcell 1
  clear g1 g2 g3 g1' hkw hcell hmk
  have hbe := be16_any w.heap.size 0 2 2 b0 b1 w2 (by omega) x0 (by simpa using x1)
  have HBE := Lib.hid hbe; clear hbe
  go_wp2_with (go_at_call 57; refine HBE.out.mono ?_; rintro e w3 ⟨rfl, kk, rfl⟩)
  go_ret
  exact ⟨rfl, _, (H2.out.2.2.2.trans (drewN_kept w2 kk ps) (fun x hx => .inl hx)), (H2.out.1.kept (drewN_kept w2 kk []) (by simp) (by simp)), rfl⟩
set_option maxHeartbeats 1000000 in
set_option maxRecDepth 100000 in
theorem rfix_i16 {w : World} {r : Value} {ps : List Nat} {d : Nat} {Ns : List Nat} (pre rest : List UInt8) (hpre : pre.length = 2) (h : Rd w r ps d Ns (pre ++ rest)) (hl : rest.length ≤ 1000000000) (hav : 2 ≤ avail Ns (pre ++ rest)) (hd : d < w.heap.size) (pb po : Nat) (v0 : Value)
    (hp : w.cell? ⟨pb, po, none⟩ = some v0) (hpf : w.frozen? ⟨pb, po, none⟩ = false) (hpp : pb ∉ ps) (hpd : pb ≠ d) :
    Calls Tryz.prog 77 #[r, .iface 390 (.pointer (some ⟨pb, po, none⟩))] w (Fixed r ps d Ns 2 rest ⟨pb, po, none⟩ (.int .i16 (IntKind.i16.wrap (Lib.beNat pre : Nat))) w) := by
  obtain ⟨b0, b1, rfl⟩ : ∃ b0 b1, pre = [b0, b1] := by
    match pre, hpre with
    | [b0, b1], _ => exact ⟨_, _, rfl⟩
  obtain ⟨wa, hwa⟩ : ∃ wa, wa = w.alloc (.cells (List.replicate 2 (.int .u8 0)).toArray 5) := ⟨_, rfl⟩
  have hmk : (Instr.makeSlice 22 (.int .i64 2) (.int .i64 2)).run Tryz.prog w = .ok (.slice (some ⟨w.heap.size, 0, none⟩) 2 2) wa := by rw [hwa]; exact make_bytes 2 (by omega) w
  have hka : Kept [] w wa := by rw [hwa]; exact (Kept.refl [] w).alloc _
  have hpl : pb < w.heap.size := World.block_lt_of_cell? w _ hp
  have hfull := (h.kept hka (by simp) (by simp)).full (by unfold Small; simp; omega) 2 2 w.heap.size 0 _ (by omega) (Nat.le_refl _) (by unfold Small; omega) (by rw [hwa]; exact Blk.new w (List.replicate 2 (Value.int .u8 0)).toArray 5) (by simp) (fun hm => by have := h.mem_lt _ hm; omega) (by omega) hav
  have HF := Lib.hid hfull; have HK := Lib.hid (And.intro hka (And.intro hp (And.intro hpf (And.intro hpp (And.intro hpd hpl)))))
  have HH := Lib.hid h
  clear hfull hka hp hpf hpp hpd hpl h hav hpre hwa
  have t_u8 := ta_i16_u8
  have t_i8 := ta_i16_i8
  have t_u16 := ta_i16_u16
  have t_i16 := ta_i16_i16
  have t_u32 := ta_i16_u32
  have t_i32 := ta_i16_i32
  have t_f32 := ta_i16_f32
  have t_u64 := ta_i16_u64
  have t_i64 := ta_i16_i64
  have t_f64 := ta_i16_f64
  go_enter Tryz.func77, Tryz.ntmps77
  go_upto_region 14 with (go_at_call 56; refine HF.out.mono ?_; rintro e w2 ⟨rfl, hG⟩)
  obtain ⟨g1, g2, g3⟩ := hG
  have hkw : Kept ps w w2 := (HK.out.1.mono (by simp)).trans g3 (fun x hx => by
    simp only [List.mem_cons] at hx
    rcases hx with rfl | hx
    · exact .inr (Nat.le_refl _)
    · exact .inl hx)
  rw [splice_all 2 _ _ (by simp)] at g2
  have g1' : Rd w2 r ps d (Ns.map (· - 2)) rest := by simpa using g1
  have H2 := Lib.hid (And.intro g1' (And.intro g2 (And.intro (0 : Nat).le_refl hkw)))
  have p2 : w2.cell? ⟨pb, po, none⟩ = some v0 := hkw.cell HK.out.2.1 HK.out.2.2.2.1
  have pf2 : w2.frozen? ⟨pb, po, none⟩ = false := by rw [hkw.frozen HK.out.2.2.2.2.2 HK.out.2.2.2.1]; exact HK.out.2.2.1
  have hcell := g2.cell
  have x0 : w2.cell? ⟨w.heap.size, 0, none⟩ = some (.int .u8 b0.toNat) := hcell 0
  have x1 : w2.cell? ⟨w.heap.size, 1, none⟩ = some (.int .u8 b1.toNat) := hcell 1
  clear g1 g2 g3 g1' hkw hcell hmk
  have hbe := be16_any w.heap.size 0 2 2 b0 b1 w2 (by omega) x0 (by simpa using x1)
  have HBE := Lib.hid hbe; clear hbe
  go_wp2_with (go_at_call 57; refine HBE.out.mono ?_; rintro e w3 ⟨rfl, kk, rfl⟩)
  go_ret
  exact ⟨rfl, _, (H2.out.2.2.2.trans (drewN_kept w2 kk ps) (fun x hx => .inl hx)), (H2.out.1.kept (drewN_kept w2 kk []) (by simp) (by simp)), rfl⟩
set_option maxHeartbeats 1000000 in
set_option maxRecDepth 100000 in
theorem rfix_u32 {w : World} {r : Value} {ps : List Nat} {d : Nat} {Ns : List Nat} (pre rest : List UInt8) (hpre : pre.length = 4) (h : Rd w r ps d Ns (pre ++ rest)) (hl : rest.length ≤ 1000000000) (hav : 4 ≤ avail Ns (pre ++ rest)) (hd : d < w.heap.size) (pb po : Nat) (v0 : Value)
    (hp : w.cell? ⟨pb, po, none⟩ = some v0) (hpf : w.frozen? ⟨pb, po, none⟩ = false) (hpp : pb ∉ ps) (hpd : pb ≠ d) :
    Calls Tryz.prog 77 #[r, .iface 115 (.pointer (some ⟨pb, po, none⟩))] w (Fixed r ps d Ns 4 rest ⟨pb, po, none⟩ (.int .u32 (Lib.beNat pre : Nat)) w) := by
  obtain ⟨b0, b1, b2, b3, rfl⟩ : ∃ b0 b1 b2 b3, pre = [b0, b1, b2, b3] := by
    match pre, hpre with
    | [b0, b1, b2, b3], _ => exact ⟨_, _, _, _, rfl⟩
  obtain ⟨wa, hwa⟩ : ∃ wa, wa = w.alloc (.cells (List.replicate 4 (.int .u8 0)).toArray 5) := ⟨_, rfl⟩
  have hmk : (Instr.makeSlice 22 (.int .i64 4) (.int .i64 4)).run Tryz.prog w = .ok (.slice (some ⟨w.heap.size, 0, none⟩) 4 4) wa := by rw [hwa]; exact make_bytes 4 (by omega) w
  have hka : Kept [] w wa := by rw [hwa]; exact (Kept.refl [] w).alloc _
  have hpl : pb < w.heap.size := World.block_lt_of_cell? w _ hp
  have hfull := (h.kept hka (by simp) (by simp)).full (by unfold Small; simp; omega) 4 4 w.heap.size 0 _ (by omega) (Nat.le_refl _) (by unfold Small; omega) (by rw [hwa]; exact Blk.new w (List.replicate 4 (Value.int .u8 0)).toArray 5) (by simp) (fun hm => by have := h.mem_lt _ hm; omega) (by omega) hav
  have HF := Lib.hid hfull; have HK := Lib.hid (And.intro hka (And.intro hp (And.intro hpf (And.intro hpp (And.intro hpd hpl)))))
  have HH := Lib.hid h
  clear hfull hka hp hpf hpp hpd hpl h hav hpre hwa
  have t_u8 := ta_u32_u8
  have t_i8 := ta_u32_i8
  have t_u16 := ta_u32_u16
  have t_i16 := ta_u32_i16
  have t_u32 := ta_u32_u32
  have t_i32 := ta_u32_i32
  have t_f32 := ta_u32_f32
  have t_u64 := ta_u32_u64
  have t_i64 := ta_u32_i64
  have t_f64 := ta_u32_f64
  go_enter Tryz.func77, Tryz.ntmps77
  go_upto_region 14 with (go_at_call 56; refine HF.out.mono ?_; rintro e w2 ⟨rfl, hG⟩)
  obtain ⟨g1, g2, g3⟩ := hG
  have hkw : Kept ps w w2 := (HK.out.1.mono (by simp)).trans g3 (fun x hx => by
    simp only [List.mem_cons] at hx
    rcases hx with rfl | hx
    · exact .inr (Nat.le_refl _)
    · exact .inl hx)
  rw [splice_all 4 _ _ (by simp)] at g2
  have g1' : Rd w2 r ps d (Ns.map (· - 4)) rest := by simpa using g1
  have H2 := Lib.hid (And.intro g1' (And.intro g2 (And.intro (0 : Nat).le_refl hkw)))
  have p2 : w2.cell? ⟨pb, po, none⟩ = some v0 := hkw.cell HK.out.2.1 HK.out.2.2.2.1
  have pf2 : w2.frozen? ⟨pb, po, none⟩ = false := by rw [hkw.frozen HK.out.2.2.2.2.2 HK.out.2.2.2.1]; exact HK.out.2.2.1
  have hcell := g2.cell
  have x0 : w2.cell? ⟨w.heap.size, 0, none⟩ = some (.int .u8 b0.toNat) := hcell 0
  have x1 : w2.cell? ⟨w.heap.size, 1, none⟩ = some (.int .u8 b1.toNat) := hcell 1
  have x2 : w2.cell? ⟨w.heap.size, 2, none⟩ = some (.int .u8 b2.toNat) := hcell 2
  have x3 : w2.cell? ⟨w.heap.size, 3, none⟩ = some (.int .u8 b3.toNat) := hcell 3
  clear g1 g2 g3 g1' hkw hcell hmk
  have hbe := be32_any w.heap.size 0 4 4 b0 b1 b2 b3 w2 (by omega) x0 (by simpa using x1) (by simpa using x2) (by simpa using x3)
  have HBE := Lib.hid hbe; clear hbe
  go_wp2_with (go_at_call 58; refine HBE.out.mono ?_; rintro e w3 ⟨rfl, kk, rfl⟩)
  go_ret
  exact ⟨rfl, _, (H2.out.2.2.2.trans (drewN_kept w2 kk ps) (fun x hx => .inl hx)), (H2.out.1.kept (drewN_kept w2 kk []) (by simp) (by simp)), rfl⟩
set_option maxHeartbeats 1000000 in
set_option maxRecDepth 100000 in
theorem rfix_i32 {w : World} {r : Value} {ps : List Nat} {d : Nat} {Ns : List Nat} (pre rest : List UInt8) (hpre : pre.length = 4) (h : Rd w r ps d Ns (pre ++ rest)) (hl : rest.length ≤ 1000000000) (hav : 4 ≤ avail Ns (pre ++ rest)) (hd : d < w.heap.size) (pb po : Nat) (v0 : Value)
    (hp : w.cell? ⟨pb, po, none⟩ = some v0) (hpf : w.frozen? ⟨pb, po, none⟩ = false) (hpp : pb ∉ ps) (hpd : pb ≠ d) :
    Calls Tryz.prog 77 #[r, .iface 391 (.pointer (some ⟨pb, po, none⟩))] w (Fixed r ps d Ns 4 rest ⟨pb, po, none⟩ (.int .i32 (IntKind.i32.wrap (Lib.beNat pre : Nat))) w) := by
  obtain ⟨b0, b1, b2, b3, rfl⟩ : ∃ b0 b1 b2 b3, pre = [b0, b1, b2, b3] := by
    match pre, hpre with
    | [b0, b1, b2, b3], _ => exact ⟨_, _, _, _, rfl⟩
  obtain ⟨wa, hwa⟩ : ∃ wa, wa = w.alloc (.cells (List.replicate 4 (.int .u8 0)).toArray 5) := ⟨_, rfl⟩
  have hmk : (Instr.makeSlice 22 (.int .i64 4) (.int .i64 4)).run Tryz.prog w = .ok (.slice (some ⟨w.heap.size, 0, none⟩) 4 4) wa := by rw [hwa]; exact make_bytes 4 (by omega) w
  have hka : Kept [] w wa := by rw [hwa]; exact (Kept.refl [] w).alloc _
  have hpl : pb < w.heap.size := World.block_lt_of_cell? w _ hp
  have hfull := (h.kept hka (by simp) (by simp)).full (by unfold Small; simp; omega) 4 4 w.heap.size 0 _ (by omega) (Nat.le_refl _) (by unfold Small; omega) (by rw [hwa]; exact Blk.new w (List.replicate 4 (Value.int .u8 0)).toArray 5) (by simp) (fun hm => by have := h.mem_lt _ hm; omega) (by omega) hav
  have HF := Lib.hid hfull; have HK := Lib.hid (And.intro hka (And.intro hp (And.intro hpf (And.intro hpp (And.intro hpd hpl)))))
  have HH := Lib.hid h
  clear hfull hka hp hpf hpp hpd hpl h hav hpre hwa
  have t_u8 := ta_i32_u8
  have t_i8 := ta_i32_i8
  have t_u16 := ta_i32_u16
  have t_i16 := ta_i32_i16
  have t_u32 := ta_i32_u32
  have t_i32 := ta_i32_i32
  have t_f32 := ta_i32_f32
  have t_u64 := ta_i32_u64
  have t_i64 := ta_i32_i64
  have t_f64 := ta_i32_f64
  go_enter Tryz.func77, Tryz.ntmps77
  go_upto_region 14 with (go_at_call 56; refine HF.out.mono ?_; rintro e w2 ⟨rfl, hG⟩)
  obtain ⟨g1, g2, g3⟩ := hG
  have hkw : Kept ps w w2 := (HK.out.1.mono (by simp)).trans g3 (fun x hx => by
    simp only [List.mem_cons] at hx
    rcases hx with rfl | hx
    · exact .inr (Nat.le_refl _)
    · exact .inl hx)
  rw [splice_all 4 _ _ (by simp)] at g2
  have g1' : Rd w2 r ps d (Ns.map (· - 4)) rest := by simpa using g1
  have H2 := Lib.hid (And.intro g1' (And.intro g2 (And.intro (0 : Nat).le_refl hkw)))
  have p2 : w2.cell? ⟨pb, po, none⟩ = some v0 := hkw.cell HK.out.2.1 HK.out.2.2.2.1
  have pf2 : w2.frozen? ⟨pb, po, none⟩ = false := by rw [hkw.frozen HK.out.2.2.2.2.2 HK.out.2.2.2.1]; exact HK.out.2.2.1
  have hcell := g2.cell
  have x0 : w2.cell? ⟨w.heap.size, 0, none⟩ = some (.int .u8 b0.toNat) := hcell 0
  have x1 : w2.cell? ⟨w.heap.size, 1, none⟩ = some (.int .u8 b1.toNat) := hcell 1
  have x2 : w2.cell? ⟨w.heap.size, 2, none⟩ = some (.int .u8 b2.toNat) := hcell 2
  have x3 : w2.cell? ⟨w.heap.size, 3, none⟩ = some (.int .u8 b3.toNat) := hcell 3
  clear g1 g2 g3 g1' hkw hcell hmk
  have hbe := be32_any w.heap.size 0 4 4 b0 b1 b2 b3 w2 (by omega) x0 (by simpa using x1) (by simpa using x2) (by simpa using x3)
  have HBE := Lib.hid hbe; clear hbe
  go_wp2_with (go_at_call 58; refine HBE.out.mono ?_; rintro e w3 ⟨rfl, kk, rfl⟩)
  go_ret
  exact ⟨rfl, _, (H2.out.2.2.2.trans (drewN_kept w2 kk ps) (fun x hx => .inl hx)), (H2.out.1.kept (drewN_kept w2 kk []) (by simp) (by simp)), by exact congrArg (fun x => World.setCell _ _ (Value.int .i32 x)) (i32_same _).symm⟩
set_option maxHeartbeats 1000000 in
set_option maxRecDepth 100000 in
theorem rfix_f32 {w : World} {r : Value} {ps : List Nat} {d : Nat} {Ns : List Nat} (pre rest : List UInt8) (hpre : pre.length = 4) (h : Rd w r ps d Ns (pre ++ rest)) (hl : rest.length ≤ 1000000000) (hav : 4 ≤ avail Ns (pre ++ rest)) (hd : d < w.heap.size) (pb po : Nat) (v0 : Value)
    (hp : w.cell? ⟨pb, po, none⟩ = some v0) (hpf : w.frozen? ⟨pb, po, none⟩ = false) (hpp : pb ∉ ps) (hpd : pb ≠ d) :
    Calls Tryz.prog 77 #[r, .iface 392 (.pointer (some ⟨pb, po, none⟩))] w (Fixed r ps d Ns 4 rest ⟨pb, po, none⟩ (.float .f32 (Lib.beNat pre)) w) := by
  obtain ⟨b0, b1, b2, b3, rfl⟩ : ∃ b0 b1 b2 b3, pre = [b0, b1, b2, b3] := by
    match pre, hpre with
    | [b0, b1, b2, b3], _ => exact ⟨_, _, _, _, rfl⟩
  obtain ⟨wa, hwa⟩ : ∃ wa, wa = w.alloc (.cells (List.replicate 4 (.int .u8 0)).toArray 5) := ⟨_, rfl⟩
  have hmk : (Instr.makeSlice 22 (.int .i64 4) (.int .i64 4)).run Tryz.prog w = .ok (.slice (some ⟨w.heap.size, 0, none⟩) 4 4) wa := by rw [hwa]; exact make_bytes 4 (by omega) w
  have hka : Kept [] w wa := by rw [hwa]; exact (Kept.refl [] w).alloc _
  have hpl : pb < w.heap.size := World.block_lt_of_cell? w _ hp
  have hfull := (h.kept hka (by simp) (by simp)).full (by unfold Small; simp; omega) 4 4 w.heap.size 0 _ (by omega) (Nat.le_refl _) (by unfold Small; omega) (by rw [hwa]; exact Blk.new w (List.replicate 4 (Value.int .u8 0)).toArray 5) (by simp) (fun hm => by have := h.mem_lt _ hm; omega) (by omega) hav
  have HF := Lib.hid hfull; have HK := Lib.hid (And.intro hka (And.intro hp (And.intro hpf (And.intro hpp (And.intro hpd hpl)))))
  have HH := Lib.hid h
  clear hfull hka hp hpf hpp hpd hpl h hav hpre hwa
  have t_u8 := ta_f32_u8
  have t_i8 := ta_f32_i8
  have t_u16 := ta_f32_u16
  have t_i16 := ta_f32_i16
  have t_u32 := ta_f32_u32
  have t_i32 := ta_f32_i32
  have t_f32 := ta_f32_f32
  have t_u64 := ta_f32_u64
  have t_i64 := ta_f32_i64
  have t_f64 := ta_f32_f64
  go_enter Tryz.func77, Tryz.ntmps77
  go_upto_region 14 with (go_at_call 56; refine HF.out.mono ?_; rintro e w2 ⟨rfl, hG⟩)
  obtain ⟨g1, g2, g3⟩ := hG
  have hkw : Kept ps w w2 := (HK.out.1.mono (by simp)).trans g3 (fun x hx => by
    simp only [List.mem_cons] at hx
    rcases hx with rfl | hx
    · exact .inr (Nat.le_refl _)
    · exact .inl hx)
  rw [splice_all 4 _ _ (by simp)] at g2
  have g1' : Rd w2 r ps d (Ns.map (· - 4)) rest := by simpa using g1
  have H2 := Lib.hid (And.intro g1' (And.intro g2 (And.intro (0 : Nat).le_refl hkw)))
  have p2 : w2.cell? ⟨pb, po, none⟩ = some v0 := hkw.cell HK.out.2.1 HK.out.2.2.2.1
  have pf2 : w2.frozen? ⟨pb, po, none⟩ = false := by rw [hkw.frozen HK.out.2.2.2.2.2 HK.out.2.2.2.1]; exact HK.out.2.2.1
  have hcell := g2.cell
  have x0 : w2.cell? ⟨w.heap.size, 0, none⟩ = some (.int .u8 b0.toNat) := hcell 0
  have x1 : w2.cell? ⟨w.heap.size, 1, none⟩ = some (.int .u8 b1.toNat) := hcell 1
  have x2 : w2.cell? ⟨w.heap.size, 2, none⟩ = some (.int .u8 b2.toNat) := hcell 2
  have x3 : w2.cell? ⟨w.heap.size, 3, none⟩ = some (.int .u8 b3.toNat) := hcell 3
  clear g1 g2 g3 g1' hkw hcell hmk
  have hbe := be32_any w.heap.size 0 4 4 b0 b1 b2 b3 w2 (by omega) x0 (by simpa using x1) (by simpa using x2) (by simpa using x3)
  have HBE := Lib.hid hbe; clear hbe
  have hfb := run_from32
  have hsf := run_store_fl .f32
  go_wp2_with (go_at_call 58; refine HBE.out.mono ?_; rintro e w3 ⟨rfl, kk, rfl⟩)
  go_ret
  exact ⟨rfl, _, (H2.out.2.2.2.trans (drewN_kept w2 kk ps) (fun x hx => .inl hx)), (H2.out.1.kept (drewN_kept w2 kk []) (by simp) (by simp)), rfl⟩
set_option maxHeartbeats 1000000 in
set_option maxRecDepth 100000 in
theorem rfix_u64 {w : World} {r : Value} {ps : List Nat} {d : Nat} {Ns : List Nat} (pre rest : List UInt8) (hpre : pre.length = 8) (h : Rd w r ps d Ns (pre ++ rest)) (hl : rest.length ≤ 1000000000) (hav : 8 ≤ avail Ns (pre ++ rest)) (hd : d < w.heap.size) (pb po : Nat) (v0 : Value)
    (hp : w.cell? ⟨pb, po, none⟩ = some v0) (hpf : w.frozen? ⟨pb, po, none⟩ = false) (hpp : pb ∉ ps) (hpd : pb ≠ d) :
    Calls Tryz.prog 77 #[r, .iface 369 (.pointer (some ⟨pb, po, none⟩))] w (Fixed r ps d Ns 8 rest ⟨pb, po, none⟩ (.int .u64 (Lib.beNat pre : Nat)) w) := by
  obtain ⟨b0, b1, b2, b3, b4, b5, b6, b7, rfl⟩ : ∃ b0 b1 b2 b3 b4 b5 b6 b7, pre = [b0, b1, b2, b3, b4, b5, b6, b7] := by
    match pre, hpre with
    | [b0, b1, b2, b3, b4, b5, b6, b7], _ => exact ⟨_, _, _, _, _, _, _, _, rfl⟩
  obtain ⟨wa, hwa⟩ : ∃ wa, wa = w.alloc (.cells (List.replicate 8 (.int .u8 0)).toArray 5) := ⟨_, rfl⟩
  have hmk : (Instr.makeSlice 22 (.int .i64 8) (.int .i64 8)).run Tryz.prog w = .ok (.slice (some ⟨w.heap.size, 0, none⟩) 8 8) wa := by rw [hwa]; exact make_bytes 8 (by omega) w
  have hka : Kept [] w wa := by rw [hwa]; exact (Kept.refl [] w).alloc _
  have hpl : pb < w.heap.size := World.block_lt_of_cell? w _ hp
  have hfull := (h.kept hka (by simp) (by simp)).full (by unfold Small; simp; omega) 8 8 w.heap.size 0 _ (by omega) (Nat.le_refl _) (by unfold Small; omega) (by rw [hwa]; exact Blk.new w (List.replicate 8 (Value.int .u8 0)).toArray 5) (by simp) (fun hm => by have := h.mem_lt _ hm; omega) (by omega) hav
  have HF := Lib.hid hfull; have HK := Lib.hid (And.intro hka (And.intro hp (And.intro hpf (And.intro hpp (And.intro hpd hpl)))))
  have HH := Lib.hid h
  clear hfull hka hp hpf hpp hpd hpl h hav hpre hwa
  have t_u8 := ta_u64_u8
  have t_i8 := ta_u64_i8
  have t_u16 := ta_u64_u16
  have t_i16 := ta_u64_i16
  have t_u32 := ta_u64_u32
  have t_i32 := ta_u64_i32
  have t_f32 := ta_u64_f32
  have t_u64 := ta_u64_u64
  have t_i64 := ta_u64_i64
  have t_f64 := ta_u64_f64
  go_enter Tryz.func77, Tryz.ntmps77
  go_upto_region 14 with (go_at_call 56; refine HF.out.mono ?_; rintro e w2 ⟨rfl, hG⟩)
  obtain ⟨g1, g2, g3⟩ := hG
  have hkw : Kept ps w w2 := (HK.out.1.mono (by simp)).trans g3 (fun x hx => by
    simp only [List.mem_cons] at hx
    rcases hx with rfl | hx
    · exact .inr (Nat.le_refl _)
    · exact .inl hx)
  rw [splice_all 8 _ _ (by simp)] at g2
  have g1' : Rd w2 r ps d (Ns.map (· - 8)) rest := by simpa using g1
  have H2 := Lib.hid (And.intro g1' (And.intro g2 (And.intro (0 : Nat).le_refl hkw)))
  have p2 : w2.cell? ⟨pb, po, none⟩ = some v0 := hkw.cell HK.out.2.1 HK.out.2.2.2.1
  have pf2 : w2.frozen? ⟨pb, po, none⟩ = false := by rw [hkw.frozen HK.out.2.2.2.2.2 HK.out.2.2.2.1]; exact HK.out.2.2.1
  have hcell := g2.cell
  have x0 : w2.cell? ⟨w.heap.size, 0, none⟩ = some (.int .u8 b0.toNat) := hcell 0
  have x1 : w2.cell? ⟨w.heap.size, 1, none⟩ = some (.int .u8 b1.toNat) := hcell 1
  have x2 : w2.cell? ⟨w.heap.size, 2, none⟩ = some (.int .u8 b2.toNat) := hcell 2
  have x3 : w2.cell? ⟨w.heap.size, 3, none⟩ = some (.int .u8 b3.toNat) := hcell 3
  have x4 : w2.cell? ⟨w.heap.size, 4, none⟩ = some (.int .u8 b4.toNat) := hcell 4
  have x5 : w2.cell? ⟨w.heap.size, 5, none⟩ = some (.int .u8 b5.toNat) := hcell 5
  have x6 : w2.cell? ⟨w.heap.size, 6, none⟩ = some (.int .u8 b6.toNat) := hcell 6
  have x7 : w2.cell? ⟨w.heap.size, 7, none⟩ = some (.int .u8 b7.toNat) := hcell 7
  clear g1 g2 g3 g1' hkw hcell hmk
  have hbe := be64_any w.heap.size 0 8 8 b0 b1 b2 b3 b4 b5 b6 b7 w2 (by omega) (by omega) x0 (by simpa using x1) (by simpa using x2) (by simpa using x3) (by simpa using x4) (by simpa using x5) (by simpa using x6) (by simpa using x7)
  have HBE := Lib.hid hbe; clear hbe
  go_wp2_with (go_at_call 155; refine HBE.out.mono ?_; rintro e w3 ⟨rfl, kk, rfl⟩)
  go_ret
  exact ⟨rfl, _, (H2.out.2.2.2.trans (drewN_kept w2 kk ps) (fun x hx => .inl hx)), (H2.out.1.kept (drewN_kept w2 kk []) (by simp) (by simp)), rfl⟩
set_option maxHeartbeats 1000000 in
set_option maxRecDepth 100000 in
theorem rfix_i64 {w : World} {r : Value} {ps : List Nat} {d : Nat} {Ns : List Nat} (pre rest : List UInt8) (hpre : pre.length = 8) (h : Rd w r ps d Ns (pre ++ rest)) (hl : rest.length ≤ 1000000000) (hav : 8 ≤ avail Ns (pre ++ rest)) (hd : d < w.heap.size) (pb po : Nat) (v0 : Value)
    (hp : w.cell? ⟨pb, po, none⟩ = some v0) (hpf : w.frozen? ⟨pb, po, none⟩ = false) (hpp : pb ∉ ps) (hpd : pb ≠ d) :
    Calls Tryz.prog 77 #[r, .iface 393 (.pointer (some ⟨pb, po, none⟩))] w (Fixed r ps d Ns 8 rest ⟨pb, po, none⟩ (.int .i64 (IntKind.i64.wrap (Lib.beNat pre : Nat))) w) := by
  obtain ⟨b0, b1, b2, b3, b4, b5, b6, b7, rfl⟩ : ∃ b0 b1 b2 b3 b4 b5 b6 b7, pre = [b0, b1, b2, b3, b4, b5, b6, b7] := by
    match pre, hpre with
    | [b0, b1, b2, b3, b4, b5, b6, b7], _ => exact ⟨_, _, _, _, _, _, _, _, rfl⟩
  obtain ⟨wa, hwa⟩ : ∃ wa, wa = w.alloc (.cells (List.replicate 8 (.int .u8 0)).toArray 5) := ⟨_, rfl⟩
  have hmk : (Instr.makeSlice 22 (.int .i64 8) (.int .i64 8)).run Tryz.prog w = .ok (.slice (some ⟨w.heap.size, 0, none⟩) 8 8) wa := by rw [hwa]; exact make_bytes 8 (by omega) w
  have hka : Kept [] w wa := by rw [hwa]; exact (Kept.refl [] w).alloc _
  have hpl : pb < w.heap.size := World.block_lt_of_cell? w _ hp
  have hfull := (h.kept hka (by simp) (by simp)).full (by unfold Small; simp; omega) 8 8 w.heap.size 0 _ (by omega) (Nat.le_refl _) (by unfold Small; omega) (by rw [hwa]; exact Blk.new w (List.replicate 8 (Value.int .u8 0)).toArray 5) (by simp) (fun hm => by have := h.mem_lt _ hm; omega) (by omega) hav
  have HF := Lib.hid hfull; have HK := Lib.hid (And.intro hka (And.intro hp (And.intro hpf (And.intro hpp (And.intro hpd hpl)))))
  have HH := Lib.hid h
  clear hfull hka hp hpf hpp hpd hpl h hav hpre hwa
  have t_u8 := ta_i64_u8
  have t_i8 := ta_i64_i8
  have t_u16 := ta_i64_u16
  have t_i16 := ta_i64_i16
  have t_u32 := ta_i64_u32
  have t_i32 := ta_i64_i32
  have t_f32 := ta_i64_f32
  have t_u64 := ta_i64_u64
  have t_i64 := ta_i64_i64
  have t_f64 := ta_i64_f64
  go_enter Tryz.func77, Tryz.ntmps77
  go_upto_region 14 with (go_at_call 56; refine HF.out.mono ?_; rintro e w2 ⟨rfl, hG⟩)
  obtain ⟨g1, g2, g3⟩ := hG
  have hkw : Kept ps w w2 := (HK.out.1.mono (by simp)).trans g3 (fun x hx => by
    simp only [List.mem_cons] at hx
    rcases hx with rfl | hx
    · exact .inr (Nat.le_refl _)
    · exact .inl hx)
  rw [splice_all 8 _ _ (by simp)] at g2
  have g1' : Rd w2 r ps d (Ns.map (· - 8)) rest := by simpa using g1
  have H2 := Lib.hid (And.intro g1' (And.intro g2 (And.intro (0 : Nat).le_refl hkw)))
  have p2 : w2.cell? ⟨pb, po, none⟩ = some v0 := hkw.cell HK.out.2.1 HK.out.2.2.2.1
  have pf2 : w2.frozen? ⟨pb, po, none⟩ = false := by rw [hkw.frozen HK.out.2.2.2.2.2 HK.out.2.2.2.1]; exact HK.out.2.2.1
  have hcell := g2.cell
  have x0 : w2.cell? ⟨w.heap.size, 0, none⟩ = some (.int .u8 b0.toNat) := hcell 0
  have x1 : w2.cell? ⟨w.heap.size, 1, none⟩ = some (.int .u8 b1.toNat) := hcell 1
  have x2 : w2.cell? ⟨w.heap.size, 2, none⟩ = some (.int .u8 b2.toNat) := hcell 2
  have x3 : w2.cell? ⟨w.heap.size, 3, none⟩ = some (.int .u8 b3.toNat) := hcell 3
  have x4 : w2.cell? ⟨w.heap.size, 4, none⟩ = some (.int .u8 b4.toNat) := hcell 4
  have x5 : w2.cell? ⟨w.heap.size, 5, none⟩ = some (.int .u8 b5.toNat) := hcell 5
  have x6 : w2.cell? ⟨w.heap.size, 6, none⟩ = some (.int .u8 b6.toNat) := hcell 6
  have x7 : w2.cell? ⟨w.heap.size, 7, none⟩ = some (.int .u8 b7.toNat) := hcell 7
  clear g1 g2 g3 g1' hkw hcell hmk
  have hbe := be64_any w.heap.size 0 8 8 b0 b1 b2 b3 b4 b5 b6 b7 w2 (by omega) (by omega) x0 (by simpa using x1) (by simpa using x2) (by simpa using x3) (by simpa using x4) (by simpa using x5) (by simpa using x6) (by simpa using x7)
  have HBE := Lib.hid hbe; clear hbe
  go_wp2_with (go_at_call 155; refine HBE.out.mono ?_; rintro e w3 ⟨rfl, kk, rfl⟩)
  go_ret
  exact ⟨rfl, _, (H2.out.2.2.2.trans (drewN_kept w2 kk ps) (fun x hx => .inl hx)), (H2.out.1.kept (drewN_kept w2 kk []) (by simp) (by simp)), by exact congrArg (fun x => World.setCell _ _ (Value.int .i64 x)) (i64_same _).symm⟩
set_option maxHeartbeats 1000000 in
set_option maxRecDepth 100000 in
theorem rfix_f64 {w : World} {r : Value} {ps : List Nat} {d : Nat} {Ns : List Nat} (pre rest : List UInt8) (hpre : pre.length = 8) (h : Rd w r ps d Ns (pre ++ rest)) (hl : rest.length ≤ 1000000000) (hav : 8 ≤ avail Ns (pre ++ rest)) (hd : d < w.heap.size) (pb po : Nat) (v0 : Value)
    (hp : w.cell? ⟨pb, po, none⟩ = some v0) (hpf : w.frozen? ⟨pb, po, none⟩ = false) (hpp : pb ∉ ps) (hpd : pb ≠ d) :
    Calls Tryz.prog 77 #[r, .iface 394 (.pointer (some ⟨pb, po, none⟩))] w (Fixed r ps d Ns 8 rest ⟨pb, po, none⟩ (.float .f64 (Lib.beNat pre)) w) := by
  obtain ⟨b0, b1, b2, b3, b4, b5, b6, b7, rfl⟩ : ∃ b0 b1 b2 b3 b4 b5 b6 b7, pre = [b0, b1, b2, b3, b4, b5, b6, b7] := by
    match pre, hpre with
    | [b0, b1, b2, b3, b4, b5, b6, b7], _ => exact ⟨_, _, _, _, _, _, _, _, rfl⟩
  obtain ⟨wa, hwa⟩ : ∃ wa, wa = w.alloc (.cells (List.replicate 8 (.int .u8 0)).toArray 5) := ⟨_, rfl⟩
  have hmk : (Instr.makeSlice 22 (.int .i64 8) (.int .i64 8)).run Tryz.prog w = .ok (.slice (some ⟨w.heap.size, 0, none⟩) 8 8) wa := by rw [hwa]; exact make_bytes 8 (by omega) w
  have hka : Kept [] w wa := by rw [hwa]; exact (Kept.refl [] w).alloc _
  have hpl : pb < w.heap.size := World.block_lt_of_cell? w _ hp
  have hfull := (h.kept hka (by simp) (by simp)).full (by unfold Small; simp; omega) 8 8 w.heap.size 0 _ (by omega) (Nat.le_refl _) (by unfold Small; omega) (by rw [hwa]; exact Blk.new w (List.replicate 8 (Value.int .u8 0)).toArray 5) (by simp) (fun hm => by have := h.mem_lt _ hm; omega) (by omega) hav
  have HF := Lib.hid hfull; have HK := Lib.hid (And.intro hka (And.intro hp (And.intro hpf (And.intro hpp (And.intro hpd hpl)))))
  have HH := Lib.hid h
  clear hfull hka hp hpf hpp hpd hpl h hav hpre hwa
  have t_u8 := ta_f64_u8
  have t_i8 := ta_f64_i8
  have t_u16 := ta_f64_u16
  have t_i16 := ta_f64_i16
  have t_u32 := ta_f64_u32
  have t_i32 := ta_f64_i32
  have t_f32 := ta_f64_f32
  have t_u64 := ta_f64_u64
  have t_i64 := ta_f64_i64
  have t_f64 := ta_f64_f64
  go_enter Tryz.func77, Tryz.ntmps77
  go_upto_region 14 with (go_at_call 56; refine HF.out.mono ?_; rintro e w2 ⟨rfl, hG⟩)
  obtain ⟨g1, g2, g3⟩ := hG
  have hkw : Kept ps w w2 := (HK.out.1.mono (by simp)).trans g3 (fun x hx => by
    simp only [List.mem_cons] at hx
    rcases hx with rfl | hx
    · exact .inr (Nat.le_refl _)
    · exact .inl hx)
  rw [splice_all 8 _ _ (by simp)] at g2
  have g1' : Rd w2 r ps d (Ns.map (· - 8)) rest := by simpa using g1
  have H2 := Lib.hid (And.intro g1' (And.intro g2 (And.intro (0 : Nat).le_refl hkw)))
  have p2 : w2.cell? ⟨pb, po, none⟩ = some v0 := hkw.cell HK.out.2.1 HK.out.2.2.2.1
  have pf2 : w2.frozen? ⟨pb, po, none⟩ = false := by rw [hkw.frozen HK.out.2.2.2.2.2 HK.out.2.2.2.1]; exact HK.out.2.2.1
  have hcell := g2.cell
  have x0 : w2.cell? ⟨w.heap.size, 0, none⟩ = some (.int .u8 b0.toNat) := hcell 0
  have x1 : w2.cell? ⟨w.heap.size, 1, none⟩ = some (.int .u8 b1.toNat) := hcell 1
  have x2 : w2.cell? ⟨w.heap.size, 2, none⟩ = some (.int .u8 b2.toNat) := hcell 2
  have x3 : w2.cell? ⟨w.heap.size, 3, none⟩ = some (.int .u8 b3.toNat) := hcell 3
  have x4 : w2.cell? ⟨w.heap.size, 4, none⟩ = some (.int .u8 b4.toNat) := hcell 4
  have x5 : w2.cell? ⟨w.heap.size, 5, none⟩ = some (.int .u8 b5.toNat) := hcell 5
  have x6 : w2.cell? ⟨w.heap.size, 6, none⟩ = some (.int .u8 b6.toNat) := hcell 6
  have x7 : w2.cell? ⟨w.heap.size, 7, none⟩ = some (.int .u8 b7.toNat) := hcell 7
  clear g1 g2 g3 g1' hkw hcell hmk
  have hbe := be64_any w.heap.size 0 8 8 b0 b1 b2 b3 b4 b5 b6 b7 w2 (by omega) (by omega) x0 (by simpa using x1) (by simpa using x2) (by simpa using x3) (by simpa using x4) (by simpa using x5) (by simpa using x6) (by simpa using x7)
  have HBE := Lib.hid hbe; clear hbe
  have hfb := run_from64
  have hsf := run_store_fl .f64
  go_wp2_with (go_at_call 155; refine HBE.out.mono ?_; rintro e w3 ⟨rfl, kk, rfl⟩)
  go_ret
  exact ⟨rfl, _, (H2.out.2.2.2.trans (drewN_kept w2 kk ps) (fun x hx => .inl hx)), (H2.out.1.kept (drewN_kept w2 kk []) (by simp) (by simp)), rfl⟩
theorem map_sub_sub (Ns : List Nat) (a b : Nat) : (Ns.map (· - a)).map (· - b) = Ns.map (· - (a + b)) := by
  rw [List.map_map]
  congr 1
  funext x
  simp only [Function.comp]
  omega
theorem avail_map (Ns : List Nat) (pre rest : List UInt8) : avail (Ns.map (· - pre.length)) rest = avail Ns (pre ++ rest) - pre.length := by
  cases Ns with
  | nil => simp [avail]
  | cons N Ns => simp [avail]
theorem map_sub_zero (Ns : List Nat) : Ns.map (· - 0) = Ns := by simp
/-- A row of bytes as a string. -/
theorem conv_blk {w : World} {g n : Nat} {l : List UInt8} (h : Blk w g (u8s l).toArray 5) (hn : l.length = n) : (convert 22 9 (.slice (some ⟨g, 0, none⟩) n n)).run Tryz.prog w = .ok (.string ⟨l.toArray⟩) w := by
  subst hn
  refine run_convert_bytes_back w _ _ _ ⟨g, 0, none⟩ l.length l Tryz.underlying22 Tryz.underlying5 Tryz.underlying9 fun j hj => ?_
  rw [addr_add, h.cell, Nat.zero_add]
  simp only [List.getElem?_toArray]
  rw [u8s_get, List.getElem?_eq_getElem hj]; rfl
/-- readBytes, wherever it reads at least what is asked. -/
theorem readBytes_le {w : World} {r : Value} {ps : List Nat} {d : Nat} {Ns : List Nat} (s rest : List UInt8) (h : Rd w r ps d Ns (s ++ rest)) (hs : s.length ≤ 65536) (hl : rest.length ≤ 1000000000) (hav : s.length ≤ avail Ns (s ++ rest)) (hd : d < w.heap.size) :
    Calls Tryz.prog 148 #[r, .int .i64 (s.length : Int)] w fun e w' => ∃ g, e = .returned (.tuple #[.slice (some ⟨g, 0, none⟩) s.length s.length, .nilIface]) ∧ w.heap.size ≤ g ∧
      Blk w' g (u8s s).toArray 5 ∧ Rd w' r ps d (Ns.map (· - s.length)) rest ∧ Kept ps w w' := by
  by_cases h0 : s = []
  · subst h0
    refine (readBytes_zero r w).mono fun e w' h1 => ?_
    obtain ⟨rfl, rfl⟩ := h1
    have hk : Kept [] w (w.alloc (.cells #[] 5)) := (Kept.refl [] w).alloc _
    exact ⟨w.heap.size, rfl, Nat.le_refl _, Blk.new w _ _, by simpa using h.kept hk (by simp) (by simp), hk.mono (by simp)⟩
  · refine (readBytes_any h (by unfold Small; simp; omega) s.length hs (List.length_pos_iff.2 h0) hav hd).mono fun e w' h1 => ?_
    obtain ⟨g, h1, h2, h3, h4, h5⟩ := h1
    exact ⟨g, h1, h2, by simpa using h3, by simpa using h4, h5⟩
theorem be_one (n : Nat) (h : n < 256) : Lib.beNat (Lib.beBytes 1 n) = n := Lib.beNat_beBytes 1 n (by omega)
theorem be_four (n : Nat) (h : n < 4294967296) : Lib.beNat (Lib.beBytes 4 n) = n := Lib.beNat_beBytes 4 n (by omega)
set_option maxHeartbeats 1000000 in
set_option maxRecDepth 100000 in
theorem rshort {w : World} {r : Value} {ps : List Nat} {d : Nat} {Ns : List Nat} (s rest : List UInt8) (h : Rd w r ps d Ns (Lib.beBytes 1 s.length ++ (s ++ rest))) (hs : s.length ≤ 255) (hl : rest.length ≤ 900000000) (hav : 1 + s.length ≤ avail Ns (Lib.beBytes 1 s.length ++ (s ++ rest))) (hd : d < w.heap.size) :
    Calls Tryz.prog 144 #[r] w fun e w' => e = .returned (.tuple #[.string ⟨s.toArray⟩, .nilIface]) ∧ Rd w' r ps d (Ns.map (· - (1 + s.length))) rest ∧ Kept ps w w' := by
  have hka : Kept [] w (w.alloc (.cells #[.int .u8 0] 5)) := (Kept.refl [] w).alloc _
  have hb0 : Blk (w.alloc (.cells #[.int .u8 0] 5)) w.heap.size #[.int .u8 0] 5 := Blk.new w _ _
  have hgp : w.heap.size ∉ ps := fun hm => by have := h.mem_lt _ hm; omega
  have hgd : w.heap.size ≠ d := by omega
  have hbl := Lib.beBytes_length 1 s.length
  have hf := rfix_u8 (Lib.beBytes 1 s.length) (s ++ rest) hbl (h.kept hka (by simp) (by simp)) (by simp; omega) (by omega) (Nat.lt_of_lt_of_le hd hka.size) w.heap.size 0 _ hb0.cell0 (hb0.free 0) hgp hgd
  rw [be_one _ (by omega)] at hf
  have hav1 : s.length ≤ avail (Ns.map (· - 1)) (s ++ rest) := by
    have := avail_map Ns (Lib.beBytes 1 s.length) (s ++ rest)
    rw [hbl] at this
    omega
  have HF := Lib.hid hf; have H := Lib.hid (And.intro hka (And.intro hb0 (And.intro hgp (And.intro hgd (And.intro hav1 (And.intro hs (And.intro hl hd)))))))
  have hsl : (s.length : Int) ≤ 255 := by omega
  have hw : IntKind.i64.wrap (s.length : Int) = s.length := by rw [IntKind.wrap_i64]; omega
  clear hf hka hb0 hgp hgd hav1 hl hav h hbl
  go_enter Tryz.func144, Tryz.ntmps144
  go_upto_region 3 with (go_at_call 77; refine HF.out.mono ?_; rintro e w2 ⟨rfl, w1, k1, r1, rfl⟩)
  obtain ⟨ka, b0, gp, gd, av, _, hl, hd⟩ := H.out
  have hks : Kept [w.heap.size] w1 (w1.setCell ⟨w.heap.size, 0, none⟩ (.int .u8 (s.length : Nat))) := (Kept.refl _ w1).setCell (by simp) _
  have hr2 := r1.kept hks (fun p hp e => gp (by simp at e; rw [← e]; exact hp)) (by simpa using Ne.symm gd)
  have hb2 : Blk (w1.setCell ⟨w.heap.size, 0, none⟩ (.int .u8 (s.length : Nat))) w.heap.size #[.int .u8 (s.length : Nat)] 5 := (b0.kept k1 gp).setCell 0 _
  have hk2 : Kept ps w (w1.setCell ⟨w.heap.size, 0, none⟩ (.int .u8 (s.length : Nat))) := ((ka.mono (by simp)).trans k1 (fun x hx => .inl hx)).trans hks (by simp)
  generalize w1.setCell ⟨w.heap.size, 0, none⟩ (.int .u8 (s.length : Nat)) = w3 at hr2 hb2 hk2 ⊢
  have c0 := hb2.cell0
  have hrb := readBytes_le s rest hr2 (by omega) (by omega) av (Nat.lt_of_lt_of_le hd hk2.size)
  have HR := Lib.hid hrb; have HK := Lib.hid hk2
  clear hrb hk2 hr2 hb2 hks r1 k1 ka b0 gp gd av hl hd
  go_wp2_with (go_at_call 148; refine HR.out.mono ?_; rintro e w4 ⟨g, rfl, g1, g2, g3, g4⟩; have hcv := conv_blk g2 rfl; have H4 := Lib.hid (And.intro g3 g4); clear g1 g2 g3 g4)
  go_ret2
  refine ⟨rfl, ?_, HK.out.trans H4.out.2 (fun x hx => .inl hx)⟩
  have := H4.out.1
  rwa [map_sub_sub] at this
set_option maxHeartbeats 1000000 in
set_option maxRecDepth 100000 in
theorem rlong {w : World} {r : Value} {ps : List Nat} {d : Nat} {Ns : List Nat} (s rest : List UInt8) (h : Rd w r ps d Ns (Lib.beBytes 4 s.length ++ (s ++ rest))) (hs : s.length ≤ 65536) (hl : rest.length ≤ 900000000) (hav : 4 + s.length ≤ avail Ns (Lib.beBytes 4 s.length ++ (s ++ rest))) (hd : d < w.heap.size) :
    Calls Tryz.prog 157 #[r] w fun e w' => e = .returned (.tuple #[.string ⟨s.toArray⟩, .nilIface]) ∧ Rd w' r ps d (Ns.map (· - (4 + s.length))) rest ∧ Kept ps w w' := by
  have hka : Kept [] w (w.alloc (.cells #[.int .u32 0] 70)) := (Kept.refl [] w).alloc _
  have hb0 : Blk (w.alloc (.cells #[.int .u32 0] 70)) w.heap.size #[.int .u32 0] 70 := Blk.new w _ _
  have hgp : w.heap.size ∉ ps := fun hm => by have := h.mem_lt _ hm; omega
  have hgd : w.heap.size ≠ d := by omega
  have hbl := Lib.beBytes_length 4 s.length
  have hf := rfix_u32 (Lib.beBytes 4 s.length) (s ++ rest) hbl (h.kept hka (by simp) (by simp)) (by simp; omega) (by omega) (Nat.lt_of_lt_of_le hd hka.size) w.heap.size 0 _ hb0.cell0 (hb0.free 0) hgp hgd
  rw [be_four _ (by omega)] at hf
  have hav1 : s.length ≤ avail (Ns.map (· - 4)) (s ++ rest) := by
    have := avail_map Ns (Lib.beBytes 4 s.length) (s ++ rest)
    rw [hbl] at this
    omega
  have HF := Lib.hid hf; have H := Lib.hid (And.intro hka (And.intro hb0 (And.intro hgp (And.intro hgd (And.intro hav1 (And.intro hs (And.intro hl hd)))))))
  have hsl : (s.length : Int) ≤ 65536 := by omega
  have hw : IntKind.i64.wrap (s.length : Int) = s.length := by rw [IntKind.wrap_i64]; omega
  clear hf hka hb0 hgp hgd hav1 hl hav h hbl
  go_enter Tryz.func157, Tryz.ntmps157
  go_upto_region 3 with (go_at_call 77; refine HF.out.mono ?_; rintro e w2 ⟨rfl, w1, k1, r1, rfl⟩)
  obtain ⟨ka, b0, gp, gd, av, _, hl, hd⟩ := H.out
  have hks : Kept [w.heap.size] w1 (w1.setCell ⟨w.heap.size, 0, none⟩ (.int .u32 (s.length : Nat))) := (Kept.refl _ w1).setCell (by simp) _
  have hr2 := r1.kept hks (fun p hp e => gp (by simp at e; rw [← e]; exact hp)) (by simpa using Ne.symm gd)
  have hb2 : Blk (w1.setCell ⟨w.heap.size, 0, none⟩ (.int .u32 (s.length : Nat))) w.heap.size #[.int .u32 (s.length : Nat)] 70 := (b0.kept k1 gp).setCell 0 _
  have hk2 : Kept ps w (w1.setCell ⟨w.heap.size, 0, none⟩ (.int .u32 (s.length : Nat))) := ((ka.mono (by simp)).trans k1 (fun x hx => .inl hx)).trans hks (by simp)
  generalize w1.setCell ⟨w.heap.size, 0, none⟩ (.int .u32 (s.length : Nat)) = w3 at hr2 hb2 hk2 ⊢
  have c0 := hb2.cell0
  have hrb := readBytes_le s rest hr2 (by omega) (by omega) av (Nat.lt_of_lt_of_le hd hk2.size)
  have HR := Lib.hid hrb; have HK := Lib.hid hk2
  clear hrb hk2 hr2 hb2 hks r1 k1 ka b0 gp gd av hl hd
  go_wp2_with (go_at_call 148; refine HR.out.mono ?_; rintro e w4 ⟨g, rfl, g1, g2, g3, g4⟩; have hcv := conv_blk g2 rfl; have H4 := Lib.hid (And.intro g3 g4); clear g1 g2 g3 g4)
  go_ret2
  refine ⟨rfl, ?_, HK.out.trans H4.out.2 (fun x hx => .inl hx)⟩
  have := H4.out.1
  rwa [map_sub_sub] at this
end Go.Proofs.YtkcdakohmfodjaaGreat
