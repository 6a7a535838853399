/-
  Lemmas on the way to the statement of YtkcdakohmfodjaaGreatHeader, joined out of these texts: Rfix, Pf, BadLaw. No condition.
-/
import Derived.Deep.Cut
import Derived.Lib.EndianMore
import Derived.Test.YtkcdakohmfodjaaGreatNConv
import Derived.Test.YtkcdakohmfodjaaGreatNFloat
import Derived.Test.YtkcdakohmfodjaaGreatNFrm
import Derived.Test.YtkcdakohmfodjaaGreatNLim
import Derived.Test.YtkcdakohmfodjaaGreatNOwn
import Derived.Test.YtkcdakohmfodjaaGreatNValLaw
namespace Go.Proofs.YtkcdakohmfodjaaGreat
open Go.RowKit
set_option linter.unusedVariables false
set_option linter.unusedSimpArgs false
/-- readFixed has read the bytes 'pre' and laid the value u at p. -/
def Fixed (r : Value) (ps : List Nat) (d : Nat) (Ns : List Nat) (n : Nat) (rest : List UInt8) (p : Addr) (u : Value) (w : World) (e : Ending) (w' : World) : Prop :=
  e = .returned .nilIface ∧ ∃ w1, Kept ps w w1 ∧ Rd w1 r ps d (Ns.map (· - n)) rest ∧ w' = w1.setCell p u
theorem make_bytes (n : Nat) (hb : n ≤ 281474976710656) (w : World) : (Instr.makeSlice 22 (.int .i64 n) (.int .i64 n)).run Tryz.prog w = .ok (.slice (some ⟨w.heap.size, 0, none⟩) n n) (w.alloc (.cells (List.replicate n (.int .u8 0)).toArray 5)) := make_u8 n n (Nat.le_refl _) hb w
theorem run_from32 (n : Nat) (w : World) : (callFunc 154 #[.int .u32 (n : Int)]).run Tryz.prog w = .ok (.value (.float .f32 n)) w := by kernel_rfl
theorem run_from64 (n : Nat) (w : World) : (callFunc 156 #[.int .u64 (n : Int)]).run Tryz.prog w = .ok (.value (.float .f64 n)) w := by kernel_rfl
theorem run_store_fl (k : FloatKind) (a : Addr) (b : Nat) (m : Mode) (w : World) : (store a (.float k b) m).run Tryz.prog w = stored Tryz.prog w a (.float k b) m := run_store Tryz.prog w a _ m rfl
theorem i32_same (n : Int) : IntKind.i32.wrap n = wrap32 n := by rw [IntKind.wrap_i32]; unfold wrap32; rfl
theorem i64_same (n : Int) : IntKind.i64.wrap n = wrap64 n := by rw [IntKind.wrap_i64]; unfold wrap64; rfl
theorem ta_u8_u8 (a : Addr) (w : World) : (Instr.typeAssert (.iface 375 (.pointer (some a))) 20 375 true).run Tryz.prog w = .ok (.tuple #[.pointer (some a), .bool true]) w := by kernel_rfl
theorem ta_u8_i8 (a : Addr) (w : World) : (Instr.typeAssert (.iface 375 (.pointer (some a))) 20 389 true).run Tryz.prog w = .ok (.tuple #[.pointer none, .bool false]) w := by kernel_rfl
theorem ta_u8_u16 (a : Addr) (w : World) : (Instr.typeAssert (.iface 375 (.pointer (some a))) 20 199 true).run Tryz.prog w = .ok (.tuple #[.pointer none, .bool false]) w := by kernel_rfl
theorem ta_u8_i16 (a : Addr) (w : World) : (Instr.typeAssert (.iface 375 (.pointer (some a))) 20 390 true).run Tryz.prog w = .ok (.tuple #[.pointer none, .bool false]) w := by kernel_rfl
theorem ta_u8_u32 (a : Addr) (w : World) : (Instr.typeAssert (.iface 375 (.pointer (some a))) 20 115 true).run Tryz.prog w = .ok (.tuple #[.pointer none, .bool false]) w := by kernel_rfl
theorem ta_u8_i32 (a : Addr) (w : World) : (Instr.typeAssert (.iface 375 (.pointer (some a))) 20 391 true).run Tryz.prog w = .ok (.tuple #[.pointer none, .bool false]) w := by kernel_rfl
theorem ta_u8_f32 (a : Addr) (w : World) : (Instr.typeAssert (.iface 375 (.pointer (some a))) 20 392 true).run Tryz.prog w = .ok (.tuple #[.pointer none, .bool false]) w := by kernel_rfl
theorem ta_u8_u64 (a : Addr) (w : World) : (Instr.typeAssert (.iface 375 (.pointer (some a))) 20 369 true).run Tryz.prog w = .ok (.tuple #[.pointer none, .bool false]) w := by kernel_rfl
theorem ta_u8_i64 (a : Addr) (w : World) : (Instr.typeAssert (.iface 375 (.pointer (some a))) 20 393 true).run Tryz.prog w = .ok (.tuple #[.pointer none, .bool false]) w := by kernel_rfl
theorem ta_u8_f64 (a : Addr) (w : World) : (Instr.typeAssert (.iface 375 (.pointer (some a))) 20 394 true).run Tryz.prog w = .ok (.tuple #[.pointer none, .bool false]) w := by kernel_rfl
theorem ta_i8_u8 (a : Addr) (w : World) : (Instr.typeAssert (.iface 389 (.pointer (some a))) 20 375 true).run Tryz.prog w = .ok (.tuple #[.pointer none, .bool false]) w := by kernel_rfl
theorem ta_i8_i8 (a : Addr) (w : World) : (Instr.typeAssert (.iface 389 (.pointer (some a))) 20 389 true).run Tryz.prog w = .ok (.tuple #[.pointer (some a), .bool true]) w := by kernel_rfl
theorem ta_i8_u16 (a : Addr) (w : World) : (Instr.typeAssert (.iface 389 (.pointer (some a))) 20 199 true).run Tryz.prog w = .ok (.tuple #[.pointer none, .bool false]) w := by kernel_rfl
theorem ta_i8_i16 (a : Addr) (w : World) : (Instr.typeAssert (.iface 389 (.pointer (some a))) 20 390 true).run Tryz.prog w = .ok (.tuple #[.pointer none, .bool false]) w := by kernel_rfl
theorem ta_i8_u32 (a : Addr) (w : World) : (Instr.typeAssert (.iface 389 (.pointer (some a))) 20 115 true).run Tryz.prog w = .ok (.tuple #[.pointer none, .bool false]) w := by kernel_rfl
theorem ta_i8_i32 (a : Addr) (w : World) : (Instr.typeAssert (.iface 389 (.pointer (some a))) 20 391 true).run Tryz.prog w = .ok (.tuple #[.pointer none, .bool false]) w := by kernel_rfl
theorem ta_i8_f32 (a : Addr) (w : World) : (Instr.typeAssert (.iface 389 (.pointer (some a))) 20 392 true).run Tryz.prog w = .ok (.tuple #[.pointer none, .bool false]) w := by kernel_rfl
theorem ta_i8_u64 (a : Addr) (w : World) : (Instr.typeAssert (.iface 389 (.pointer (some a))) 20 369 true).run Tryz.prog w = .ok (.tuple #[.pointer none, .bool false]) w := by kernel_rfl
theorem ta_i8_i64 (a : Addr) (w : World) : (Instr.typeAssert (.iface 389 (.pointer (some a))) 20 393 true).run Tryz.prog w = .ok (.tuple #[.pointer none, .bool false]) w := by kernel_rfl
theorem ta_i8_f64 (a : Addr) (w : World) : (Instr.typeAssert (.iface 389 (.pointer (some a))) 20 394 true).run Tryz.prog w = .ok (.tuple #[.pointer none, .bool false]) w := by kernel_rfl
theorem ta_u16_u8 (a : Addr) (w : World) : (Instr.typeAssert (.iface 199 (.pointer (some a))) 20 375 true).run Tryz.prog w = .ok (.tuple #[.pointer none, .bool false]) w := by kernel_rfl
theorem ta_u16_i8 (a : Addr) (w : World) : (Instr.typeAssert (.iface 199 (.pointer (some a))) 20 389 true).run Tryz.prog w = .ok (.tuple #[.pointer none, .bool false]) w := by kernel_rfl
theorem ta_u16_u16 (a : Addr) (w : World) : (Instr.typeAssert (.iface 199 (.pointer (some a))) 20 199 true).run Tryz.prog w = .ok (.tuple #[.pointer (some a), .bool true]) w := by kernel_rfl
theorem ta_u16_i16 (a : Addr) (w : World) : (Instr.typeAssert (.iface 199 (.pointer (some a))) 20 390 true).run Tryz.prog w = .ok (.tuple #[.pointer none, .bool false]) w := by kernel_rfl
theorem ta_u16_u32 (a : Addr) (w : World) : (Instr.typeAssert (.iface 199 (.pointer (some a))) 20 115 true).run Tryz.prog w = .ok (.tuple #[.pointer none, .bool false]) w := by kernel_rfl
theorem ta_u16_i32 (a : Addr) (w : World) : (Instr.typeAssert (.iface 199 (.pointer (some a))) 20 391 true).run Tryz.prog w = .ok (.tuple #[.pointer none, .bool false]) w := by kernel_rfl
theorem ta_u16_f32 (a : Addr) (w : World) : (Instr.typeAssert (.iface 199 (.pointer (some a))) 20 392 true).run Tryz.prog w = .ok (.tuple #[.pointer none, .bool false]) w := by kernel_rfl
theorem ta_u16_u64 (a : Addr) (w : World) : (Instr.typeAssert (.iface 199 (.pointer (some a))) 20 369 true).run Tryz.prog w = .ok (.tuple #[.pointer none, .bool false]) w := by kernel_rfl
theorem ta_u16_i64 (a : Addr) (w : World) : (Instr.typeAssert (.iface 199 (.pointer (some a))) 20 393 true).run Tryz.prog w = .ok (.tuple #[.pointer none, .bool false]) w := by kernel_rfl
theorem ta_u16_f64 (a : Addr) (w : World) : (Instr.typeAssert (.iface 199 (.pointer (some a))) 20 394 true).run Tryz.prog w = .ok (.tuple #[.pointer none, .bool false]) w := by kernel_rfl
theorem ta_i16_u8 (a : Addr) (w : World) : (Instr.typeAssert (.iface 390 (.pointer (some a))) 20 375 true).run Tryz.prog w = .ok (.tuple #[.pointer none, .bool false]) w := by kernel_rfl
theorem ta_i16_i8 (a : Addr) (w : World) : (Instr.typeAssert (.iface 390 (.pointer (some a))) 20 389 true).run Tryz.prog w = .ok (.tuple #[.pointer none, .bool false]) w := by kernel_rfl
theorem ta_i16_u16 (a : Addr) (w : World) : (Instr.typeAssert (.iface 390 (.pointer (some a))) 20 199 true).run Tryz.prog w = .ok (.tuple #[.pointer none, .bool false]) w := by kernel_rfl
theorem ta_i16_i16 (a : Addr) (w : World) : (Instr.typeAssert (.iface 390 (.pointer (some a))) 20 390 true).run Tryz.prog w = .ok (.tuple #[.pointer (some a), .bool true]) w := by kernel_rfl
theorem ta_i16_u32 (a : Addr) (w : World) : (Instr.typeAssert (.iface 390 (.pointer (some a))) 20 115 true).run Tryz.prog w = .ok (.tuple #[.pointer none, .bool false]) w := by kernel_rfl
theorem ta_i16_i32 (a : Addr) (w : World) : (Instr.typeAssert (.iface 390 (.pointer (some a))) 20 391 true).run Tryz.prog w = .ok (.tuple #[.pointer none, .bool false]) w := by kernel_rfl
theorem ta_i16_f32 (a : Addr) (w : World) : (Instr.typeAssert (.iface 390 (.pointer (some a))) 20 392 true).run Tryz.prog w = .ok (.tuple #[.pointer none, .bool false]) w := by kernel_rfl
theorem ta_i16_u64 (a : Addr) (w : World) : (Instr.typeAssert (.iface 390 (.pointer (some a))) 20 369 true).run Tryz.prog w = .ok (.tuple #[.pointer none, .bool false]) w := by kernel_rfl
theorem ta_i16_i64 (a : Addr) (w : World) : (Instr.typeAssert (.iface 390 (.pointer (some a))) 20 393 true).run Tryz.prog w = .ok (.tuple #[.pointer none, .bool false]) w := by kernel_rfl
theorem ta_i16_f64 (a : Addr) (w : World) : (Instr.typeAssert (.iface 390 (.pointer (some a))) 20 394 true).run Tryz.prog w = .ok (.tuple #[.pointer none, .bool false]) w := by kernel_rfl
theorem ta_u32_u8 (a : Addr) (w : World) : (Instr.typeAssert (.iface 115 (.pointer (some a))) 20 375 true).run Tryz.prog w = .ok (.tuple #[.pointer none, .bool false]) w := by kernel_rfl
theorem ta_u32_i8 (a : Addr) (w : World) : (Instr.typeAssert (.iface 115 (.pointer (some a))) 20 389 true).run Tryz.prog w = .ok (.tuple #[.pointer none, .bool false]) w := by kernel_rfl
theorem ta_u32_u16 (a : Addr) (w : World) : (Instr.typeAssert (.iface 115 (.pointer (some a))) 20 199 true).run Tryz.prog w = .ok (.tuple #[.pointer none, .bool false]) w := by kernel_rfl
theorem ta_u32_i16 (a : Addr) (w : World) : (Instr.typeAssert (.iface 115 (.pointer (some a))) 20 390 true).run Tryz.prog w = .ok (.tuple #[.pointer none, .bool false]) w := by kernel_rfl
theorem ta_u32_u32 (a : Addr) (w : World) : (Instr.typeAssert (.iface 115 (.pointer (some a))) 20 115 true).run Tryz.prog w = .ok (.tuple #[.pointer (some a), .bool true]) w := by kernel_rfl
theorem ta_u32_i32 (a : Addr) (w : World) : (Instr.typeAssert (.iface 115 (.pointer (some a))) 20 391 true).run Tryz.prog w = .ok (.tuple #[.pointer none, .bool false]) w := by kernel_rfl
theorem ta_u32_f32 (a : Addr) (w : World) : (Instr.typeAssert (.iface 115 (.pointer (some a))) 20 392 true).run Tryz.prog w = .ok (.tuple #[.pointer none, .bool false]) w := by kernel_rfl
theorem ta_u32_u64 (a : Addr) (w : World) : (Instr.typeAssert (.iface 115 (.pointer (some a))) 20 369 true).run Tryz.prog w = .ok (.tuple #[.pointer none, .bool false]) w := by kernel_rfl
theorem ta_u32_i64 (a : Addr) (w : World) : (Instr.typeAssert (.iface 115 (.pointer (some a))) 20 393 true).run Tryz.prog w = .ok (.tuple #[.pointer none, .bool false]) w := by kernel_rfl
theorem ta_u32_f64 (a : Addr) (w : World) : (Instr.typeAssert (.iface 115 (.pointer (some a))) 20 394 true).run Tryz.prog w = .ok (.tuple #[.pointer none, .bool false]) w := by kernel_rfl
theorem ta_i32_u8 (a : Addr) (w : World) : (Instr.typeAssert (.iface 391 (.pointer (some a))) 20 375 true).run Tryz.prog w = .ok (.tuple #[.pointer none, .bool false]) w := by kernel_rfl
theorem ta_i32_i8 (a : Addr) (w : World) : (Instr.typeAssert (.iface 391 (.pointer (some a))) 20 389 true).run Tryz.prog w = .ok (.tuple #[.pointer none, .bool false]) w := by kernel_rfl
theorem ta_i32_u16 (a : Addr) (w : World) : (Instr.typeAssert (.iface 391 (.pointer (some a))) 20 199 true).run Tryz.prog w = .ok (.tuple #[.pointer none, .bool false]) w := by kernel_rfl
theorem ta_i32_i16 (a : Addr) (w : World) : (Instr.typeAssert (.iface 391 (.pointer (some a))) 20 390 true).run Tryz.prog w = .ok (.tuple #[.pointer none, .bool false]) w := by kernel_rfl
theorem ta_i32_u32 (a : Addr) (w : World) : (Instr.typeAssert (.iface 391 (.pointer (some a))) 20 115 true).run Tryz.prog w = .ok (.tuple #[.pointer none, .bool false]) w := by kernel_rfl
theorem ta_i32_i32 (a : Addr) (w : World) : (Instr.typeAssert (.iface 391 (.pointer (some a))) 20 391 true).run Tryz.prog w = .ok (.tuple #[.pointer (some a), .bool true]) w := by kernel_rfl
theorem ta_i32_f32 (a : Addr) (w : World) : (Instr.typeAssert (.iface 391 (.pointer (some a))) 20 392 true).run Tryz.prog w = .ok (.tuple #[.pointer none, .bool false]) w := by kernel_rfl
theorem ta_i32_u64 (a : Addr) (w : World) : (Instr.typeAssert (.iface 391 (.pointer (some a))) 20 369 true).run Tryz.prog w = .ok (.tuple #[.pointer none, .bool false]) w := by kernel_rfl
theorem ta_i32_i64 (a : Addr) (w : World) : (Instr.typeAssert (.iface 391 (.pointer (some a))) 20 393 true).run Tryz.prog w = .ok (.tuple #[.pointer none, .bool false]) w := by kernel_rfl
theorem ta_i32_f64 (a : Addr) (w : World) : (Instr.typeAssert (.iface 391 (.pointer (some a))) 20 394 true).run Tryz.prog w = .ok (.tuple #[.pointer none, .bool false]) w := by kernel_rfl
theorem ta_f32_u8 (a : Addr) (w : World) : (Instr.typeAssert (.iface 392 (.pointer (some a))) 20 375 true).run Tryz.prog w = .ok (.tuple #[.pointer none, .bool false]) w := by kernel_rfl
theorem ta_f32_i8 (a : Addr) (w : World) : (Instr.typeAssert (.iface 392 (.pointer (some a))) 20 389 true).run Tryz.prog w = .ok (.tuple #[.pointer none, .bool false]) w := by kernel_rfl
theorem ta_f32_u16 (a : Addr) (w : World) : (Instr.typeAssert (.iface 392 (.pointer (some a))) 20 199 true).run Tryz.prog w = .ok (.tuple #[.pointer none, .bool false]) w := by kernel_rfl
theorem ta_f32_i16 (a : Addr) (w : World) : (Instr.typeAssert (.iface 392 (.pointer (some a))) 20 390 true).run Tryz.prog w = .ok (.tuple #[.pointer none, .bool false]) w := by kernel_rfl
theorem ta_f32_u32 (a : Addr) (w : World) : (Instr.typeAssert (.iface 392 (.pointer (some a))) 20 115 true).run Tryz.prog w = .ok (.tuple #[.pointer none, .bool false]) w := by kernel_rfl
theorem ta_f32_i32 (a : Addr) (w : World) : (Instr.typeAssert (.iface 392 (.pointer (some a))) 20 391 true).run Tryz.prog w = .ok (.tuple #[.pointer none, .bool false]) w := by kernel_rfl
theorem ta_f32_f32 (a : Addr) (w : World) : (Instr.typeAssert (.iface 392 (.pointer (some a))) 20 392 true).run Tryz.prog w = .ok (.tuple #[.pointer (some a), .bool true]) w := by kernel_rfl
theorem ta_f32_u64 (a : Addr) (w : World) : (Instr.typeAssert (.iface 392 (.pointer (some a))) 20 369 true).run Tryz.prog w = .ok (.tuple #[.pointer none, .bool false]) w := by kernel_rfl
theorem ta_f32_i64 (a : Addr) (w : World) : (Instr.typeAssert (.iface 392 (.pointer (some a))) 20 393 true).run Tryz.prog w = .ok (.tuple #[.pointer none, .bool false]) w := by kernel_rfl
theorem ta_f32_f64 (a : Addr) (w : World) : (Instr.typeAssert (.iface 392 (.pointer (some a))) 20 394 true).run Tryz.prog w = .ok (.tuple #[.pointer none, .bool false]) w := by kernel_rfl
theorem ta_u64_u8 (a : Addr) (w : World) : (Instr.typeAssert (.iface 369 (.pointer (some a))) 20 375 true).run Tryz.prog w = .ok (.tuple #[.pointer none, .bool false]) w := by kernel_rfl
theorem ta_u64_i8 (a : Addr) (w : World) : (Instr.typeAssert (.iface 369 (.pointer (some a))) 20 389 true).run Tryz.prog w = .ok (.tuple #[.pointer none, .bool false]) w := by kernel_rfl
theorem ta_u64_u16 (a : Addr) (w : World) : (Instr.typeAssert (.iface 369 (.pointer (some a))) 20 199 true).run Tryz.prog w = .ok (.tuple #[.pointer none, .bool false]) w := by kernel_rfl
theorem ta_u64_i16 (a : Addr) (w : World) : (Instr.typeAssert (.iface 369 (.pointer (some a))) 20 390 true).run Tryz.prog w = .ok (.tuple #[.pointer none, .bool false]) w := by kernel_rfl
theorem ta_u64_u32 (a : Addr) (w : World) : (Instr.typeAssert (.iface 369 (.pointer (some a))) 20 115 true).run Tryz.prog w = .ok (.tuple #[.pointer none, .bool false]) w := by kernel_rfl
theorem ta_u64_i32 (a : Addr) (w : World) : (Instr.typeAssert (.iface 369 (.pointer (some a))) 20 391 true).run Tryz.prog w = .ok (.tuple #[.pointer none, .bool false]) w := by kernel_rfl
theorem ta_u64_f32 (a : Addr) (w : World) : (Instr.typeAssert (.iface 369 (.pointer (some a))) 20 392 true).run Tryz.prog w = .ok (.tuple #[.pointer none, .bool false]) w := by kernel_rfl
theorem ta_u64_u64 (a : Addr) (w : World) : (Instr.typeAssert (.iface 369 (.pointer (some a))) 20 369 true).run Tryz.prog w = .ok (.tuple #[.pointer (some a), .bool true]) w := by kernel_rfl
theorem ta_u64_i64 (a : Addr) (w : World) : (Instr.typeAssert (.iface 369 (.pointer (some a))) 20 393 true).run Tryz.prog w = .ok (.tuple #[.pointer none, .bool false]) w := by kernel_rfl
theorem ta_u64_f64 (a : Addr) (w : World) : (Instr.typeAssert (.iface 369 (.pointer (some a))) 20 394 true).run Tryz.prog w = .ok (.tuple #[.pointer none, .bool false]) w := by kernel_rfl
theorem ta_i64_u8 (a : Addr) (w : World) : (Instr.typeAssert (.iface 393 (.pointer (some a))) 20 375 true).run Tryz.prog w = .ok (.tuple #[.pointer none, .bool false]) w := by kernel_rfl
theorem ta_i64_i8 (a : Addr) (w : World) : (Instr.typeAssert (.iface 393 (.pointer (some a))) 20 389 true).run Tryz.prog w = .ok (.tuple #[.pointer none, .bool false]) w := by kernel_rfl
theorem ta_i64_u16 (a : Addr) (w : World) : (Instr.typeAssert (.iface 393 (.pointer (some a))) 20 199 true).run Tryz.prog w = .ok (.tuple #[.pointer none, .bool false]) w := by kernel_rfl
theorem ta_i64_i16 (a : Addr) (w : World) : (Instr.typeAssert (.iface 393 (.pointer (some a))) 20 390 true).run Tryz.prog w = .ok (.tuple #[.pointer none, .bool false]) w := by kernel_rfl
theorem ta_i64_u32 (a : Addr) (w : World) : (Instr.typeAssert (.iface 393 (.pointer (some a))) 20 115 true).run Tryz.prog w = .ok (.tuple #[.pointer none, .bool false]) w := by kernel_rfl
theorem ta_i64_i32 (a : Addr) (w : World) : (Instr.typeAssert (.iface 393 (.pointer (some a))) 20 391 true).run Tryz.prog w = .ok (.tuple #[.pointer none, .bool false]) w := by kernel_rfl
theorem ta_i64_f32 (a : Addr) (w : World) : (Instr.typeAssert (.iface 393 (.pointer (some a))) 20 392 true).run Tryz.prog w = .ok (.tuple #[.pointer none, .bool false]) w := by kernel_rfl
theorem ta_i64_u64 (a : Addr) (w : World) : (Instr.typeAssert (.iface 393 (.pointer (some a))) 20 369 true).run Tryz.prog w = .ok (.tuple #[.pointer none, .bool false]) w := by kernel_rfl
theorem ta_i64_i64 (a : Addr) (w : World) : (Instr.typeAssert (.iface 393 (.pointer (some a))) 20 393 true).run Tryz.prog w = .ok (.tuple #[.pointer (some a), .bool true]) w := by kernel_rfl
theorem ta_i64_f64 (a : Addr) (w : World) : (Instr.typeAssert (.iface 393 (.pointer (some a))) 20 394 true).run Tryz.prog w = .ok (.tuple #[.pointer none, .bool false]) w := by kernel_rfl
theorem ta_f64_u8 (a : Addr) (w : World) : (Instr.typeAssert (.iface 394 (.pointer (some a))) 20 375 true).run Tryz.prog w = .ok (.tuple #[.pointer none, .bool false]) w := by kernel_rfl
theorem ta_f64_i8 (a : Addr) (w : World) : (Instr.typeAssert (.iface 394 (.pointer (some a))) 20 389 true).run Tryz.prog w = .ok (.tuple #[.pointer none, .bool false]) w := by kernel_rfl
theorem ta_f64_u16 (a : Addr) (w : World) : (Instr.typeAssert (.iface 394 (.pointer (some a))) 20 199 true).run Tryz.prog w = .ok (.tuple #[.pointer none, .bool false]) w := by kernel_rfl
theorem ta_f64_i16 (a : Addr) (w : World) : (Instr.typeAssert (.iface 394 (.pointer (some a))) 20 390 true).run Tryz.prog w = .ok (.tuple #[.pointer none, .bool false]) w := by kernel_rfl
theorem ta_f64_u32 (a : Addr) (w : World) : (Instr.typeAssert (.iface 394 (.pointer (some a))) 20 115 true).run Tryz.prog w = .ok (.tuple #[.pointer none, .bool false]) w := by kernel_rfl
theorem ta_f64_i32 (a : Addr) (w : World) : (Instr.typeAssert (.iface 394 (.pointer (some a))) 20 391 true).run Tryz.prog w = .ok (.tuple #[.pointer none, .bool false]) w := by kernel_rfl
theorem ta_f64_f32 (a : Addr) (w : World) : (Instr.typeAssert (.iface 394 (.pointer (some a))) 20 392 true).run Tryz.prog w = .ok (.tuple #[.pointer none, .bool false]) w := by kernel_rfl
theorem ta_f64_u64 (a : Addr) (w : World) : (Instr.typeAssert (.iface 394 (.pointer (some a))) 20 369 true).run Tryz.prog w = .ok (.tuple #[.pointer none, .bool false]) w := by kernel_rfl
theorem ta_f64_i64 (a : Addr) (w : World) : (Instr.typeAssert (.iface 394 (.pointer (some a))) 20 393 true).run Tryz.prog w = .ok (.tuple #[.pointer none, .bool false]) w := by kernel_rfl
theorem ta_f64_f64 (a : Addr) (w : World) : (Instr.typeAssert (.iface 394 (.pointer (some a))) 20 394 true).run Tryz.prog w = .ok (.tuple #[.pointer (some a), .bool true]) w := by kernel_rfl
set_option maxHeartbeats 1000000 in
set_option maxRecDepth 100000 in
theorem rfix_u8 {w : World} {r : Value} {ps : List Nat} {d : Nat} {Ns : List Nat} (pre rest : List UInt8) (hpre : pre.length = 1) (h : Rd w r ps d Ns (pre ++ rest)) (hl : rest.length ≤ 1000000000) (hav : 1 ≤ avail Ns (pre ++ rest)) (hd : d < w.heap.size) (pb po : Nat) (v0 : Value)
    (hp : w.cell? ⟨pb, po, none⟩ = some v0) (hpf : w.frozen? ⟨pb, po, none⟩ = false) (hpp : pb ∉ ps) (hpd : pb ≠ d) :
    Calls Tryz.prog 77 #[r, .iface 375 (.pointer (some ⟨pb, po, none⟩))] w (Fixed r ps d Ns 1 rest ⟨pb, po, none⟩ (.int .u8 (Lib.beNat pre : Nat)) w) := by
  obtain ⟨b0, rfl⟩ : ∃ b0, pre = [b0] := by
    match pre, hpre with
    | [b0], _ => exact ⟨_, rfl⟩
  obtain ⟨wa, hwa⟩ : ∃ wa, wa = w.alloc (.cells (List.replicate 1 (.int .u8 0)).toArray 5) := ⟨_, rfl⟩
  have hmk : (Instr.makeSlice 22 (.int .i64 1) (.int .i64 1)).run Tryz.prog w = .ok (.slice (some ⟨w.heap.size, 0, none⟩) 1 1) wa := by rw [hwa]; exact make_bytes 1 (by omega) w
  have hka : Kept [] w wa := by rw [hwa]; exact (Kept.refl [] w).alloc _
  have hpl : pb < w.heap.size := World.block_lt_of_cell? w _ hp
  have hfull := (h.kept hka (by simp) (by simp)).full (by unfold Small; simp; omega) 1 1 w.heap.size 0 _ (by omega) (Nat.le_refl _) (by unfold Small; omega) (by rw [hwa]; exact Blk.new w (List.replicate 1 (Value.int .u8 0)).toArray 5) (by simp) (fun hm => by have := h.mem_lt _ hm; omega) (by omega) hav
  have HF := Lib.hid hfull; have HK := Lib.hid (And.intro hka (And.intro hp (And.intro hpf (And.intro hpp (And.intro hpd hpl)))))
  have HH := Lib.hid h
  clear hfull hka hp hpf hpp hpd hpl h hav hpre hwa
  have t_u8 := ta_u8_u8
  have t_i8 := ta_u8_i8
  have t_u16 := ta_u8_u16
  have t_i16 := ta_u8_i16
  have t_u32 := ta_u8_u32
  have t_i32 := ta_u8_i32
  have t_f32 := ta_u8_f32
  have t_u64 := ta_u8_u64
  have t_i64 := ta_u8_i64
  have t_f64 := ta_u8_f64
  go_enter Tryz.func77, Tryz.ntmps77
  go_upto_region 14 with (go_at_call 56; refine HF.out.mono ?_; rintro e w2 ⟨rfl, hG⟩)
  obtain ⟨g1, g2, g3⟩ := hG
  have hkw : Kept ps w w2 := (HK.out.1.mono (by simp)).trans g3 (fun x hx => by
    simp only [List.mem_cons] at hx
    rcases hx with rfl | hx
    · exact .inr (Nat.le_refl _)
    · exact .inl hx)
  rw [splice_all 1 _ _ (by simp)] at g2
  have g1' : Rd w2 r ps d (Ns.map (· - 1)) rest := by simpa using g1
  have H2 := Lib.hid (And.intro g1' (And.intro g2 (And.intro (0 : Nat).le_refl hkw)))
  have p2 : w2.cell? ⟨pb, po, none⟩ = some v0 := hkw.cell HK.out.2.1 HK.out.2.2.2.1
  have pf2 : w2.frozen? ⟨pb, po, none⟩ = false := by rw [hkw.frozen HK.out.2.2.2.2.2 HK.out.2.2.2.1]; exact HK.out.2.2.1
  have hcell := g2.cell
  have x0 : w2.cell? ⟨w.heap.size, 0, none⟩ = some (.int .u8 b0.toNat) := hcell 0
  clear g1 g2 g3 g1' hkw hcell hmk
  have HB1 := Lib.hid (show Lib.beNat [b0] = b0.toNat by simp [Lib.beNat, Lib.beFrom])
  go_wp2_with fail
  go_ret
  exact ⟨rfl, _, H2.out.2.2.2, H2.out.1, by rw [HB1.out]⟩
set_option maxHeartbeats 1000000 in
set_option maxRecDepth 100000 in
theorem rfix_i8 {w : World} {r : Value} {ps : List Nat} {d : Nat} {Ns : List Nat} (pre rest : List UInt8) (hpre : pre.length = 1) (h : Rd w r ps d Ns (pre ++ rest)) (hl : rest.length ≤ 1000000000) (hav : 1 ≤ avail Ns (pre ++ rest)) (hd : d < w.heap.size) (pb po : Nat) (v0 : Value)
    (hp : w.cell? ⟨pb, po, none⟩ = some v0) (hpf : w.frozen? ⟨pb, po, none⟩ = false) (hpp : pb ∉ ps) (hpd : pb ≠ d) :
    Calls Tryz.prog 77 #[r, .iface 389 (.pointer (some ⟨pb, po, none⟩))] w (Fixed r ps d Ns 1 rest ⟨pb, po, none⟩ (.int .i8 (IntKind.i8.wrap (Lib.beNat pre : Nat))) w) := by
  obtain ⟨b0, rfl⟩ : ∃ b0, pre = [b0] := by
    match pre, hpre with
    | [b0], _ => exact ⟨_, rfl⟩
  obtain ⟨wa, hwa⟩ : ∃ wa, wa = w.alloc (.cells (List.replicate 1 (.int .u8 0)).toArray 5) := ⟨_, rfl⟩
  have hmk : (Instr.makeSlice 22 (.int .i64 1) (.int .i64 1)).run Tryz.prog w = .ok (.slice (some ⟨w.heap.size, 0, none⟩) 1 1) wa := by rw [hwa]; exact make_bytes 1 (by omega) w
  have hka : Kept [] w wa := by rw [hwa]; exact (Kept.refl [] w).alloc _
  have hpl : pb < w.heap.size := World.block_lt_of_cell? w _ hp
  have hfull := (h.kept hka (by simp) (by simp)).full (by unfold Small; simp; omega) 1 1 w.heap.size 0 _ (by omega) (Nat.le_refl _) (by unfold Small; omega) (by rw [hwa]; exact Blk.new w (List.replicate 1 (Value.int .u8 0)).toArray 5) (by simp) (fun hm => by have := h.mem_lt _ hm; omega) (by omega) hav
  have HF := Lib.hid hfull; have HK := Lib.hid (And.intro hka (And.intro hp (And.intro hpf (And.intro hpp (And.intro hpd hpl)))))
  have HH := Lib.hid h
  clear hfull hka hp hpf hpp hpd hpl h hav hpre hwa
  have t_u8 := ta_i8_u8
  have t_i8 := ta_i8_i8
  have t_u16 := ta_i8_u16
  have t_i16 := ta_i8_i16
  have t_u32 := ta_i8_u32
  have t_i32 := ta_i8_i32
  have t_f32 := ta_i8_f32
  have t_u64 := ta_i8_u64
  have t_i64 := ta_i8_i64
  have t_f64 := ta_i8_f64
  go_enter Tryz.func77, Tryz.ntmps77
  go_upto_region 14 with (go_at_call 56; refine HF.out.mono ?_; rintro e w2 ⟨rfl, hG⟩)
  obtain ⟨g1, g2, g3⟩ := hG
  have hkw : Kept ps w w2 := (HK.out.1.mono (by simp)).trans g3 (fun x hx => by
    simp only [List.mem_cons] at hx
    rcases hx with rfl | hx
    · exact .inr (Nat.le_refl _)
    · exact .inl hx)
  rw [splice_all 1 _ _ (by simp)] at g2
  have g1' : Rd w2 r ps d (Ns.map (· - 1)) rest := by simpa using g1
  have H2 := Lib.hid (And.intro g1' (And.intro g2 (And.intro (0 : Nat).le_refl hkw)))
  have p2 : w2.cell? ⟨pb, po, none⟩ = some v0 := hkw.cell HK.out.2.1 HK.out.2.2.2.1
  have pf2 : w2.frozen? ⟨pb, po, none⟩ = false := by rw [hkw.frozen HK.out.2.2.2.2.2 HK.out.2.2.2.1]; exact HK.out.2.2.1
  have hcell := g2.cell
  have x0 : w2.cell? ⟨w.heap.size, 0, none⟩ = some (.int .u8 b0.toNat) := hcell 0
  clear g1 g2 g3 g1' hkw hcell hmk
  have HB1 := Lib.hid (show Lib.beNat [b0] = b0.toNat by simp [Lib.beNat, Lib.beFrom])
  go_wp2_with fail
  go_ret
  exact ⟨rfl, _, H2.out.2.2.2, H2.out.1, by rw [HB1.out]⟩
set_option maxHeartbeats 1000000 in
set_option maxRecDepth 100000 in
theorem rfix_u16 {w : World} {r : Value} {ps : List Nat} {d : Nat} {Ns : List Nat} (pre rest : List UInt8) (hpre : pre.length = 2) (h : Rd w r ps d Ns (pre ++ rest)) (hl : rest.length ≤ 1000000000) (hav : 2 ≤ avail Ns (pre ++ rest)) (hd : d < w.heap.size) (pb po : Nat) (v0 : Value)
    (hp : w.cell? ⟨pb, po, none⟩ = some v0) (hpf : w.frozen? ⟨pb, po, none⟩ = false) (hpp : pb ∉ ps) (hpd : pb ≠ d) :
    Calls Tryz.prog 77 #[r, .iface 199 (.pointer (some ⟨pb, po, none⟩))] w (Fixed r ps d Ns 2 rest ⟨pb, po, none⟩ (.int .u16 (Lib.beNat pre : Nat)) w) := by
  obtain ⟨b0, b1, rfl⟩ : ∃ b0 b1, pre = [b0, b1] := by
    match pre, hpre with
    | [b0, b1], _ => exact ⟨_, _, rfl⟩
  obtain ⟨wa, hwa⟩ : ∃ wa, wa = w.alloc (.cells (List.replicate 2 (.int .u8 0)).toArray 5) := ⟨_, rfl⟩
  have hmk : (Instr.makeSlice 22 (.int .i64 2) (.int .i64 2)).run Tryz.prog w = .ok (.slice (some ⟨w.heap.size, 0, none⟩) 2 2) wa := by rw [hwa]; exact make_bytes 2 (by omega) w
  have hka : Kept [] w wa := by rw [hwa]; exact (Kept.refl [] w).alloc _
  have hpl : pb < w.heap.size := World.block_lt_of_cell? w _ hp
  have hfull := (h.kept hka (by simp) (by simp)).full (by unfold Small; simp; omega) 2 2 w.heap.size 0 _ (by omega) (Nat.le_refl _) (by unfold Small; omega) (by rw [hwa]; exact Blk.new w (List.replicate 2 (Value.int .u8 0)).toArray 5) (by simp) (fun hm => by have := h.mem_lt _ hm; omega) (by omega) hav
  have HF := Lib.hid hfull; have HK := Lib.hid (And.intro hka (And.intro hp (And.intro hpf (And.intro hpp (And.intro hpd hpl)))))
  have HH := Lib.hid h
  clear hfull hka hp hpf hpp hpd hpl h hav hpre hwa
  have t_u8 := ta_u16_u8
  have t_i8 := ta_u16_i8
  have t_u16 := ta_u16_u16
  have t_i16 := ta_u16_i16
  have t_u32 := ta_u16_u32
  have t_i32 := ta_u16_i32
  have t_f32 := ta_u16_f32
  have t_u64 := ta_u16_u64
  have t_i64 := ta_u16_i64
  have t_f64 := ta_u16_f64
  go_enter Tryz.func77, Tryz.ntmps77
  go_upto_region 14 with (go_at_call 56; refine HF.out.mono ?_; rintro e w2 ⟨rfl, hG⟩)
  obtain ⟨g1, g2, g3⟩ := hG
  have hkw : Kept ps w w2 := (HK.out.1.mono (by simp)).trans g3 (fun x hx => by
    simp only [List.mem_cons] at hx
    rcases hx with rfl | hx
    · exact .inr (Nat.le_refl _)
    · exact .inl hx)
  rw [splice_all 2 _ _ (by simp)] at g2
  have g1' : Rd w2 r ps d (Ns.map (· - 2)) rest := by simpa using g1
  have H2 := Lib.hid (And.intro g1' (And.intro g2 (And.intro (0 : Nat).le_refl hkw)))
  have p2 : w2.cell? ⟨pb, po, none⟩ = some v0 := hkw.cell HK.out.2.1 HK.out.2.2.2.1
  have pf2 : w2.frozen? ⟨pb, po, none⟩ = false := by rw [hkw.frozen HK.out.2.2.2.2.2 HK.out.2.2.2.1]; exact HK.out.2.2.1
  have hcell := g2.cell
  have x0 : w2.cell? ⟨w.heap.size, 0, none⟩ = some (.int .u8 b0.toNat) := hcell 0
  have x1 : w2.cell? ⟨w.heap.size, 1, none⟩ = some (.int .u8 b1.toNat) := hcell 1
  clear g1 g2 g3 g1' hkw hcell hmk
  have hbe := be16_any w.heap.size 0 2 2 b0 b1 w2 (by omega) x0 (by simpa using x1)
  have HBE := Lib.hid hbe; clear hbe
  go_wp2_with (go_at_call 57; refine HBE.out.mono ?_; rintro e w3 ⟨rfl, kk, rfl⟩)
  go_ret
  exact ⟨rfl, _, (H2.out.2.2.2.trans (drewN_kept w2 kk ps) (fun x hx => .inl hx)), (H2.out.1.kept (drewN_kept w2 kk []) (by simp) (by simp)), rfl⟩
set_option maxHeartbeats 1000000 in
set_option maxRecDepth 100000 in
theorem rfix_i16 {w : World} {r : Value} {ps : List Nat} {d : Nat} {Ns : List Nat} (pre rest : List UInt8) (hpre : pre.length = 2) (h : Rd w r ps d Ns (pre ++ rest)) (hl : rest.length ≤ 1000000000) (hav : 2 ≤ avail Ns (pre ++ rest)) (hd : d < w.heap.size) (pb po : Nat) (v0 : Value)
    (hp : w.cell? ⟨pb, po, none⟩ = some v0) (hpf : w.frozen? ⟨pb, po, none⟩ = false) (hpp : pb ∉ ps) (hpd : pb ≠ d) :
    Calls Tryz.prog 77 #[r, .iface 390 (.pointer (some ⟨pb, po, none⟩))] w (Fixed r ps d Ns 2 rest ⟨pb, po, none⟩ (.int .i16 (IntKind.i16.wrap (Lib.beNat pre : Nat))) w) := by
  obtain ⟨b0, b1, rfl⟩ : ∃ b0 b1, pre = [b0, b1] := by
    match pre, hpre with
    | [b0, b1], _ => exact ⟨_, _, rfl⟩
  obtain ⟨wa, hwa⟩ : ∃ wa, wa = w.alloc (.cells (List.replicate 2 (.int .u8 0)).toArray 5) := ⟨_, rfl⟩
  have hmk : (Instr.makeSlice 22 (.int .i64 2) (.int .i64 2)).run Tryz.prog w = .ok (.slice (some ⟨w.heap.size, 0, none⟩) 2 2) wa := by rw [hwa]; exact make_bytes 2 (by omega) w
  have hka : Kept [] w wa := by rw [hwa]; exact (Kept.refl [] w).alloc _
  have hpl : pb < w.heap.size := World.block_lt_of_cell? w _ hp
  have hfull := (h.kept hka (by simp) (by simp)).full (by unfold Small; simp; omega) 2 2 w.heap.size 0 _ (by omega) (Nat.le_refl _) (by unfold Small; omega) (by rw [hwa]; exact Blk.new w (List.replicate 2 (Value.int .u8 0)).toArray 5) (by simp) (fun hm => by have := h.mem_lt _ hm; omega) (by omega) hav
  have HF := Lib.hid hfull; have HK := Lib.hid (And.intro hka (And.intro hp (And.intro hpf (And.intro hpp (And.intro hpd hpl)))))
  have HH := Lib.hid h
  clear hfull hka hp hpf hpp hpd hpl h hav hpre hwa
  have t_u8 := ta_i16_u8
  have t_i8 := ta_i16_i8
  have t_u16 := ta_i16_u16
  have t_i16 := ta_i16_i16
  have t_u32 := ta_i16_u32
  have t_i32 := ta_i16_i32
  have t_f32 := ta_i16_f32
  have t_u64 := ta_i16_u64
  have t_i64 := ta_i16_i64
  have t_f64 := ta_i16_f64
  go_enter Tryz.func77, Tryz.ntmps77
  go_upto_region 14 with (go_at_call 56; refine HF.out.mono ?_; rintro e w2 ⟨rfl, hG⟩)
  obtain ⟨g1, g2, g3⟩ := hG
  have hkw : Kept ps w w2 := (HK.out.1.mono (by simp)).trans g3 (fun x hx => by
    simp only [List.mem_cons] at hx
    rcases hx with rfl | hx
    · exact .inr (Nat.le_refl _)
    · exact .inl hx)
  rw [splice_all 2 _ _ (by simp)] at g2
  have g1' : Rd w2 r ps d (Ns.map (· - 2)) rest := by simpa using g1
  have H2 := Lib.hid (And.intro g1' (And.intro g2 (And.intro (0 : Nat).le_refl hkw)))
  have p2 : w2.cell? ⟨pb, po, none⟩ = some v0 := hkw.cell HK.out.2.1 HK.out.2.2.2.1
  have pf2 : w2.frozen? ⟨pb, po, none⟩ = false := by rw [hkw.frozen HK.out.2.2.2.2.2 HK.out.2.2.2.1]; exact HK.out.2.2.1
  have hcell := g2.cell
  have x0 : w2.cell? ⟨w.heap.size, 0, none⟩ = some (.int .u8 b0.toNat) := hcell 0
  have x1 : w2.cell? ⟨w.heap.size, 1, none⟩ = some (.int .u8 b1.toNat) := hcell 1
  clear g1 g2 g3 g1' hkw hcell hmk
  have hbe := be16_any w.heap.size 0 2 2 b0 b1 w2 (by omega) x0 (by simpa using x1)
  have HBE := Lib.hid hbe; clear hbe
  go_wp2_with (go_at_call 57; refine HBE.out.mono ?_; rintro e w3 ⟨rfl, kk, rfl⟩)
  go_ret
  exact ⟨rfl, _, (H2.out.2.2.2.trans (drewN_kept w2 kk ps) (fun x hx => .inl hx)), (H2.out.1.kept (drewN_kept w2 kk []) (by simp) (by simp)), rfl⟩
set_option maxHeartbeats 1000000 in
set_option maxRecDepth 100000 in
theorem rfix_u32 {w : World} {r : Value} {ps : List Nat} {d : Nat} {Ns : List Nat} (pre rest : List UInt8) (hpre : pre.length = 4) (h : Rd w r ps d Ns (pre ++ rest)) (hl : rest.length ≤ 1000000000) (hav : 4 ≤ avail Ns (pre ++ rest)) (hd : d < w.heap.size) (pb po : Nat) (v0 : Value)
    (hp : w.cell? ⟨pb, po, none⟩ = some v0) (hpf : w.frozen? ⟨pb, po, none⟩ = false) (hpp : pb ∉ ps) (hpd : pb ≠ d) :
    Calls Tryz.prog 77 #[r, .iface 115 (.pointer (some ⟨pb, po, none⟩))] w (Fixed r ps d Ns 4 rest ⟨pb, po, none⟩ (.int .u32 (Lib.beNat pre : Nat)) w) := by
  obtain ⟨b0, b1, b2, b3, rfl⟩ : ∃ b0 b1 b2 b3, pre = [b0, b1, b2, b3] := by
    match pre, hpre with
    | [b0, b1, b2, b3], _ => exact ⟨_, _, _, _, rfl⟩
  obtain ⟨wa, hwa⟩ : ∃ wa, wa = w.alloc (.cells (List.replicate 4 (.int .u8 0)).toArray 5) := ⟨_, rfl⟩
  have hmk : (Instr.makeSlice 22 (.int .i64 4) (.int .i64 4)).run Tryz.prog w = .ok (.slice (some ⟨w.heap.size, 0, none⟩) 4 4) wa := by rw [hwa]; exact make_bytes 4 (by omega) w
  have hka : Kept [] w wa := by rw [hwa]; exact (Kept.refl [] w).alloc _
  have hpl : pb < w.heap.size := World.block_lt_of_cell? w _ hp
  have hfull := (h.kept hka (by simp) (by simp)).full (by unfold Small; simp; omega) 4 4 w.heap.size 0 _ (by omega) (Nat.le_refl _) (by unfold Small; omega) (by rw [hwa]; exact Blk.new w (List.replicate 4 (Value.int .u8 0)).toArray 5) (by simp) (fun hm => by have := h.mem_lt _ hm; omega) (by omega) hav
  have HF := Lib.hid hfull; have HK := Lib.hid (And.intro hka (And.intro hp (And.intro hpf (And.intro hpp (And.intro hpd hpl)))))
  have HH := Lib.hid h
  clear hfull hka hp hpf hpp hpd hpl h hav hpre hwa
  have t_u8 := ta_u32_u8
  have t_i8 := ta_u32_i8
  have t_u16 := ta_u32_u16
  have t_i16 := ta_u32_i16
  have t_u32 := ta_u32_u32
  have t_i32 := ta_u32_i32
  have t_f32 := ta_u32_f32
  have t_u64 := ta_u32_u64
  have t_i64 := ta_u32_i64
  have t_f64 := ta_u32_f64
  go_enter Tryz.func77, Tryz.ntmps77
  go_upto_region 14 with (go_at_call 56; refine HF.out.mono ?_; rintro e w2 ⟨rfl, hG⟩)
  obtain ⟨g1, g2, g3⟩ := hG
  have hkw : Kept ps w w2 := (HK.out.1.mono (by simp)).trans g3 (fun x hx => by
    simp only [List.mem_cons] at hx
    rcases hx with rfl | hx
    · exact .inr (Nat.le_refl _)
    · exact .inl hx)
  rw [splice_all 4 _ _ (by simp)] at g2
  have g1' : Rd w2 r ps d (Ns.map (· - 4)) rest := by simpa using g1
  have H2 := Lib.hid (And.intro g1' (And.intro g2 (And.intro (0 : Nat).le_refl hkw)))
  have p2 : w2.cell? ⟨pb, po, none⟩ = some v0 := hkw.cell HK.out.2.1 HK.out.2.2.2.1
  have pf2 : w2.frozen? ⟨pb, po, none⟩ = false := by rw [hkw.frozen HK.out.2.2.2.2.2 HK.out.2.2.2.1]; exact HK.out.2.2.1
  have hcell := g2.cell
  have x0 : w2.cell? ⟨w.heap.size, 0, none⟩ = some (.int .u8 b0.toNat) := hcell 0
  have x1 : w2.cell? ⟨w.heap.size, 1, none⟩ = some (.int .u8 b1.toNat) := hcell 1
  have x2 : w2.cell? ⟨w.heap.size, 2, none⟩ = some (.int .u8 b2.toNat) := hcell 2
  have x3 : w2.cell? ⟨w.heap.size, 3, none⟩ = some (.int .u8 b3.toNat) := hcell 3
  clear g1 g2 g3 g1' hkw hcell hmk
  have hbe := be32_any w.heap.size 0 4 4 b0 b1 b2 b3 w2 (by omega) x0 (by simpa using x1) (by simpa using x2) (by simpa using x3)
  have HBE := Lib.hid hbe; clear hbe
  go_wp2_with (go_at_call 58; refine HBE.out.mono ?_; rintro e w3 ⟨rfl, kk, rfl⟩)
  go_ret
  exact ⟨rfl, _, (H2.out.2.2.2.trans (drewN_kept w2 kk ps) (fun x hx => .inl hx)), (H2.out.1.kept (drewN_kept w2 kk []) (by simp) (by simp)), rfl⟩
set_option maxHeartbeats 1000000 in
set_option maxRecDepth 100000 in
theorem rfix_i32 {w : World} {r : Value} {ps : List Nat} {d : Nat} {Ns : List Nat} (pre rest : List UInt8) (hpre : pre.length = 4) (h : Rd w r ps d Ns (pre ++ rest)) (hl : rest.length ≤ 1000000000) (hav : 4 ≤ avail Ns (pre ++ rest)) (hd : d < w.heap.size) (pb po : Nat) (v0 : Value)
    (hp : w.cell? ⟨pb, po, none⟩ = some v0) (hpf : w.frozen? ⟨pb, po, none⟩ = false) (hpp : pb ∉ ps) (hpd : pb ≠ d) :
    Calls Tryz.prog 77 #[r, .iface 391 (.pointer (some ⟨pb, po, none⟩))] w (Fixed r ps d Ns 4 rest ⟨pb, po, none⟩ (.int .i32 (IntKind.i32.wrap (Lib.beNat pre : Nat))) w) := by
  obtain ⟨b0, b1, b2, b3, rfl⟩ : ∃ b0 b1 b2 b3, pre = [b0, b1, b2, b3] := by
    match pre, hpre with
    | [b0, b1, b2, b3], _ => exact ⟨_, _, _, _, rfl⟩
  obtain ⟨wa, hwa⟩ : ∃ wa, wa = w.alloc (.cells (List.replicate 4 (.int .u8 0)).toArray 5) := ⟨_, rfl⟩
  have hmk : (Instr.makeSlice 22 (.int .i64 4) (.int .i64 4)).run Tryz.prog w = .ok (.slice (some ⟨w.heap.size, 0, none⟩) 4 4) wa := by rw [hwa]; exact make_bytes 4 (by omega) w
  have hka : Kept [] w wa := by rw [hwa]; exact (Kept.refl [] w).alloc _
  have hpl : pb < w.heap.size := World.block_lt_of_cell? w _ hp
  have hfull := (h.kept hka (by simp) (by simp)).full (by unfold Small; simp; omega) 4 4 w.heap.size 0 _ (by omega) (Nat.le_refl _) (by unfold Small; omega) (by rw [hwa]; exact Blk.new w (List.replicate 4 (Value.int .u8 0)).toArray 5) (by simp) (fun hm => by have := h.mem_lt _ hm; omega) (by omega) hav
  have HF := Lib.hid hfull; have HK := Lib.hid (And.intro hka (And.intro hp (And.intro hpf (And.intro hpp (And.intro hpd hpl)))))
  have HH := Lib.hid h
  clear hfull hka hp hpf hpp hpd hpl h hav hpre hwa
  have t_u8 := ta_i32_u8
  have t_i8 := ta_i32_i8
  have t_u16 := ta_i32_u16
  have t_i16 := ta_i32_i16
  have t_u32 := ta_i32_u32
  have t_i32 := ta_i32_i32
  have t_f32 := ta_i32_f32
  have t_u64 := ta_i32_u64
  have t_i64 := ta_i32_i64
  have t_f64 := ta_i32_f64
  go_enter Tryz.func77, Tryz.ntmps77
  go_upto_region 14 with (go_at_call 56; refine HF.out.mono ?_; rintro e w2 ⟨rfl, hG⟩)
  obtain ⟨g1, g2, g3⟩ := hG
  have hkw : Kept ps w w2 := (HK.out.1.mono (by simp)).trans g3 (fun x hx => by
    simp only [List.mem_cons] at hx
    rcases hx with rfl | hx
    · exact .inr (Nat.le_refl _)
    · exact .inl hx)
  rw [splice_all 4 _ _ (by simp)] at g2
  have g1' : Rd w2 r ps d (Ns.map (· - 4)) rest := by simpa using g1
  have H2 := Lib.hid (And.intro g1' (And.intro g2 (And.intro (0 : Nat).le_refl hkw)))
  have p2 : w2.cell? ⟨pb, po, none⟩ = some v0 := hkw.cell HK.out.2.1 HK.out.2.2.2.1
  have pf2 : w2.frozen? ⟨pb, po, none⟩ = false := by rw [hkw.frozen HK.out.2.2.2.2.2 HK.out.2.2.2.1]; exact HK.out.2.2.1
  have hcell := g2.cell
  have x0 : w2.cell? ⟨w.heap.size, 0, none⟩ = some (.int .u8 b0.toNat) := hcell 0
  have x1 : w2.cell? ⟨w.heap.size, 1, none⟩ = some (.int .u8 b1.toNat) := hcell 1
  have x2 : w2.cell? ⟨w.heap.size, 2, none⟩ = some (.int .u8 b2.toNat) := hcell 2
  have x3 : w2.cell? ⟨w.heap.size, 3, none⟩ = some (.int .u8 b3.toNat) := hcell 3
  clear g1 g2 g3 g1' hkw hcell hmk
  have hbe := be32_any w.heap.size 0 4 4 b0 b1 b2 b3 w2 (by omega) x0 (by simpa using x1) (by simpa using x2) (by simpa using x3)
  have HBE := Lib.hid hbe; clear hbe
  go_wp2_with (go_at_call 58; refine HBE.out.mono ?_; rintro e w3 ⟨rfl, kk, rfl⟩)
  go_ret
  exact ⟨rfl, _, (H2.out.2.2.2.trans (drewN_kept w2 kk ps) (fun x hx => .inl hx)), (H2.out.1.kept (drewN_kept w2 kk []) (by simp) (by simp)), by exact congrArg (fun x => World.setCell _ _ (Value.int .i32 x)) (i32_same _).symm⟩
set_option maxHeartbeats 1000000 in
set_option maxRecDepth 100000 in
theorem rfix_f32 {w : World} {r : Value} {ps : List Nat} {d : Nat} {Ns : List Nat} (pre rest : List UInt8) (hpre : pre.length = 4) (h : Rd w r ps d Ns (pre ++ rest)) (hl : rest.length ≤ 1000000000) (hav : 4 ≤ avail Ns (pre ++ rest)) (hd : d < w.heap.size) (pb po : Nat) (v0 : Value)
    (hp : w.cell? ⟨pb, po, none⟩ = some v0) (hpf : w.frozen? ⟨pb, po, none⟩ = false) (hpp : pb ∉ ps) (hpd : pb ≠ d) :
    Calls Tryz.prog 77 #[r, .iface 392 (.pointer (some ⟨pb, po, none⟩))] w (Fixed r ps d Ns 4 rest ⟨pb, po, none⟩ (.float .f32 (Lib.beNat pre)) w) := by
  obtain ⟨b0, b1, b2, b3, rfl⟩ : ∃ b0 b1 b2 b3, pre = [b0, b1, b2, b3] := by
    match pre, hpre with
    | [b0, b1, b2, b3], _ => exact ⟨_, _, _, _, rfl⟩
  obtain ⟨wa, hwa⟩ : ∃ wa, wa = w.alloc (.cells (List.replicate 4 (.int .u8 0)).toArray 5) := ⟨_, rfl⟩
  have hmk : (Instr.makeSlice 22 (.int .i64 4) (.int .i64 4)).run Tryz.prog w = .ok (.slice (some ⟨w.heap.size, 0, none⟩) 4 4) wa := by rw [hwa]; exact make_bytes 4 (by omega) w
  have hka : Kept [] w wa := by rw [hwa]; exact (Kept.refl [] w).alloc _
  have hpl : pb < w.heap.size := World.block_lt_of_cell? w _ hp
  have hfull := (h.kept hka (by simp) (by simp)).full (by unfold Small; simp; omega) 4 4 w.heap.size 0 _ (by omega) (Nat.le_refl _) (by unfold Small; omega) (by rw [hwa]; exact Blk.new w (List.replicate 4 (Value.int .u8 0)).toArray 5) (by simp) (fun hm => by have := h.mem_lt _ hm; omega) (by omega) hav
  have HF := Lib.hid hfull; have HK := Lib.hid (And.intro hka (And.intro hp (And.intro hpf (And.intro hpp (And.intro hpd hpl)))))
  have HH := Lib.hid h
  clear hfull hka hp hpf hpp hpd hpl h hav hpre hwa
  have t_u8 := ta_f32_u8
  have t_i8 := ta_f32_i8
  have t_u16 := ta_f32_u16
  have t_i16 := ta_f32_i16
  have t_u32 := ta_f32_u32
  have t_i32 := ta_f32_i32
  have t_f32 := ta_f32_f32
  have t_u64 := ta_f32_u64
  have t_i64 := ta_f32_i64
  have t_f64 := ta_f32_f64
  go_enter Tryz.func77, Tryz.ntmps77
  go_upto_region 14 with (go_at_call 56; refine HF.out.mono ?_; rintro e w2 ⟨rfl, hG⟩)
  obtain ⟨g1, g2, g3⟩ := hG
  have hkw : Kept ps w w2 := (HK.out.1.mono (by simp)).trans g3 (fun x hx => by
    simp only [List.mem_cons] at hx
    rcases hx with rfl | hx
    · exact .inr (Nat.le_refl _)
    · exact .inl hx)
  rw [splice_all 4 _ _ (by simp)] at g2
  have g1' : Rd w2 r ps d (Ns.map (· - 4)) rest := by simpa using g1
  have H2 := Lib.hid (And.intro g1' (And.intro g2 (And.intro (0 : Nat).le_refl hkw)))
  have p2 : w2.cell? ⟨pb, po, none⟩ = some v0 := hkw.cell HK.out.2.1 HK.out.2.2.2.1
  have pf2 : w2.frozen? ⟨pb, po, none⟩ = false := by rw [hkw.frozen HK.out.2.2.2.2.2 HK.out.2.2.2.1]; exact HK.out.2.2.1
  have hcell := g2.cell
  have x0 : w2.cell? ⟨w.heap.size, 0, none⟩ = some (.int .u8 b0.toNat) := hcell 0
  have x1 : w2.cell? ⟨w.heap.size, 1, none⟩ = some (.int .u8 b1.toNat) := hcell 1
  have x2 : w2.cell? ⟨w.heap.size, 2, none⟩ = some (.int .u8 b2.toNat) := hcell 2
  have x3 : w2.cell? ⟨w.heap.size, 3, none⟩ = some (.int .u8 b3.toNat) := hcell 3
  clear g1 g2 g3 g1' hkw hcell hmk
  have hbe := be32_any w.heap.size 0 4 4 b0 b1 b2 b3 w2 (by omega) x0 (by simpa using x1) (by simpa using x2) (by simpa using x3)
  have HBE := Lib.hid hbe; clear hbe
  have hfb := run_from32
  have hsf := run_store_fl .f32
  go_wp2_with (go_at_call 58; refine HBE.out.mono ?_; rintro e w3 ⟨rfl, kk, rfl⟩)
  go_ret
  exact ⟨rfl, _, (H2.out.2.2.2.trans (drewN_kept w2 kk ps) (fun x hx => .inl hx)), (H2.out.1.kept (drewN_kept w2 kk []) (by simp) (by simp)), rfl⟩
set_option maxHeartbeats 1000000 in
set_option maxRecDepth 100000 in
theorem rfix_u64 {w : World} {r : Value} {ps : List Nat} {d : Nat} {Ns : List Nat} (pre rest : List UInt8) (hpre : pre.length = 8) (h : Rd w r ps d Ns (pre ++ rest)) (hl : rest.length ≤ 1000000000) (hav : 8 ≤ avail Ns (pre ++ rest)) (hd : d < w.heap.size) (pb po : Nat) (v0 : Value)
    (hp : w.cell? ⟨pb, po, none⟩ = some v0) (hpf : w.frozen? ⟨pb, po, none⟩ = false) (hpp : pb ∉ ps) (hpd : pb ≠ d) :
    Calls Tryz.prog 77 #[r, .iface 369 (.pointer (some ⟨pb, po, none⟩))] w (Fixed r ps d Ns 8 rest ⟨pb, po, none⟩ (.int .u64 (Lib.beNat pre : Nat)) w) := by
  obtain ⟨b0, b1, b2, b3, b4, b5, b6, b7, rfl⟩ : ∃ b0 b1 b2 b3 b4 b5 b6 b7, pre = [b0, b1, b2, b3, b4, b5, b6, b7] := by
    match pre, hpre with
    | [b0, b1, b2, b3, b4, b5, b6, b7], _ => exact ⟨_, _, _, _, _, _, _, _, rfl⟩
  obtain ⟨wa, hwa⟩ : ∃ wa, wa = w.alloc (.cells (List.replicate 8 (.int .u8 0)).toArray 5) := ⟨_, rfl⟩
  have hmk : (Instr.makeSlice 22 (.int .i64 8) (.int .i64 8)).run Tryz.prog w = .ok (.slice (some ⟨w.heap.size, 0, none⟩) 8 8) wa := by rw [hwa]; exact make_bytes 8 (by omega) w
  have hka : Kept [] w wa := by rw [hwa]; exact (Kept.refl [] w).alloc _
  have hpl : pb < w.heap.size := World.block_lt_of_cell? w _ hp
  have hfull := (h.kept hka (by simp) (by simp)).full (by unfold Small; simp; omega) 8 8 w.heap.size 0 _ (by omega) (Nat.le_refl _) (by unfold Small; omega) (by rw [hwa]; exact Blk.new w (List.replicate 8 (Value.int .u8 0)).toArray 5) (by simp) (fun hm => by have := h.mem_lt _ hm; omega) (by omega) hav
  have HF := Lib.hid hfull; have HK := Lib.hid (And.intro hka (And.intro hp (And.intro hpf (And.intro hpp (And.intro hpd hpl)))))
  have HH := Lib.hid h
  clear hfull hka hp hpf hpp hpd hpl h hav hpre hwa
  have t_u8 := ta_u64_u8
  have t_i8 := ta_u64_i8
  have t_u16 := ta_u64_u16
  have t_i16 := ta_u64_i16
  have t_u32 := ta_u64_u32
  have t_i32 := ta_u64_i32
  have t_f32 := ta_u64_f32
  have t_u64 := ta_u64_u64
  have t_i64 := ta_u64_i64
  have t_f64 := ta_u64_f64
  go_enter Tryz.func77, Tryz.ntmps77
  go_upto_region 14 with (go_at_call 56; refine HF.out.mono ?_; rintro e w2 ⟨rfl, hG⟩)
  obtain ⟨g1, g2, g3⟩ := hG
  have hkw : Kept ps w w2 := (HK.out.1.mono (by simp)).trans g3 (fun x hx => by
    simp only [List.mem_cons] at hx
    rcases hx with rfl | hx
    · exact .inr (Nat.le_refl _)
    · exact .inl hx)
  rw [splice_all 8 _ _ (by simp)] at g2
  have g1' : Rd w2 r ps d (Ns.map (· - 8)) rest := by simpa using g1
  have H2 := Lib.hid (And.intro g1' (And.intro g2 (And.intro (0 : Nat).le_refl hkw)))
  have p2 : w2.cell? ⟨pb, po, none⟩ = some v0 := hkw.cell HK.out.2.1 HK.out.2.2.2.1
  have pf2 : w2.frozen? ⟨pb, po, none⟩ = false := by rw [hkw.frozen HK.out.2.2.2.2.2 HK.out.2.2.2.1]; exact HK.out.2.2.1
  have hcell := g2.cell
  have x0 : w2.cell? ⟨w.heap.size, 0, none⟩ = some (.int .u8 b0.toNat) := hcell 0
  have x1 : w2.cell? ⟨w.heap.size, 1, none⟩ = some (.int .u8 b1.toNat) := hcell 1
  have x2 : w2.cell? ⟨w.heap.size, 2, none⟩ = some (.int .u8 b2.toNat) := hcell 2
  have x3 : w2.cell? ⟨w.heap.size, 3, none⟩ = some (.int .u8 b3.toNat) := hcell 3
  have x4 : w2.cell? ⟨w.heap.size, 4, none⟩ = some (.int .u8 b4.toNat) := hcell 4
  have x5 : w2.cell? ⟨w.heap.size, 5, none⟩ = some (.int .u8 b5.toNat) := hcell 5
  have x6 : w2.cell? ⟨w.heap.size, 6, none⟩ = some (.int .u8 b6.toNat) := hcell 6
  have x7 : w2.cell? ⟨w.heap.size, 7, none⟩ = some (.int .u8 b7.toNat) := hcell 7
  clear g1 g2 g3 g1' hkw hcell hmk
  have hbe := be64_any w.heap.size 0 8 8 b0 b1 b2 b3 b4 b5 b6 b7 w2 (by omega) (by omega) x0 (by simpa using x1) (by simpa using x2) (by simpa using x3) (by simpa using x4) (by simpa using x5) (by simpa using x6) (by simpa using x7)
  have HBE := Lib.hid hbe; clear hbe
  go_wp2_with (go_at_call 155; refine HBE.out.mono ?_; rintro e w3 ⟨rfl, kk, rfl⟩)
  go_ret
  exact ⟨rfl, _, (H2.out.2.2.2.trans (drewN_kept w2 kk ps) (fun x hx => .inl hx)), (H2.out.1.kept (drewN_kept w2 kk []) (by simp) (by simp)), rfl⟩
set_option maxHeartbeats 1000000 in
set_option maxRecDepth 100000 in
theorem rfix_i64 {w : World} {r : Value} {ps : List Nat} {d : Nat} {Ns : List Nat} (pre rest : List UInt8) (hpre : pre.length = 8) (h : Rd w r ps d Ns (pre ++ rest)) (hl : rest.length ≤ 1000000000) (hav : 8 ≤ avail Ns (pre ++ rest)) (hd : d < w.heap.size) (pb po : Nat) (v0 : Value)
    (hp : w.cell? ⟨pb, po, none⟩ = some v0) (hpf : w.frozen? ⟨pb, po, none⟩ = false) (hpp : pb ∉ ps) (hpd : pb ≠ d) :
    Calls Tryz.prog 77 #[r, .iface 393 (.pointer (some ⟨pb, po, none⟩))] w (Fixed r ps d Ns 8 rest ⟨pb, po, none⟩ (.int .i64 (IntKind.i64.wrap (Lib.beNat pre : Nat))) w) := by
  obtain ⟨b0, b1, b2, b3, b4, b5, b6, b7, rfl⟩ : ∃ b0 b1 b2 b3 b4 b5 b6 b7, pre = [b0, b1, b2, b3, b4, b5, b6, b7] := by
    match pre, hpre with
    | [b0, b1, b2, b3, b4, b5, b6, b7], _ => exact ⟨_, _, _, _, _, _, _, _, rfl⟩
  obtain ⟨wa, hwa⟩ : ∃ wa, wa = w.alloc (.cells (List.replicate 8 (.int .u8 0)).toArray 5) := ⟨_, rfl⟩
  have hmk : (Instr.makeSlice 22 (.int .i64 8) (.int .i64 8)).run Tryz.prog w = .ok (.slice (some ⟨w.heap.size, 0, none⟩) 8 8) wa := by rw [hwa]; exact make_bytes 8 (by omega) w
  have hka : Kept [] w wa := by rw [hwa]; exact (Kept.refl [] w).alloc _
  have hpl : pb < w.heap.size := World.block_lt_of_cell? w _ hp
  have hfull := (h.kept hka (by simp) (by simp)).full (by unfold Small; simp; omega) 8 8 w.heap.size 0 _ (by omega) (Nat.le_refl _) (by unfold Small; omega) (by rw [hwa]; exact Blk.new w (List.replicate 8 (Value.int .u8 0)).toArray 5) (by simp) (fun hm => by have := h.mem_lt _ hm; omega) (by omega) hav
  have HF := Lib.hid hfull; have HK := Lib.hid (And.intro hka (And.intro hp (And.intro hpf (And.intro hpp (And.intro hpd hpl)))))
  have HH := Lib.hid h
  clear hfull hka hp hpf hpp hpd hpl h hav hpre hwa
  have t_u8 := ta_i64_u8
  have t_i8 := ta_i64_i8
  have t_u16 := ta_i64_u16
  have t_i16 := ta_i64_i16
  have t_u32 := ta_i64_u32
  have t_i32 := ta_i64_i32
  have t_f32 := ta_i64_f32
  have t_u64 := ta_i64_u64
  have t_i64 := ta_i64_i64
  have t_f64 := ta_i64_f64
  go_enter Tryz.func77, Tryz.ntmps77
  go_upto_region 14 with (go_at_call 56; refine HF.out.mono ?_; rintro e w2 ⟨rfl, hG⟩)
  obtain ⟨g1, g2, g3⟩ := hG
  have hkw : Kept ps w w2 := (HK.out.1.mono (by simp)).trans g3 (fun x hx => by
    simp only [List.mem_cons] at hx
    rcases hx with rfl | hx
    · exact .inr (Nat.le_refl _)
    · exact .inl hx)
  rw [splice_all 8 _ _ (by simp)] at g2
  have g1' : Rd w2 r ps d (Ns.map (· - 8)) rest := by simpa using g1
  have H2 := Lib.hid (And.intro g1' (And.intro g2 (And.intro (0 : Nat).le_refl hkw)))
  have p2 : w2.cell? ⟨pb, po, none⟩ = some v0 := hkw.cell HK.out.2.1 HK.out.2.2.2.1
  have pf2 : w2.frozen? ⟨pb, po, none⟩ = false := by rw [hkw.frozen HK.out.2.2.2.2.2 HK.out.2.2.2.1]; exact HK.out.2.2.1
  have hcell := g2.cell
  have x0 : w2.cell? ⟨w.heap.size, 0, none⟩ = some (.int .u8 b0.toNat) := hcell 0
  have x1 : w2.cell? ⟨w.heap.size, 1, none⟩ = some (.int .u8 b1.toNat) := hcell 1
  have x2 : w2.cell? ⟨w.heap.size, 2, none⟩ = some (.int .u8 b2.toNat) := hcell 2
  have x3 : w2.cell? ⟨w.heap.size, 3, none⟩ = some (.int .u8 b3.toNat) := hcell 3
  have x4 : w2.cell? ⟨w.heap.size, 4, none⟩ = some (.int .u8 b4.toNat) := hcell 4
  have x5 : w2.cell? ⟨w.heap.size, 5, none⟩ = some (.int .u8 b5.toNat) := hcell 5
  have x6 : w2.cell? ⟨w.heap.size, 6, none⟩ = some (.int .u8 b6.toNat) := hcell 6
  have x7 : w2.cell? ⟨w.heap.size, 7, none⟩ = some (.int .u8 b7.toNat) := hcell 7
  clear g1 g2 g3 g1' hkw hcell hmk
  have hbe := be64_any w.heap.size 0 8 8 b0 b1 b2 b3 b4 b5 b6 b7 w2 (by omega) (by omega) x0 (by simpa using x1) (by simpa using x2) (by simpa using x3) (by simpa using x4) (by simpa using x5) (by simpa using x6) (by simpa using x7)
  have HBE := Lib.hid hbe; clear hbe
  go_wp2_with (go_at_call 155; refine HBE.out.mono ?_; rintro e w3 ⟨rfl, kk, rfl⟩)
  go_ret
  exact ⟨rfl, _, (H2.out.2.2.2.trans (drewN_kept w2 kk ps) (fun x hx => .inl hx)), (H2.out.1.kept (drewN_kept w2 kk []) (by simp) (by simp)), by exact congrArg (fun x => World.setCell _ _ (Value.int .i64 x)) (i64_same _).symm⟩
set_option maxHeartbeats 1000000 in
set_option maxRecDepth 100000 in
theorem rfix_f64 {w : World} {r : Value} {ps : List Nat} {d : Nat} {Ns : List Nat} (pre rest : List UInt8) (hpre : pre.length = 8) (h : Rd w r ps d Ns (pre ++ rest)) (hl : rest.length ≤ 1000000000) (hav : 8 ≤ avail Ns (pre ++ rest)) (hd : d < w.heap.size) (pb po : Nat) (v0 : Value)
    (hp : w.cell? ⟨pb, po, none⟩ = some v0) (hpf : w.frozen? ⟨pb, po, none⟩ = false) (hpp : pb ∉ ps) (hpd : pb ≠ d) :
    Calls Tryz.prog 77 #[r, .iface 394 (.pointer (some ⟨pb, po, none⟩))] w (Fixed r ps d Ns 8 rest ⟨pb, po, none⟩ (.float .f64 (Lib.beNat pre)) w) := by
  obtain ⟨b0, b1, b2, b3, b4, b5, b6, b7, rfl⟩ : ∃ b0 b1 b2 b3 b4 b5 b6 b7, pre = [b0, b1, b2, b3, b4, b5, b6, b7] := by
    match pre, hpre with
    | [b0, b1, b2, b3, b4, b5, b6, b7], _ => exact ⟨_, _, _, _, _, _, _, _, rfl⟩
  obtain ⟨wa, hwa⟩ : ∃ wa, wa = w.alloc (.cells (List.replicate 8 (.int .u8 0)).toArray 5) := ⟨_, rfl⟩
  have hmk : (Instr.makeSlice 22 (.int .i64 8) (.int .i64 8)).run Tryz.prog w = .ok (.slice (some ⟨w.heap.size, 0, none⟩) 8 8) wa := by rw [hwa]; exact make_bytes 8 (by omega) w
  have hka : Kept [] w wa := by rw [hwa]; exact (Kept.refl [] w).alloc _
  have hpl : pb < w.heap.size := World.block_lt_of_cell? w _ hp
  have hfull := (h.kept hka (by simp) (by simp)).full (by unfold Small; simp; omega) 8 8 w.heap.size 0 _ (by omega) (Nat.le_refl _) (by unfold Small; omega) (by rw [hwa]; exact Blk.new w (List.replicate 8 (Value.int .u8 0)).toArray 5) (by simp) (fun hm => by have := h.mem_lt _ hm; omega) (by omega) hav
  have HF := Lib.hid hfull; have HK := Lib.hid (And.intro hka (And.intro hp (And.intro hpf (And.intro hpp (And.intro hpd hpl)))))
  have HH := Lib.hid h
  clear hfull hka hp hpf hpp hpd hpl h hav hpre hwa
  have t_u8 := ta_f64_u8
  have t_i8 := ta_f64_i8
  have t_u16 := ta_f64_u16
  have t_i16 := ta_f64_i16
  have t_u32 := ta_f64_u32
  have t_i32 := ta_f64_i32
  have t_f32 := ta_f64_f32
  have t_u64 := ta_f64_u64
  have t_i64 := ta_f64_i64
  have t_f64 := ta_f64_f64
  go_enter Tryz.func77, Tryz.ntmps77
  go_upto_region 14 with (go_at_call 56; refine HF.out.mono ?_; rintro e w2 ⟨rfl, hG⟩)
  obtain ⟨g1, g2, g3⟩ := hG
  have hkw : Kept ps w w2 := (HK.out.1.mono (by simp)).trans g3 (fun x hx => by
    simp only [List.mem_cons] at hx
    rcases hx with rfl | hx
    · exact .inr (Nat.le_refl _)
    · exact .inl hx)
  rw [splice_all 8 _ _ (by simp)] at g2
  have g1' : Rd w2 r ps d (Ns.map (· - 8)) rest := by simpa using g1
  have H2 := Lib.hid (And.intro g1' (And.intro g2 (And.intro (0 : Nat).le_refl hkw)))
  have p2 : w2.cell? ⟨pb, po, none⟩ = some v0 := hkw.cell HK.out.2.1 HK.out.2.2.2.1
  have pf2 : w2.frozen? ⟨pb, po, none⟩ = false := by rw [hkw.frozen HK.out.2.2.2.2.2 HK.out.2.2.2.1]; exact HK.out.2.2.1
  have hcell := g2.cell
  have x0 : w2.cell? ⟨w.heap.size, 0, none⟩ = some (.int .u8 b0.toNat) := hcell 0
  have x1 : w2.cell? ⟨w.heap.size, 1, none⟩ = some (.int .u8 b1.toNat) := hcell 1
  have x2 : w2.cell? ⟨w.heap.size, 2, none⟩ = some (.int .u8 b2.toNat) := hcell 2
  have x3 : w2.cell? ⟨w.heap.size, 3, none⟩ = some (.int .u8 b3.toNat) := hcell 3
  have x4 : w2.cell? ⟨w.heap.size, 4, none⟩ = some (.int .u8 b4.toNat) := hcell 4
  have x5 : w2.cell? ⟨w.heap.size, 5, none⟩ = some (.int .u8 b5.toNat) := hcell 5
  have x6 : w2.cell? ⟨w.heap.size, 6, none⟩ = some (.int .u8 b6.toNat) := hcell 6
  have x7 : w2.cell? ⟨w.heap.size, 7, none⟩ = some (.int .u8 b7.toNat) := hcell 7
  clear g1 g2 g3 g1' hkw hcell hmk
  have hbe := be64_any w.heap.size 0 8 8 b0 b1 b2 b3 b4 b5 b6 b7 w2 (by omega) (by omega) x0 (by simpa using x1) (by simpa using x2) (by simpa using x3) (by simpa using x4) (by simpa using x5) (by simpa using x6) (by simpa using x7)
  have HBE := Lib.hid hbe; clear hbe
  have hfb := run_from64
  have hsf := run_store_fl .f64
  go_wp2_with (go_at_call 155; refine HBE.out.mono ?_; rintro e w3 ⟨rfl, kk, rfl⟩)
  go_ret
  exact ⟨rfl, _, (H2.out.2.2.2.trans (drewN_kept w2 kk ps) (fun x hx => .inl hx)), (H2.out.1.kept (drewN_kept w2 kk []) (by simp) (by simp)), rfl⟩
/-- The zero of a frame's methods, properties and all: its forty cells. -/
def frame0 : List Value :=
  [.int .i64 0, .int .i64 0, .int .i64 0, .int .i64 0, .slice none 0 0, .int .i64 0, .int .u64 0,
   .bool false, .bool false, .bool false, .bool false, .bool false, .bool false, .bool false, .bool false, .bool false, .bool false, .bool false, .bool false, .bool false, .bool false,
   .string .empty, .string .empty, .string .empty, .string .empty, .string .empty, .string .empty, .string .empty, .string .empty, .string .empty, .string .empty, .string .empty, .string .empty, .string .empty, .string .empty,
   .int .i64 0, .int .i64 0, .int .i64 0, .slice none 0 0, .slice none 0 0]
theorem frame_size : (Tryz.prog.info? 35).map (·.size) = some 40 := by kernel_rfl
theorem frame0_one : ∀ u ∈ frame0, u.oneCell' = true := by decide +kernel
theorem alloc_frame (w : World) : (Instr.alloc 35 true (.tuple #[])).run Tryz.prog w = .ok (.pointer (some ⟨w.heap.size, 0, none⟩)) (w.alloc (.cells frame0.toArray 35)) := by kernel_rfl
theorem results_parse {tmps : Array Value} {f re ok : Nat} {cs : Array Value} {x y : Value} {w : World} (h1 : tmps.getD 2 undef = .pointer (some ⟨f, 0, none⟩)) (h2 : tmps.getD 3 undef = .pointer (some ⟨re, 0, none⟩)) (h3 : tmps.getD 4 undef = .pointer (some ⟨ok, 0, none⟩))
    (hf : Blk w f cs 35) (hs : cs.size = 40) (hr : w.cell? ⟨re, 0, none⟩ = some x) (ho : w.cell? ⟨ok, 0, none⟩ = some y) :
    (results Tryz.f9 tmps).run Tryz.prog w = .ok (.tuple #[.agg cs, x, y]) w := by
  have hl := run_loadVar_row (P := Tryz.prog) w f 35 35 cs (0, 0) _ hf Tryz.underlying35 rfl (by rw [hs]; exact frame_size)
  simp only [Array.getD_eq_getD_getElem?] at h1 h2 h3
  have hl3 : (loadVar 3 ⟨re, 0, none⟩).run Tryz.prog w = .ok x w := by simp [go_sem, loadVar, hr]
  have hl4 : (loadVar 4 ⟨ok, 0, none⟩).run Tryz.prog w = .ok y w := by simp [go_sem, loadVar, ho]
  simp [results, Tryz.results9, h1, h2, h3, asAddr, hl, hl3, hl4]
theorem be2_num (n : Nat) (h : n < 65536) : Lib.beNat [UInt8.ofNat (n / 256), UInt8.ofNat n] = n := by
  rw [← be2]; exact Lib.beNat_beBytes 2 n (by omega)
end Go.Proofs.YtkcdakohmfodjaaGreat
