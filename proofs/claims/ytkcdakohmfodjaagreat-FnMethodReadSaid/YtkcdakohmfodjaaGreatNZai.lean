/-
  Lemmas on the way to the statement of YtkcdakohmfodjaaGreatMethodRead, joined out of these texts: Zai. No condition.
-/
import Derived.Test.YtkcdakohmfodjaaGreatMAL
import Derived.Test.YtkcdakohmfodjaaGreatNRdv
namespace Go.Proofs.YtkcdakohmfodjaaGreat
open Go.RowKit
set_option linter.unusedVariables false
set_option linter.unusedSimpArgs false
/-- The id of a method's type. -/
def IdOk (c m : Nat) (T : TypeId) : Prop := ∀ (a : Addr) (w : World), Calls Tryz.prog 65 #[.iface T (.pointer (some a))] w fun e w' => e = .returned (.tuple #[.int .u16 (c : Int), .int .u16 (m : Int)]) ∧ w = w'
theorem id_of {c m : Nat} {T : TypeId} (f : FuncId) (h1 : ∀ (k : Nat) (a : Addr) (w : World), (method (k + 1) T (.pointer (some a)) "amqp091/pub/amqp091.id").run Tryz.prog w = .ok (f, .pointer (some a)) w)
    (h2 : ∀ (k : Nat) (a : Addr) (w : World), (nilAhead (k + 1) T (.pointer (some a)) "amqp091/pub/amqp091.id").run Tryz.prog w = .ok (some false) w)
    (h : (∀ (k : Nat) (a : Addr) (w : World), (method (k + 1) T (.pointer (some a)) "amqp091/pub/amqp091.id").run Tryz.prog w = .ok (f, .pointer (some a)) w) →
      (∀ (k : Nat) (a : Addr) (w : World), (nilAhead (k + 1) T (.pointer (some a)) "amqp091/pub/amqp091.id").run Tryz.prog w = .ok (some false) w) → IdOk c m T) : IdOk c m T := h h1 h2
set_option maxHeartbeats 4000000 in
theorem idg_0 : IdOk 10 10 200 ∧ IdOk 10 11 204 ∧ IdOk 10 20 207 ∧ IdOk 10 21 210 ∧ IdOk 10 30 213 ∧ IdOk 10 31 216 ∧ IdOk 10 40 218 ∧ IdOk 10 41 221 := by
  refine ⟨id_of 243 (fun _ _ _ => by kernel_rfl) (fun _ _ _ => by kernel_rfl) ?_, id_of 246 (fun _ _ _ => by kernel_rfl) (fun _ _ _ => by kernel_rfl) ?_, id_of 249 (fun _ _ _ => by kernel_rfl) (fun _ _ _ => by kernel_rfl) ?_, id_of 252 (fun _ _ _ => by kernel_rfl) (fun _ _ _ => by kernel_rfl) ?_, id_of 255 (fun _ _ _ => by kernel_rfl) (fun _ _ _ => by kernel_rfl) ?_, id_of 258 (fun _ _ _ => by kernel_rfl) (fun _ _ _ => by kernel_rfl) ?_, id_of 261 (fun _ _ _ => by kernel_rfl) (fun _ _ _ => by kernel_rfl) ?_, id_of 264 (fun _ _ _ => by kernel_rfl) (fun _ _ _ => by kernel_rfl) ?_⟩ <;>
  (intro hm1 hm2 a w; go_enter Tryz.func65, Tryz.ntmps65; go_wp2; go_ret2; exact ⟨rfl, rfl⟩)
set_option maxHeartbeats 4000000 in
theorem idg_1 : IdOk 10 50 224 ∧ IdOk 10 51 227 ∧ IdOk 10 60 230 ∧ IdOk 10 61 233 ∧ IdOk 10 70 235 ∧ IdOk 10 71 238 ∧ IdOk 20 10 241 ∧ IdOk 20 11 243 := by
  refine ⟨id_of 267 (fun _ _ _ => by kernel_rfl) (fun _ _ _ => by kernel_rfl) ?_, id_of 270 (fun _ _ _ => by kernel_rfl) (fun _ _ _ => by kernel_rfl) ?_, id_of 273 (fun _ _ _ => by kernel_rfl) (fun _ _ _ => by kernel_rfl) ?_, id_of 276 (fun _ _ _ => by kernel_rfl) (fun _ _ _ => by kernel_rfl) ?_, id_of 279 (fun _ _ _ => by kernel_rfl) (fun _ _ _ => by kernel_rfl) ?_, id_of 282 (fun _ _ _ => by kernel_rfl) (fun _ _ _ => by kernel_rfl) ?_, id_of 285 (fun _ _ _ => by kernel_rfl) (fun _ _ _ => by kernel_rfl) ?_, id_of 288 (fun _ _ _ => by kernel_rfl) (fun _ _ _ => by kernel_rfl) ?_⟩ <;>
  (intro hm1 hm2 a w; go_enter Tryz.func65, Tryz.ntmps65; go_wp2; go_ret2; exact ⟨rfl, rfl⟩)
set_option maxHeartbeats 4000000 in
theorem idg_2 : IdOk 20 20 245 ∧ IdOk 20 21 248 ∧ IdOk 20 40 250 ∧ IdOk 20 41 252 ∧ IdOk 40 10 254 ∧ IdOk 40 11 257 ∧ IdOk 40 20 259 ∧ IdOk 40 21 262 := by
  refine ⟨id_of 291 (fun _ _ _ => by kernel_rfl) (fun _ _ _ => by kernel_rfl) ?_, id_of 294 (fun _ _ _ => by kernel_rfl) (fun _ _ _ => by kernel_rfl) ?_, id_of 297 (fun _ _ _ => by kernel_rfl) (fun _ _ _ => by kernel_rfl) ?_, id_of 300 (fun _ _ _ => by kernel_rfl) (fun _ _ _ => by kernel_rfl) ?_, id_of 303 (fun _ _ _ => by kernel_rfl) (fun _ _ _ => by kernel_rfl) ?_, id_of 306 (fun _ _ _ => by kernel_rfl) (fun _ _ _ => by kernel_rfl) ?_, id_of 309 (fun _ _ _ => by kernel_rfl) (fun _ _ _ => by kernel_rfl) ?_, id_of 312 (fun _ _ _ => by kernel_rfl) (fun _ _ _ => by kernel_rfl) ?_⟩ <;>
  (intro hm1 hm2 a w; go_enter Tryz.func65, Tryz.ntmps65; go_wp2; go_ret2; exact ⟨rfl, rfl⟩)
set_option maxHeartbeats 4000000 in
theorem idg_3 : IdOk 40 30 264 ∧ IdOk 40 31 267 ∧ IdOk 40 40 269 ∧ IdOk 40 51 271 ∧ IdOk 50 10 273 ∧ IdOk 50 11 276 ∧ IdOk 50 20 279 ∧ IdOk 50 21 282 := by
  refine ⟨id_of 315 (fun _ _ _ => by kernel_rfl) (fun _ _ _ => by kernel_rfl) ?_, id_of 318 (fun _ _ _ => by kernel_rfl) (fun _ _ _ => by kernel_rfl) ?_, id_of 321 (fun _ _ _ => by kernel_rfl) (fun _ _ _ => by kernel_rfl) ?_, id_of 324 (fun _ _ _ => by kernel_rfl) (fun _ _ _ => by kernel_rfl) ?_, id_of 327 (fun _ _ _ => by kernel_rfl) (fun _ _ _ => by kernel_rfl) ?_, id_of 330 (fun _ _ _ => by kernel_rfl) (fun _ _ _ => by kernel_rfl) ?_, id_of 333 (fun _ _ _ => by kernel_rfl) (fun _ _ _ => by kernel_rfl) ?_, id_of 336 (fun _ _ _ => by kernel_rfl) (fun _ _ _ => by kernel_rfl) ?_⟩ <;>
  (intro hm1 hm2 a w; go_enter Tryz.func65, Tryz.ntmps65; go_wp2; go_ret2; exact ⟨rfl, rfl⟩)
set_option maxHeartbeats 4000000 in
theorem idg_4 : IdOk 50 50 284 ∧ IdOk 50 51 287 ∧ IdOk 50 30 289 ∧ IdOk 50 31 292 ∧ IdOk 50 40 295 ∧ IdOk 50 41 298 ∧ IdOk 60 10 300 ∧ IdOk 60 11 303 := by
  refine ⟨id_of 339 (fun _ _ _ => by kernel_rfl) (fun _ _ _ => by kernel_rfl) ?_, id_of 342 (fun _ _ _ => by kernel_rfl) (fun _ _ _ => by kernel_rfl) ?_, id_of 345 (fun _ _ _ => by kernel_rfl) (fun _ _ _ => by kernel_rfl) ?_, id_of 348 (fun _ _ _ => by kernel_rfl) (fun _ _ _ => by kernel_rfl) ?_, id_of 351 (fun _ _ _ => by kernel_rfl) (fun _ _ _ => by kernel_rfl) ?_, id_of 354 (fun _ _ _ => by kernel_rfl) (fun _ _ _ => by kernel_rfl) ?_, id_of 357 (fun _ _ _ => by kernel_rfl) (fun _ _ _ => by kernel_rfl) ?_, id_of 360 (fun _ _ _ => by kernel_rfl) (fun _ _ _ => by kernel_rfl) ?_⟩ <;>
  (intro hm1 hm2 a w; go_enter Tryz.func65, Tryz.ntmps65; go_wp2; go_ret2; exact ⟨rfl, rfl⟩)
set_option maxHeartbeats 4000000 in
theorem idg_5 : IdOk 60 20 305 ∧ IdOk 60 21 308 ∧ IdOk 60 30 311 ∧ IdOk 60 31 314 ∧ IdOk 60 40 316 ∧ IdOk 60 50 319 ∧ IdOk 60 60 322 ∧ IdOk 60 70 325 := by
  refine ⟨id_of 363 (fun _ _ _ => by kernel_rfl) (fun _ _ _ => by kernel_rfl) ?_, id_of 366 (fun _ _ _ => by kernel_rfl) (fun _ _ _ => by kernel_rfl) ?_, id_of 369 (fun _ _ _ => by kernel_rfl) (fun _ _ _ => by kernel_rfl) ?_, id_of 372 (fun _ _ _ => by kernel_rfl) (fun _ _ _ => by kernel_rfl) ?_, id_of 375 (fun _ _ _ => by kernel_rfl) (fun _ _ _ => by kernel_rfl) ?_, id_of 378 (fun _ _ _ => by kernel_rfl) (fun _ _ _ => by kernel_rfl) ?_, id_of 381 (fun _ _ _ => by kernel_rfl) (fun _ _ _ => by kernel_rfl) ?_, id_of 384 (fun _ _ _ => by kernel_rfl) (fun _ _ _ => by kernel_rfl) ?_⟩ <;>
  (intro hm1 hm2 a w; go_enter Tryz.func65, Tryz.ntmps65; go_wp2; go_ret2; exact ⟨rfl, rfl⟩)
set_option maxHeartbeats 4000000 in
theorem idg_6 : IdOk 60 71 328 ∧ IdOk 60 72 331 ∧ IdOk 60 80 333 ∧ IdOk 60 90 336 ∧ IdOk 60 100 339 ∧ IdOk 60 110 342 ∧ IdOk 60 111 344 ∧ IdOk 60 120 346 := by
  refine ⟨id_of 387 (fun _ _ _ => by kernel_rfl) (fun _ _ _ => by kernel_rfl) ?_, id_of 390 (fun _ _ _ => by kernel_rfl) (fun _ _ _ => by kernel_rfl) ?_, id_of 393 (fun _ _ _ => by kernel_rfl) (fun _ _ _ => by kernel_rfl) ?_, id_of 396 (fun _ _ _ => by kernel_rfl) (fun _ _ _ => by kernel_rfl) ?_, id_of 399 (fun _ _ _ => by kernel_rfl) (fun _ _ _ => by kernel_rfl) ?_, id_of 402 (fun _ _ _ => by kernel_rfl) (fun _ _ _ => by kernel_rfl) ?_, id_of 405 (fun _ _ _ => by kernel_rfl) (fun _ _ _ => by kernel_rfl) ?_, id_of 408 (fun _ _ _ => by kernel_rfl) (fun _ _ _ => by kernel_rfl) ?_⟩ <;>
  (intro hm1 hm2 a w; go_enter Tryz.func65, Tryz.ntmps65; go_wp2; go_ret2; exact ⟨rfl, rfl⟩)
set_option maxHeartbeats 4000000 in
theorem idg_7 : IdOk 90 10 349 ∧ IdOk 90 11 351 ∧ IdOk 90 20 353 ∧ IdOk 90 21 355 ∧ IdOk 90 30 357 ∧ IdOk 90 31 359 ∧ IdOk 85 10 361 ∧ IdOk 85 11 364 := by
  refine ⟨id_of 411 (fun _ _ _ => by kernel_rfl) (fun _ _ _ => by kernel_rfl) ?_, id_of 414 (fun _ _ _ => by kernel_rfl) (fun _ _ _ => by kernel_rfl) ?_, id_of 417 (fun _ _ _ => by kernel_rfl) (fun _ _ _ => by kernel_rfl) ?_, id_of 420 (fun _ _ _ => by kernel_rfl) (fun _ _ _ => by kernel_rfl) ?_, id_of 423 (fun _ _ _ => by kernel_rfl) (fun _ _ _ => by kernel_rfl) ?_, id_of 426 (fun _ _ _ => by kernel_rfl) (fun _ _ _ => by kernel_rfl) ?_, id_of 429 (fun _ _ _ => by kernel_rfl) (fun _ _ _ => by kernel_rfl) ?_, id_of 432 (fun _ _ _ => by kernel_rfl) (fun _ _ _ => by kernel_rfl) ?_⟩ <;>
  (intro hm1 hm2 a w; go_enter Tryz.func65, Tryz.ntmps65; go_wp2; go_ret2; exact ⟨rfl, rfl⟩)
end Go.Proofs.YtkcdakohmfodjaaGreat
