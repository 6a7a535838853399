/-
  A frame as data: bodies and heartbeats.
-/
import Derived.Test.YtkcdakohmfodjaaGreatOps
import Derived.Test.YtkcdakohmfodjaaGreatBrkWalk
namespace Go.Proofs.YtkcdakohmfodjaaGreat
open Go.RowKit
set_option linter.unusedVariables false
set_option linter.unusedSimpArgs false

theorem method_chBody (k : Nat) (a : Addr) (w : World) : (method (k + 1) 85 (.pointer (some a)) "amqp091/pub/amqp091.channel").run Tryz.prog w = .ok (199, .pointer (some a)) w := by kernel_rfl
theorem nilAhead_chBody (k : Nat) (a : Addr) (w : World) : (nilAhead (k + 1) 85 (.pointer (some a)) "amqp091/pub/amqp091.channel").run Tryz.prog w = .ok (some false) w := by kernel_rfl
theorem method_chBeat (k : Nat) (a : Addr) (w : World) : (method (k + 1) 89 (.pointer (some a)) "amqp091/pub/amqp091.channel").run Tryz.prog w = .ok (202, .pointer (some a)) w := by kernel_rfl
theorem nilAhead_chBeat (k : Nat) (a : Addr) (w : World) : (nilAhead (k + 1) 89 (.pointer (some a)) "amqp091/pub/amqp091.channel").run Tryz.prog w = .ok (some false) w := by kernel_rfl

set_option maxHeartbeats 400000 in
theorem channel_body (p ch : Nat) (w : World) (hp : w.cell? ⟨p, 0, none⟩ = some (.int .u16 (ch : Int))) :
    Calls Tryz.prog 45 #[.iface 85 (.pointer (some ⟨p, 0, none⟩))] w fun e w' => e = .returned (.int .u16 (ch : Int)) ∧ w = w' := by
  have hm1 := method_chBody
  have hm2 := nilAhead_chBody
  go_enter Tryz.func45, Tryz.ntmps45
  go_wp2
  go_ret
  exact ⟨rfl, rfl⟩

set_option maxHeartbeats 400000 in
theorem channel_beat (p ch : Nat) (w : World) (hp : w.cell? ⟨p, 0, none⟩ = some (.int .u16 (ch : Int))) :
    Calls Tryz.prog 45 #[.iface 89 (.pointer (some ⟨p, 0, none⟩))] w fun e w' => e = .returned (.int .u16 (ch : Int)) ∧ w = w' := by
  have hm1 := method_chBeat
  have hm2 := nilAhead_chBeat
  go_enter Tryz.func45, Tryz.ntmps45
  go_wp2
  go_ret
  exact ⟨rfl, rfl⟩

theorem ta_meth_meth (a : Addr) (w : World) : (Instr.typeAssert (.iface 124 (.pointer (some a))) 65 124 true).run Tryz.prog w = .ok (.tuple #[.pointer (some a), .bool true]) w := by kernel_rfl
theorem ta_meth_head (a : Addr) (w : World) : (Instr.typeAssert (.iface 124 (.pointer (some a))) 65 94 true).run Tryz.prog w = .ok (.tuple #[.pointer none, .bool false]) w := by kernel_rfl
theorem ta_meth_body (a : Addr) (w : World) : (Instr.typeAssert (.iface 124 (.pointer (some a))) 65 85 true).run Tryz.prog w = .ok (.tuple #[.pointer none, .bool false]) w := by kernel_rfl
theorem ta_meth_beat (a : Addr) (w : World) : (Instr.typeAssert (.iface 124 (.pointer (some a))) 65 89 true).run Tryz.prog w = .ok (.tuple #[.pointer none, .bool false]) w := by kernel_rfl
theorem ta_head_meth (a : Addr) (w : World) : (Instr.typeAssert (.iface 94 (.pointer (some a))) 65 124 true).run Tryz.prog w = .ok (.tuple #[.pointer none, .bool false]) w := by kernel_rfl
theorem ta_head_head (a : Addr) (w : World) : (Instr.typeAssert (.iface 94 (.pointer (some a))) 65 94 true).run Tryz.prog w = .ok (.tuple #[.pointer (some a), .bool true]) w := by kernel_rfl
theorem ta_head_body (a : Addr) (w : World) : (Instr.typeAssert (.iface 94 (.pointer (some a))) 65 85 true).run Tryz.prog w = .ok (.tuple #[.pointer none, .bool false]) w := by kernel_rfl
theorem ta_head_beat (a : Addr) (w : World) : (Instr.typeAssert (.iface 94 (.pointer (some a))) 65 89 true).run Tryz.prog w = .ok (.tuple #[.pointer none, .bool false]) w := by kernel_rfl
theorem ta_body_meth (a : Addr) (w : World) : (Instr.typeAssert (.iface 85 (.pointer (some a))) 65 124 true).run Tryz.prog w = .ok (.tuple #[.pointer none, .bool false]) w := by kernel_rfl
theorem ta_body_head (a : Addr) (w : World) : (Instr.typeAssert (.iface 85 (.pointer (some a))) 65 94 true).run Tryz.prog w = .ok (.tuple #[.pointer none, .bool false]) w := by kernel_rfl
theorem ta_body_body (a : Addr) (w : World) : (Instr.typeAssert (.iface 85 (.pointer (some a))) 65 85 true).run Tryz.prog w = .ok (.tuple #[.pointer (some a), .bool true]) w := by kernel_rfl
theorem ta_body_beat (a : Addr) (w : World) : (Instr.typeAssert (.iface 85 (.pointer (some a))) 65 89 true).run Tryz.prog w = .ok (.tuple #[.pointer none, .bool false]) w := by kernel_rfl
theorem ta_beat_meth (a : Addr) (w : World) : (Instr.typeAssert (.iface 89 (.pointer (some a))) 65 124 true).run Tryz.prog w = .ok (.tuple #[.pointer none, .bool false]) w := by kernel_rfl
theorem ta_beat_head (a : Addr) (w : World) : (Instr.typeAssert (.iface 89 (.pointer (some a))) 65 94 true).run Tryz.prog w = .ok (.tuple #[.pointer none, .bool false]) w := by kernel_rfl
theorem ta_beat_body (a : Addr) (w : World) : (Instr.typeAssert (.iface 89 (.pointer (some a))) 65 85 true).run Tryz.prog w = .ok (.tuple #[.pointer none, .bool false]) w := by kernel_rfl
theorem ta_beat_beat (a : Addr) (w : World) : (Instr.typeAssert (.iface 89 (.pointer (some a))) 65 89 true).run Tryz.prog w = .ok (.tuple #[.pointer (some a), .bool true]) w := by kernel_rfl

theorem build_frame1 (v : Int) (w : World) : (Instr.build 35 #[(1, .int .i64 v)]).run Tryz.prog w = .ok (.agg (frame0.set 1 (.int .i64 v)).toArray) w := by kernel_rfl

/-- A body's forty cells. -/
def bodyCells (ch : Nat) (s : Value) : List Value := ((frame0.set 1 (.int .i64 (ch : Int))).set 0 (.int .i64 3)).set 39 s
/-- A heartbeat's forty cells. -/
def beatCells (ch : Nat) : List Value := (frame0.set 1 (.int .i64 (ch : Int))).set 0 (.int .i64 8)

theorem Blk.setCell_list {w : World} {b : Nat} {l : List Value} {t : TypeId} (h : Blk w b l.toArray t) (i : Nat) (u : Value) : Blk (w.setCell ⟨b, i, none⟩ u) b (l.set i u).toArray t := by
  have := h.setCell i u
  rwa [List.setIfInBounds_toArray] at this

theorem beat_one (ch : Nat) : ∀ u ∈ beatCells ch, u.oneCell' = true := by
  intro u hu
  rcases List.mem_or_eq_of_mem_set hu with h | h
  · rcases List.mem_or_eq_of_mem_set h with h | h
    · exact frame0_one u h
    · subst h; rfl
  · subst h; rfl

theorem beat_length (ch : Nat) : (beatCells ch).length = 40 := rfl

theorem frame1_one (ch : Nat) : ∀ u ∈ frame0.set 1 (.int .i64 (ch : Int)), u.oneCell' = true := by
  intro u hu
  rcases List.mem_or_eq_of_mem_set hu with h | h
  · exact frame0_one u h
  · subst h; rfl

theorem results_frame {tmps : Array Value} {f : Nat} {cs : Array Value} {b : Bool} {w : World} (h1 : tmps.getD 2 undef = .pointer (some ⟨f, 0, none⟩)) (h2 : tmps.getD 3 undef = .bool b) (hf : Blk w f cs 35)
    (hs : (Tryz.prog.info? 35).map (·.size) = some cs.size) :
    (results Tryz.f25 tmps).run Tryz.prog w = .ok (.tuple #[.agg cs, .bool b]) w := by
  have hl := run_loadVar_row (P := Tryz.prog) w f 35 35 cs (0, 0) _ hf Tryz.underlying35 rfl hs
  simp only [Array.getD_eq_getD_getElem?] at h1 h2
  simp [results, Tryz.results25, h1, h2, asAddr, hl]

set_option maxHeartbeats 1000000 in
set_option maxRecDepth 100000 in
theorem frame_beat0 (p ch : Nat) (w : World) (hch : ch ≤ 65535) (hp : w.cell? ⟨p, 0, none⟩ = some (.int .u16 (ch : Int))) (F0 F1 F2 : List Value)
    (k0 : ∀ w : World, (Instr.alloc 35 true (.tuple #[])).run Tryz.prog w = .ok (.pointer (some ⟨w.heap.size, 0, none⟩)) (w.alloc (.cells F0.toArray 35)))
    (k1 : ∀ w, (Instr.build 35 #[(1, .int .i64 (ch : Int))]).run Tryz.prog w = .ok (.agg F1.toArray) w) (l0 : F0.length = 40) (l1 : F1.length = 40) (o1 : ∀ u ∈ F1, u.oneCell' = true)
    (z1 : F1.toArray[0]? = some (.int .i64 0)) (k2 : F1.set 0 (.int .i64 8) = F2) (o2 : ∀ u ∈ F2, u.oneCell' = true) :
    Calls Tryz.prog 25 #[.iface 89 (.pointer (some ⟨p, 0, none⟩))] w fun e w' => e = .returned (.tuple #[.agg F2.toArray, .bool true]) ∧ Kept [] w w' := by
  have e2 : IntKind.i64.wrap (ch : Int) = ch := by rw [IntKind.wrap_i64]; omega
  have l2 : F2.length = 40 := by rw [← k2, List.length_set, l1]
  have s1 : (Tryz.prog.info? 35).map (·.size) = some F1.length := by rw [l1]; exact frame_size
  have s2 : (Tryz.prog.info? 35).map (·.size) = some F2.length := by rw [l2]; exact frame_size
  have s3 : (Tryz.prog.info? 35).map (·.size) = some F2.toArray.size := s2
  have m1 : F1.length = F0.length := by rw [l1, l0]
  have m2 : F2.length = F0.length := by rw [l2, l0]
  have t1 := ta_beat_meth; have t2 := ta_beat_head; have t3 := ta_beat_body; have t4 := ta_beat_beat
  have HP := Lib.hid hp; have K0 := Lib.hid k0; have K1 := Lib.hid k1; have O1 := Lib.hid o1; have O2 := Lib.hid o2; have Z1 := Lib.hid z1; have K2 := Lib.hid k2; have M1 := Lib.hid m1; have M2 := Lib.hid m2; have S1 := Lib.hid s1; have S2 := Lib.hid s2; have S3 := Lib.hid s3
  clear hp k0 k1 l0 l1 l2 o1 o2 z1 k2 m1 m2 s1 s2 s3
  go_enter Tryz.func25, Tryz.ntmps25
  go_wp2_with (first
    | (refine wpList_alloc rfl 2 rfl 35 rfl F0.toArray (K0.out _) ?_; intro w1 h1 h2 h3; have H1 := Lib.hid (And.intro h1 (And.intro h2 h3)); clear h1 h2 h3)
    | (refine wpList_alloc rfl 4 rfl 35 rfl F0.toArray (K0.out _) ?_; intro w2 h1 h2 h3; have H2 := Lib.hid (And.intro h1 (And.intro h2 h3)); clear h1 h2 h3)
    | (go_at_call 45; refine (channel_beat p ch _ (H1.out.2.1.cell HP.out (by simp))).mono ?_; rintro e w2 ⟨rfl, rfl⟩)
    | (refine wpList_build rfl 35 #[(1, .tmp 13)] rfl #[(1, .int .i64 (ch : Int))] (by simp [Act.eval]) _ (K1.out _) ?_)
    | (refine wpList_store_row (P := Tryz.prog) rfl rfl 35 (.tmp 4) (.tmp 14) rfl w1.heap.size rfl 35 F0 F1 H2.out.1 rfl M1.out O1.out S1.out ?_; intro w3 g1 g2; have q0 : w3.cell? ⟨w1.heap.size, 0, none⟩ = some (.int .i64 0) := (g1.cell 0).trans Z1.out; have f0 := g1.free 0; have HG := Lib.hid (And.intro g1 g2); clear g1 g2)
    | (refine wpList_load_row (P := Tryz.prog) rfl 35 (.tmp 4) rfl w1.heap.size rfl 35 F2.toArray (by have := HG.out.1.setCell_list 0 (.int .i64 8); rw [K2.out] at this; exact this) _ Tryz.underlying35 rfl S3.out ?_)
    | (refine wpList_store_row (P := Tryz.prog) rfl rfl 35 (.tmp 2) (.tmp 68) rfl w.heap.size rfl 35 F0 F2 (((H1.out.1.kept H2.out.2.1 (by simp)).kept HG.out.2 (nin1 (by have := H1.out.2.2; omega))).setCell_other (by simp only []; have := H1.out.2.2; omega) _) rfl M2.out O2.out S2.out ?_; intro w4 g1 g2; have H4 := Lib.hid (And.intro g1 g2); clear g1 g2))
  have hk : Kept [] w w4 := by
    have k1 : Kept [] w w3 := (H1.out.2.1.trans H2.out.2.1 (S := []) (S' := []) (by simp)).trans HG.out.2 (S' := [w1.heap.size]) (fun x hx => .inr (by have := H1.out.2.2; simp at hx; omega))
    exact (k1.setCell (p := ⟨w1.heap.size, 0, none⟩) (.inr (by have := H1.out.2.2; simp only []; omega)) (.int .i64 8)).trans H4.out.2 (S' := [w.heap.size]) (fun x hx => .inr (by simp at hx; omega))
  exact bodyPost_ret (v := .tuple #[.agg F2.toArray, .bool true]) (results_frame rfl rfl H4.out.1 S3.out) rfl ⟨rfl, hk⟩

theorem frame_beat (p ch : Nat) (w : World) (hch : ch ≤ 65535) (hp : w.cell? ⟨p, 0, none⟩ = some (.int .u16 (ch : Int))) :
    Calls Tryz.prog 25 #[.iface 89 (.pointer (some ⟨p, 0, none⟩))] w fun e w' => e = .returned (.tuple #[.agg (beatCells ch).toArray, .bool true]) ∧ Kept [] w w' :=
  frame_beat0 p ch w hch hp frame0 (frame0.set 1 (.int .i64 (ch : Int))) (beatCells ch) alloc_frame (fun w => build_frame1 (ch : Int) w) rfl rfl (frame1_one ch) rfl rfl (beat_one ch)

end Go.Proofs.YtkcdakohmfodjaaGreat
