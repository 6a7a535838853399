/-
  Lemmas on the way to the statement of YtkcdakohmfodjaaGreatMethodRead, joined out of these texts: ZaA. No condition.
-/
import Derived.Test.YtkcdakohmfodjaaGreatNRdv
import Derived.Test.YtkcdakohmfodjaaGreatNZab
import Derived.Test.YtkcdakohmfodjaaGreatNZai
namespace Go.Proofs.YtkcdakohmfodjaaGreat
open Go.RowKit
set_option linter.unusedVariables false
set_option linter.unusedSimpArgs false
set_option maxHeartbeats 8000000 in
set_option maxRecDepth 100000 in
theorem msg_connectionStart (n0 n1 : Nat) (f2 : List Fld) (t3 t4 : List UInt8) (tb : Nat) (hn0 : n0 < 256) (hn1 : n1 < 256) (B : Nat → Prop) (w : World) (msg : Nat) (hB : B msg) (h : Blk w msg #[.int .u8 (n0 : Int), .int .u8 (n1 : Int), .map (some tb), .string ⟨t3.toArray⟩, .string ⟨t4.toArray⟩] 202) (ht : TabAt B w (.map (some tb)) f2) (hwf : WfFs f2) (hf : fitsB f2 = true) :
    MsgOk B w (.iface 200 (.pointer (some ⟨msg, 0, none⟩))) 10 10 [⟨0, n0, [], []⟩, ⟨0, n1, [], []⟩, ⟨7, 0, [], f2⟩, ⟨5, 0, t3, []⟩, ⟨5, 0, t4, []⟩] := by
  refine msg_of [(⟨0, n0, [], []⟩, .map none), (⟨0, n1, [], []⟩, .map none), (⟨7, 0, [], f2⟩, .map (some tb)), (⟨5, 0, t3, []⟩, .map none), (⟨5, 0, t4, []⟩, .map none)] rfl hB h (idg_0.1) ⟨.inl ⟨rfl, rfl⟩, .inl ⟨rfl, rfl⟩, .inr ⟨ht, hwf, hf⟩, .inl ⟨rfl, rfl⟩, .inl ⟨rfl, rfl⟩, trivial⟩ fun w h => ?_
  have w_n0 : IntKind.u64.wrap (n0 : Int) = n0 := by rw [IntKind.wrap_u64]; omega
  have w_n1 : IntKind.u64.wrap (n1 : Int) = n1 := by rw [IntKind.wrap_u64]; omega
  have c_0 : w.cell? ⟨msg, 0, none⟩ = some (.int .u8 (n0 : Int)) := h.cell 0
  have c_1 : w.cell? ⟨msg, 1, none⟩ = some (.int .u8 (n1 : Int)) := h.cell 1
  have c_2 : w.cell? ⟨msg, 2, none⟩ = some (.map (some tb)) := h.cell 2
  have c_3 : w.cell? ⟨msg, 3, none⟩ = some (.string ⟨t3.toArray⟩) := h.cell 3
  have c_4 : w.cell? ⟨msg, 4, none⟩ = some (.string ⟨t4.toArray⟩) := h.cell 4
  have HB := Lib.hid h
  have t_y := ty_mk (T := 200) fun _ _ => by kernel_rfl
  clear h hn0 hn1 ht hwf hf
  go_enter Tryz.func66, Tryz.ntmps66
  go_wp2_with fail
  go_region_held3 (fun w' : World => w'.cell? ⟨msg, 0, none⟩ = some (.int .u8 (n0 : Int)) ∧ w'.cell? ⟨msg, 1, none⟩ = some (.int .u8 (n1 : Int)) ∧ w'.cell? ⟨msg, 2, none⟩ = some (.map (some tb)) ∧ w'.cell? ⟨msg, 3, none⟩ = some (.string ⟨t3.toArray⟩) ∧ w'.cell? ⟨msg, 4, none⟩ = some (.string ⟨t4.toArray⟩))
    (first | exact ⟨c_0, c_1, c_2, c_3, c_4⟩ | exact ⟨HB.out.cd 0, HB.out.cd 1, HB.out.cd 2, HB.out.cd 3, HB.out.cd 4⟩ | exact ⟨HB.out.ca 0, HB.out.ca 1, HB.out.ca 2, HB.out.ca 3, HB.out.ca 4⟩)
    (fail)
  go_wp2
  go_ret
  exact ⟨rfl, by first | exact za_1 _ _ _ | exact za_2 _ _ _ | exact za_3 _ _ _⟩
set_option maxHeartbeats 1000000 in
set_option maxRecDepth 100000 in
theorem msg_connectionStartOk (f0 : List Fld) (t1 t2 t3 : List UInt8) (tb : Nat)  (B : Nat → Prop) (w : World) (msg : Nat) (hB : B msg) (h : Blk w msg #[.map (some tb), .string ⟨t1.toArray⟩, .string ⟨t2.toArray⟩, .string ⟨t3.toArray⟩] 206) (ht : TabAt B w (.map (some tb)) f0) (hwf : WfFs f0) (hf : fitsB f0 = true) :
    MsgOk B w (.iface 204 (.pointer (some ⟨msg, 0, none⟩))) 10 11 [⟨7, 0, [], f0⟩, ⟨4, 0, t1, []⟩, ⟨5, 0, t2, []⟩, ⟨4, 0, t3, []⟩] := by
  refine msg_of [(⟨7, 0, [], f0⟩, .map (some tb)), (⟨4, 0, t1, []⟩, .map none), (⟨5, 0, t2, []⟩, .map none), (⟨4, 0, t3, []⟩, .map none)] rfl hB h (idg_0.2.1) ⟨.inr ⟨ht, hwf, hf⟩, .inl ⟨rfl, rfl⟩, .inl ⟨rfl, rfl⟩, .inl ⟨rfl, rfl⟩, trivial⟩ fun w h => ?_
  have c_0 : w.cell? ⟨msg, 0, none⟩ = some (.map (some tb)) := h.cell 0
  have c_1 : w.cell? ⟨msg, 1, none⟩ = some (.string ⟨t1.toArray⟩) := h.cell 1
  have c_2 : w.cell? ⟨msg, 2, none⟩ = some (.string ⟨t2.toArray⟩) := h.cell 2
  have c_3 : w.cell? ⟨msg, 3, none⟩ = some (.string ⟨t3.toArray⟩) := h.cell 3
  have HB := Lib.hid h
  have y0 := fun v w => tn_0 (u := 204) (by decide) v w
  have t_y := ty_mk (T := 204) fun _ _ => by kernel_rfl
  clear h ht hwf hf
  go_enter Tryz.func66, Tryz.ntmps66
  go_wp2_with fail
  go_region_held3 (fun w' : World => w'.cell? ⟨msg, 0, none⟩ = some (.map (some tb)) ∧ w'.cell? ⟨msg, 1, none⟩ = some (.string ⟨t1.toArray⟩) ∧ w'.cell? ⟨msg, 2, none⟩ = some (.string ⟨t2.toArray⟩) ∧ w'.cell? ⟨msg, 3, none⟩ = some (.string ⟨t3.toArray⟩))
    (first | exact ⟨c_0, c_1, c_2, c_3⟩ | exact ⟨HB.out.cd 0, HB.out.cd 1, HB.out.cd 2, HB.out.cd 3⟩ | exact ⟨HB.out.ca 0, HB.out.ca 1, HB.out.ca 2, HB.out.ca 3⟩)
    (fail)
  go_wp2
  go_ret
  exact ⟨rfl, by first | exact za_1 _ _ _ | exact za_2 _ _ _ | exact za_3 _ _ _⟩
set_option maxHeartbeats 1000000 in
set_option maxRecDepth 100000 in
theorem msg_connectionSecure (t0 : List UInt8)  (B : Nat → Prop) (w : World) (msg : Nat) (hB : B msg) (h : Blk w msg #[.string ⟨t0.toArray⟩] 209) :
    MsgOk B w (.iface 207 (.pointer (some ⟨msg, 0, none⟩))) 10 20 [⟨5, 0, t0, []⟩] := by
  refine msg_of [(⟨5, 0, t0, []⟩, .map none)] rfl hB h (idg_0.2.2.1) ⟨.inl ⟨rfl, rfl⟩, trivial⟩ fun w h => ?_
  have c_0 : w.cell? ⟨msg, 0, none⟩ = some (.string ⟨t0.toArray⟩) := h.cell 0
  have y0 := fun v w => tn_0 (u := 207) (by decide) v w
  have y1 := fun v w => tn_1 (u := 207) (by decide) v w
  have t_y := ty_mk (T := 207) fun _ _ => by kernel_rfl
  clear h
  go_enter Tryz.func66, Tryz.ntmps66
  go_wp2_with (fail)
  go_ret
  exact ⟨rfl, by first | exact za_1 _ _ _ | exact za_2 _ _ _ | exact za_3 _ _ _⟩
set_option maxHeartbeats 1000000 in
set_option maxRecDepth 100000 in
theorem msg_connectionSecureOk (t0 : List UInt8)  (B : Nat → Prop) (w : World) (msg : Nat) (hB : B msg) (h : Blk w msg #[.string ⟨t0.toArray⟩] 212) :
    MsgOk B w (.iface 210 (.pointer (some ⟨msg, 0, none⟩))) 10 21 [⟨5, 0, t0, []⟩] := by
  refine msg_of [(⟨5, 0, t0, []⟩, .map none)] rfl hB h (idg_0.2.2.2.1) ⟨.inl ⟨rfl, rfl⟩, trivial⟩ fun w h => ?_
  have c_0 : w.cell? ⟨msg, 0, none⟩ = some (.string ⟨t0.toArray⟩) := h.cell 0
  have y0 := fun v w => tn_0 (u := 210) (by decide) v w
  have y1 := fun v w => tn_1 (u := 210) (by decide) v w
  have y2 := fun v w => tn_2 (u := 210) (by decide) v w
  have t_y := ty_mk (T := 210) fun _ _ => by kernel_rfl
  clear h
  go_enter Tryz.func66, Tryz.ntmps66
  go_wp2_with (fail)
  go_ret
  exact ⟨rfl, by first | exact za_1 _ _ _ | exact za_2 _ _ _ | exact za_3 _ _ _⟩
set_option maxHeartbeats 1000000 in
set_option maxRecDepth 100000 in
theorem msg_connectionTune (n0 n1 n2 : Nat) (hn0 : n0 < 65536) (hn1 : n1 < 4294967296) (hn2 : n2 < 65536) (B : Nat → Prop) (w : World) (msg : Nat) (hB : B msg) (h : Blk w msg #[.int .u16 (n0 : Int), .int .u32 (n1 : Int), .int .u16 (n2 : Int)] 215) :
    MsgOk B w (.iface 213 (.pointer (some ⟨msg, 0, none⟩))) 10 30 [⟨1, n0, [], []⟩, ⟨2, n1, [], []⟩, ⟨1, n2, [], []⟩] := by
  refine msg_of [(⟨1, n0, [], []⟩, .map none), (⟨2, n1, [], []⟩, .map none), (⟨1, n2, [], []⟩, .map none)] rfl hB h (idg_0.2.2.2.2.1) ⟨.inl ⟨rfl, rfl⟩, .inl ⟨rfl, rfl⟩, .inl ⟨rfl, rfl⟩, trivial⟩ fun w h => ?_
  have w_n0 : IntKind.u64.wrap (n0 : Int) = n0 := by rw [IntKind.wrap_u64]; omega
  have w_n1 : IntKind.u64.wrap (n1 : Int) = n1 := by rw [IntKind.wrap_u64]; omega
  have w_n2 : IntKind.u64.wrap (n2 : Int) = n2 := by rw [IntKind.wrap_u64]; omega
  have c_0 : w.cell? ⟨msg, 0, none⟩ = some (.int .u16 (n0 : Int)) := h.cell 0
  have c_1 : w.cell? ⟨msg, 1, none⟩ = some (.int .u32 (n1 : Int)) := h.cell 1
  have c_2 : w.cell? ⟨msg, 2, none⟩ = some (.int .u16 (n2 : Int)) := h.cell 2
  have HB := Lib.hid h
  have y0 := fun v w => tn_0 (u := 213) (by decide) v w
  have y1 := fun v w => tn_1 (u := 213) (by decide) v w
  have y2 := fun v w => tn_2 (u := 213) (by decide) v w
  have y3 := fun v w => tn_3 (u := 213) (by decide) v w
  have t_y := ty_mk (T := 213) fun _ _ => by kernel_rfl
  clear h hn0 hn1 hn2
  go_enter Tryz.func66, Tryz.ntmps66
  go_wp2_with fail
  go_region_held3 (fun w' : World => w'.cell? ⟨msg, 0, none⟩ = some (.int .u16 (n0 : Int)) ∧ w'.cell? ⟨msg, 1, none⟩ = some (.int .u32 (n1 : Int)) ∧ w'.cell? ⟨msg, 2, none⟩ = some (.int .u16 (n2 : Int)))
    (first | exact ⟨c_0, c_1, c_2⟩ | exact ⟨HB.out.cd 0, HB.out.cd 1, HB.out.cd 2⟩ | exact ⟨HB.out.ca 0, HB.out.ca 1, HB.out.ca 2⟩)
    (fail)
  go_wp2
  go_ret
  exact ⟨rfl, by first | exact za_1 _ _ _ | exact za_2 _ _ _ | exact za_3 _ _ _⟩
set_option maxHeartbeats 1000000 in
set_option maxRecDepth 100000 in
theorem msg_connectionTuneOk (n0 n1 n2 : Nat) (hn0 : n0 < 65536) (hn1 : n1 < 4294967296) (hn2 : n2 < 65536) (B : Nat → Prop) (w : World) (msg : Nat) (hB : B msg) (h : Blk w msg #[.int .u16 (n0 : Int), .int .u32 (n1 : Int), .int .u16 (n2 : Int)] 217) :
    MsgOk B w (.iface 216 (.pointer (some ⟨msg, 0, none⟩))) 10 31 [⟨1, n0, [], []⟩, ⟨2, n1, [], []⟩, ⟨1, n2, [], []⟩] := by
  refine msg_of [(⟨1, n0, [], []⟩, .map none), (⟨2, n1, [], []⟩, .map none), (⟨1, n2, [], []⟩, .map none)] rfl hB h (idg_0.2.2.2.2.2.1) ⟨.inl ⟨rfl, rfl⟩, .inl ⟨rfl, rfl⟩, .inl ⟨rfl, rfl⟩, trivial⟩ fun w h => ?_
  have w_n0 : IntKind.u64.wrap (n0 : Int) = n0 := by rw [IntKind.wrap_u64]; omega
  have w_n1 : IntKind.u64.wrap (n1 : Int) = n1 := by rw [IntKind.wrap_u64]; omega
  have w_n2 : IntKind.u64.wrap (n2 : Int) = n2 := by rw [IntKind.wrap_u64]; omega
  have c_0 : w.cell? ⟨msg, 0, none⟩ = some (.int .u16 (n0 : Int)) := h.cell 0
  have c_1 : w.cell? ⟨msg, 1, none⟩ = some (.int .u32 (n1 : Int)) := h.cell 1
  have c_2 : w.cell? ⟨msg, 2, none⟩ = some (.int .u16 (n2 : Int)) := h.cell 2
  have HB := Lib.hid h
  have y0 := fun v w => tn_0 (u := 216) (by decide) v w
  have y1 := fun v w => tn_1 (u := 216) (by decide) v w
  have y2 := fun v w => tn_2 (u := 216) (by decide) v w
  have y3 := fun v w => tn_3 (u := 216) (by decide) v w
  have y4 := fun v w => tn_4 (u := 216) (by decide) v w
  have t_y := ty_mk (T := 216) fun _ _ => by kernel_rfl
  clear h hn0 hn1 hn2
  go_enter Tryz.func66, Tryz.ntmps66
  go_wp2_with fail
  go_region_held3 (fun w' : World => w'.cell? ⟨msg, 0, none⟩ = some (.int .u16 (n0 : Int)) ∧ w'.cell? ⟨msg, 1, none⟩ = some (.int .u32 (n1 : Int)) ∧ w'.cell? ⟨msg, 2, none⟩ = some (.int .u16 (n2 : Int)))
    (first | exact ⟨c_0, c_1, c_2⟩ | exact ⟨HB.out.cd 0, HB.out.cd 1, HB.out.cd 2⟩ | exact ⟨HB.out.ca 0, HB.out.ca 1, HB.out.ca 2⟩)
    (fail)
  go_wp2
  go_ret
  exact ⟨rfl, by first | exact za_1 _ _ _ | exact za_2 _ _ _ | exact za_3 _ _ _⟩
set_option maxHeartbeats 1000000 in
set_option maxRecDepth 100000 in
theorem msg_connectionOpen (t0 : List UInt8)  (B : Nat → Prop) (w : World) (msg : Nat) (hB : B msg) (h : Blk w msg #[.string ⟨t0.toArray⟩, .string ⟨([] : List UInt8).toArray⟩, .bool false] 220) :
    MsgOk B w (.iface 218 (.pointer (some ⟨msg, 0, none⟩))) 10 40 [⟨4, 0, t0, []⟩] := by
  refine msg_of [(⟨4, 0, t0, []⟩, .map none)] rfl hB h (idg_0.2.2.2.2.2.2.1) ⟨.inl ⟨rfl, rfl⟩, trivial⟩ fun w h => ?_
  have c_0 : w.cell? ⟨msg, 0, none⟩ = some (.string ⟨t0.toArray⟩) := h.cell 0
  have y0 := fun v w => tn_0 (u := 218) (by decide) v w
  have y1 := fun v w => tn_1 (u := 218) (by decide) v w
  have y2 := fun v w => tn_2 (u := 218) (by decide) v w
  have y3 := fun v w => tn_3 (u := 218) (by decide) v w
  have y4 := fun v w => tn_4 (u := 218) (by decide) v w
  have y5 := fun v w => tn_5 (u := 218) (by decide) v w
  have t_y := ty_mk (T := 218) fun _ _ => by kernel_rfl
  clear h
  go_enter Tryz.func66, Tryz.ntmps66
  go_wp2_with (fail)
  go_ret
  exact ⟨rfl, by first | exact za_1 _ _ _ | exact za_2 _ _ _ | exact za_3 _ _ _⟩
set_option maxHeartbeats 1000000 in
set_option maxRecDepth 100000 in
theorem msg_connectionOpenOk   (B : Nat → Prop) (w : World) (msg : Nat) (hB : B msg) (h : Blk w msg #[.string ⟨([] : List UInt8).toArray⟩] 223) :
    MsgOk B w (.iface 221 (.pointer (some ⟨msg, 0, none⟩))) 10 41 [] := by
  refine msg_of0 hB h (idg_0.2.2.2.2.2.2.2) fun w h => ?_
  have y0 := fun v w => tn_0 (u := 221) (by decide) v w
  have y1 := fun v w => tn_1 (u := 221) (by decide) v w
  have y2 := fun v w => tn_2 (u := 221) (by decide) v w
  have y3 := fun v w => tn_3 (u := 221) (by decide) v w
  have y4 := fun v w => tn_4 (u := 221) (by decide) v w
  have y5 := fun v w => tn_5 (u := 221) (by decide) v w
  have y6 := fun v w => tn_6 (u := 221) (by decide) v w
  have t_y := ty_mk (T := 221) fun _ _ => by kernel_rfl
  clear h
  go_enter Tryz.func66, Tryz.ntmps66
  go_wp2_with (fail)
  go_ret
  exact ⟨rfl, Kept.refl _ _⟩
set_option maxHeartbeats 1000000 in
set_option maxRecDepth 100000 in
theorem msg_connectionClose (n0 : Nat) (t1 : List UInt8) (n2 n3 : Nat) (hn0 : n0 < 65536) (hn2 : n2 < 65536) (hn3 : n3 < 65536) (B : Nat → Prop) (w : World) (msg : Nat) (hB : B msg) (h : Blk w msg #[.int .u16 (n0 : Int), .string ⟨t1.toArray⟩, .int .u16 (n2 : Int), .int .u16 (n3 : Int)] 226) :
    MsgOk B w (.iface 224 (.pointer (some ⟨msg, 0, none⟩))) 10 50 [⟨1, n0, [], []⟩, ⟨4, 0, t1, []⟩, ⟨1, n2, [], []⟩, ⟨1, n3, [], []⟩] := by
  refine msg_of [(⟨1, n0, [], []⟩, .map none), (⟨4, 0, t1, []⟩, .map none), (⟨1, n2, [], []⟩, .map none), (⟨1, n3, [], []⟩, .map none)] rfl hB h (idg_1.1) ⟨.inl ⟨rfl, rfl⟩, .inl ⟨rfl, rfl⟩, .inl ⟨rfl, rfl⟩, .inl ⟨rfl, rfl⟩, trivial⟩ fun w h => ?_
  have w_n0 : IntKind.u64.wrap (n0 : Int) = n0 := by rw [IntKind.wrap_u64]; omega
  have w_n2 : IntKind.u64.wrap (n2 : Int) = n2 := by rw [IntKind.wrap_u64]; omega
  have w_n3 : IntKind.u64.wrap (n3 : Int) = n3 := by rw [IntKind.wrap_u64]; omega
  have c_0 : w.cell? ⟨msg, 0, none⟩ = some (.int .u16 (n0 : Int)) := h.cell 0
  have c_1 : w.cell? ⟨msg, 1, none⟩ = some (.string ⟨t1.toArray⟩) := h.cell 1
  have c_2 : w.cell? ⟨msg, 2, none⟩ = some (.int .u16 (n2 : Int)) := h.cell 2
  have c_3 : w.cell? ⟨msg, 3, none⟩ = some (.int .u16 (n3 : Int)) := h.cell 3
  have HB := Lib.hid h
  obtain ⟨y0, y1, y2, y3, y4, y5, y6, y7⟩ := tng_0 (u := 224) (by decide)
  have t_y := ty_mk (T := 224) fun _ _ => by kernel_rfl
  clear h hn0 hn2 hn3
  go_enter Tryz.func66, Tryz.ntmps66
  go_wp2_with fail
  go_region_held3 (fun w' : World => w'.cell? ⟨msg, 0, none⟩ = some (.int .u16 (n0 : Int)) ∧ w'.cell? ⟨msg, 1, none⟩ = some (.string ⟨t1.toArray⟩) ∧ w'.cell? ⟨msg, 2, none⟩ = some (.int .u16 (n2 : Int)) ∧ w'.cell? ⟨msg, 3, none⟩ = some (.int .u16 (n3 : Int)))
    (first | exact ⟨c_0, c_1, c_2, c_3⟩ | exact ⟨HB.out.cd 0, HB.out.cd 1, HB.out.cd 2, HB.out.cd 3⟩ | exact ⟨HB.out.ca 0, HB.out.ca 1, HB.out.ca 2, HB.out.ca 3⟩)
    (fail)
  go_wp2
  go_ret
  exact ⟨rfl, by first | exact za_1 _ _ _ | exact za_2 _ _ _ | exact za_3 _ _ _⟩
set_option maxHeartbeats 1000000 in
set_option maxRecDepth 100000 in
theorem msg_connectionCloseOk   (B : Nat → Prop) (w : World) (msg : Nat) (hB : B msg) (h : Blk w msg #[] 229) :
    MsgOk B w (.iface 227 (.pointer (some ⟨msg, 0, none⟩))) 10 51 [] := by
  refine msg_of0 hB h (idg_1.2.1) fun w h => ?_
  obtain ⟨y0, y1, y2, y3, y4, y5, y6, y7⟩ := tng_0 (u := 227) (by decide)
  have y8 := fun v w => tn_8 (u := 227) (by decide) v w
  have t_y := ty_mk (T := 227) fun _ _ => by kernel_rfl
  clear h
  go_enter Tryz.func66, Tryz.ntmps66
  go_wp2_with (fail)
  go_ret
  exact ⟨rfl, Kept.refl _ _⟩
set_option maxHeartbeats 1000000 in
set_option maxRecDepth 100000 in
theorem msg_connectionBlocked (t0 : List UInt8)  (B : Nat → Prop) (w : World) (msg : Nat) (hB : B msg) (h : Blk w msg #[.string ⟨t0.toArray⟩] 232) :
    MsgOk B w (.iface 230 (.pointer (some ⟨msg, 0, none⟩))) 10 60 [⟨4, 0, t0, []⟩] := by
  refine msg_of [(⟨4, 0, t0, []⟩, .map none)] rfl hB h (idg_1.2.2.1) ⟨.inl ⟨rfl, rfl⟩, trivial⟩ fun w h => ?_
  have c_0 : w.cell? ⟨msg, 0, none⟩ = some (.string ⟨t0.toArray⟩) := h.cell 0
  obtain ⟨y0, y1, y2, y3, y4, y5, y6, y7⟩ := tng_0 (u := 230) (by decide)
  have y8 := fun v w => tn_8 (u := 230) (by decide) v w
  have y9 := fun v w => tn_9 (u := 230) (by decide) v w
  have t_y := ty_mk (T := 230) fun _ _ => by kernel_rfl
  clear h
  go_enter Tryz.func66, Tryz.ntmps66
  go_wp2_with (fail)
  go_ret
  exact ⟨rfl, by first | exact za_1 _ _ _ | exact za_2 _ _ _ | exact za_3 _ _ _⟩
set_option maxHeartbeats 1000000 in
set_option maxRecDepth 100000 in
theorem msg_connectionUnblocked   (B : Nat → Prop) (w : World) (msg : Nat) (hB : B msg) (h : Blk w msg #[] 234) :
    MsgOk B w (.iface 233 (.pointer (some ⟨msg, 0, none⟩))) 10 61 [] := by
  refine msg_of0 hB h (idg_1.2.2.2.1) fun w h => ?_
  obtain ⟨y0, y1, y2, y3, y4, y5, y6, y7⟩ := tng_0 (u := 233) (by decide)
  have y8 := fun v w => tn_8 (u := 233) (by decide) v w
  have y9 := fun v w => tn_9 (u := 233) (by decide) v w
  have y10 := fun v w => tn_10 (u := 233) (by decide) v w
  have t_y := ty_mk (T := 233) fun _ _ => by kernel_rfl
  clear h
  go_enter Tryz.func66, Tryz.ntmps66
  go_wp2_with (fail)
  go_ret
  exact ⟨rfl, Kept.refl _ _⟩
set_option maxHeartbeats 1000000 in
set_option maxRecDepth 100000 in
theorem msg_connectionUpdateSecret (t0 t1 : List UInt8)  (B : Nat → Prop) (w : World) (msg : Nat) (hB : B msg) (h : Blk w msg #[.string ⟨t0.toArray⟩, .string ⟨t1.toArray⟩] 237) :
    MsgOk B w (.iface 235 (.pointer (some ⟨msg, 0, none⟩))) 10 70 [⟨5, 0, t0, []⟩, ⟨4, 0, t1, []⟩] := by
  refine msg_of [(⟨5, 0, t0, []⟩, .map none), (⟨4, 0, t1, []⟩, .map none)] rfl hB h (idg_1.2.2.2.2.1) ⟨.inl ⟨rfl, rfl⟩, .inl ⟨rfl, rfl⟩, trivial⟩ fun w h => ?_
  have c_0 : w.cell? ⟨msg, 0, none⟩ = some (.string ⟨t0.toArray⟩) := h.cell 0
  have c_1 : w.cell? ⟨msg, 1, none⟩ = some (.string ⟨t1.toArray⟩) := h.cell 1
  have HB := Lib.hid h
  obtain ⟨y0, y1, y2, y3, y4, y5, y6, y7⟩ := tng_0 (u := 235) (by decide)
  have y8 := fun v w => tn_8 (u := 235) (by decide) v w
  have y9 := fun v w => tn_9 (u := 235) (by decide) v w
  have y10 := fun v w => tn_10 (u := 235) (by decide) v w
  have y11 := fun v w => tn_11 (u := 235) (by decide) v w
  have t_y := ty_mk (T := 235) fun _ _ => by kernel_rfl
  clear h
  go_enter Tryz.func66, Tryz.ntmps66
  go_wp2_with fail
  go_region_held3 (fun w' : World => w'.cell? ⟨msg, 0, none⟩ = some (.string ⟨t0.toArray⟩) ∧ w'.cell? ⟨msg, 1, none⟩ = some (.string ⟨t1.toArray⟩))
    (first | exact ⟨c_0, c_1⟩ | exact ⟨HB.out.cd 0, HB.out.cd 1⟩ | exact ⟨HB.out.ca 0, HB.out.ca 1⟩)
    (fail)
  go_wp2
  go_ret
  exact ⟨rfl, by first | exact za_1 _ _ _ | exact za_2 _ _ _ | exact za_3 _ _ _⟩
set_option maxHeartbeats 1000000 in
set_option maxRecDepth 100000 in
theorem msg_connectionUpdateSecretOk   (B : Nat → Prop) (w : World) (msg : Nat) (hB : B msg) (h : Blk w msg #[] 239) :
    MsgOk B w (.iface 238 (.pointer (some ⟨msg, 0, none⟩))) 10 71 [] := by
  refine msg_of0 hB h (idg_1.2.2.2.2.2.1) fun w h => ?_
  obtain ⟨y0, y1, y2, y3, y4, y5, y6, y7⟩ := tng_0 (u := 238) (by decide)
  have y8 := fun v w => tn_8 (u := 238) (by decide) v w
  have y9 := fun v w => tn_9 (u := 238) (by decide) v w
  have y10 := fun v w => tn_10 (u := 238) (by decide) v w
  have y11 := fun v w => tn_11 (u := 238) (by decide) v w
  have y12 := fun v w => tn_12 (u := 238) (by decide) v w
  have t_y := ty_mk (T := 238) fun _ _ => by kernel_rfl
  clear h
  go_enter Tryz.func66, Tryz.ntmps66
  go_wp2_with (fail)
  go_ret
  exact ⟨rfl, Kept.refl _ _⟩
set_option maxHeartbeats 1000000 in
set_option maxRecDepth 100000 in
theorem msg_channelOpen   (B : Nat → Prop) (w : World) (msg : Nat) (hB : B msg) (h : Blk w msg #[.string ⟨([] : List UInt8).toArray⟩] 242) :
    MsgOk B w (.iface 241 (.pointer (some ⟨msg, 0, none⟩))) 20 10 [] := by
  refine msg_of0 hB h (idg_1.2.2.2.2.2.2.1) fun w h => ?_
  obtain ⟨y0, y1, y2, y3, y4, y5, y6, y7⟩ := tng_0 (u := 241) (by decide)
  have y8 := fun v w => tn_8 (u := 241) (by decide) v w
  have y9 := fun v w => tn_9 (u := 241) (by decide) v w
  have y10 := fun v w => tn_10 (u := 241) (by decide) v w
  have y11 := fun v w => tn_11 (u := 241) (by decide) v w
  have y12 := fun v w => tn_12 (u := 241) (by decide) v w
  have y13 := fun v w => tn_13 (u := 241) (by decide) v w
  have t_y := ty_mk (T := 241) fun _ _ => by kernel_rfl
  clear h
  go_enter Tryz.func66, Tryz.ntmps66
  go_wp2_with (fail)
  go_ret
  exact ⟨rfl, Kept.refl _ _⟩
set_option maxHeartbeats 1000000 in
set_option maxRecDepth 100000 in
theorem msg_channelOpenOk   (B : Nat → Prop) (w : World) (msg : Nat) (hB : B msg) (h : Blk w msg #[.string ⟨([] : List UInt8).toArray⟩] 244) :
    MsgOk B w (.iface 243 (.pointer (some ⟨msg, 0, none⟩))) 20 11 [] := by
  refine msg_of0 hB h (idg_1.2.2.2.2.2.2.2) fun w h => ?_
  obtain ⟨y0, y1, y2, y3, y4, y5, y6, y7⟩ := tng_0 (u := 243) (by decide)
  have y8 := fun v w => tn_8 (u := 243) (by decide) v w
  have y9 := fun v w => tn_9 (u := 243) (by decide) v w
  have y10 := fun v w => tn_10 (u := 243) (by decide) v w
  have y11 := fun v w => tn_11 (u := 243) (by decide) v w
  have y12 := fun v w => tn_12 (u := 243) (by decide) v w
  have y13 := fun v w => tn_13 (u := 243) (by decide) v w
  have y14 := fun v w => tn_14 (u := 243) (by decide) v w
  have t_y := ty_mk (T := 243) fun _ _ => by kernel_rfl
  clear h
  go_enter Tryz.func66, Tryz.ntmps66
  go_wp2_with (fail)
  go_ret
  exact ⟨rfl, Kept.refl _ _⟩
end Go.Proofs.YtkcdakohmfodjaaGreat
