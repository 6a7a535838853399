/-
  Lemmas on the way to the statement of YtkcdakohmfodjaaGreatMethodRead, joined out of these texts: ZaB. No condition.
-/
import Derived.Test.YtkcdakohmfodjaaGreatNRdv
import Derived.Test.YtkcdakohmfodjaaGreatNZab
import Derived.Test.YtkcdakohmfodjaaGreatNZai
namespace Go.Proofs.YtkcdakohmfodjaaGreat
open Go.RowKit
set_option linter.unusedVariables false
set_option linter.unusedSimpArgs false
set_option maxHeartbeats 1000000 in
set_option maxRecDepth 100000 in
theorem msg_channelFlow (p0 : Bool)  (B : Nat → Prop) (w : World) (msg : Nat) (hB : B msg) (h : Blk w msg #[.bool p0] 247) :
    MsgOk B w (.iface 245 (.pointer (some ⟨msg, 0, none⟩))) 20 20 [⟨6, p0.toNat, [], []⟩] := by
  refine msg_of [(⟨6, p0.toNat, [], []⟩, .map none)] rfl hB h (idg_2.1) ⟨.inl ⟨rfl, rfl⟩, trivial⟩ fun w h => ?_
  have c_0 : w.cell? ⟨msg, 0, none⟩ = some (.bool p0) := h.cell 0
  obtain ⟨y0, y1, y2, y3, y4, y5, y6, y7⟩ := tng_0 (u := 245) (by decide)
  obtain ⟨y8, y9, y10, y11, y12, y13, y14, y15⟩ := tng_1 (u := 245) (by decide)
  have t_y := ty_mk (T := 245) fun _ _ => by kernel_rfl
  clear h
  go_enter Tryz.func66, Tryz.ntmps66
  go_wp2_with (first | ((with_reducible refine (zzBit_eq _ _).mono ?_); rintro e w3 ⟨rfl, rfl⟩))
  go_ret
  exact ⟨rfl, by first | exact za_1 _ _ _ | exact za_2 _ _ _ | exact za_3 _ _ _⟩
set_option maxHeartbeats 1000000 in
set_option maxRecDepth 100000 in
theorem msg_channelFlowOk (p0 : Bool)  (B : Nat → Prop) (w : World) (msg : Nat) (hB : B msg) (h : Blk w msg #[.bool p0] 249) :
    MsgOk B w (.iface 248 (.pointer (some ⟨msg, 0, none⟩))) 20 21 [⟨6, p0.toNat, [], []⟩] := by
  refine msg_of [(⟨6, p0.toNat, [], []⟩, .map none)] rfl hB h (idg_2.2.1) ⟨.inl ⟨rfl, rfl⟩, trivial⟩ fun w h => ?_
  have c_0 : w.cell? ⟨msg, 0, none⟩ = some (.bool p0) := h.cell 0
  obtain ⟨y0, y1, y2, y3, y4, y5, y6, y7⟩ := tng_0 (u := 248) (by decide)
  obtain ⟨y8, y9, y10, y11, y12, y13, y14, y15⟩ := tng_1 (u := 248) (by decide)
  have y16 := fun v w => tn_16 (u := 248) (by decide) v w
  have t_y := ty_mk (T := 248) fun _ _ => by kernel_rfl
  clear h
  go_enter Tryz.func66, Tryz.ntmps66
  go_wp2_with (first | ((with_reducible refine (zzBit_eq _ _).mono ?_); rintro e w3 ⟨rfl, rfl⟩))
  go_ret
  exact ⟨rfl, by first | exact za_1 _ _ _ | exact za_2 _ _ _ | exact za_3 _ _ _⟩
set_option maxHeartbeats 1000000 in
set_option maxRecDepth 100000 in
theorem msg_channelClose (n0 : Nat) (t1 : List UInt8) (n2 n3 : Nat) (hn0 : n0 < 65536) (hn2 : n2 < 65536) (hn3 : n3 < 65536) (B : Nat → Prop) (w : World) (msg : Nat) (hB : B msg) (h : Blk w msg #[.int .u16 (n0 : Int), .string ⟨t1.toArray⟩, .int .u16 (n2 : Int), .int .u16 (n3 : Int)] 251) :
    MsgOk B w (.iface 250 (.pointer (some ⟨msg, 0, none⟩))) 20 40 [⟨1, n0, [], []⟩, ⟨4, 0, t1, []⟩, ⟨1, n2, [], []⟩, ⟨1, n3, [], []⟩] := by
  refine msg_of [(⟨1, n0, [], []⟩, .map none), (⟨4, 0, t1, []⟩, .map none), (⟨1, n2, [], []⟩, .map none), (⟨1, n3, [], []⟩, .map none)] rfl hB h (idg_2.2.2.1) ⟨.inl ⟨rfl, rfl⟩, .inl ⟨rfl, rfl⟩, .inl ⟨rfl, rfl⟩, .inl ⟨rfl, rfl⟩, trivial⟩ fun w h => ?_
  have w_n0 : IntKind.u64.wrap (n0 : Int) = n0 := by rw [IntKind.wrap_u64]; omega
  have w_n2 : IntKind.u64.wrap (n2 : Int) = n2 := by rw [IntKind.wrap_u64]; omega
  have w_n3 : IntKind.u64.wrap (n3 : Int) = n3 := by rw [IntKind.wrap_u64]; omega
  have c_0 : w.cell? ⟨msg, 0, none⟩ = some (.int .u16 (n0 : Int)) := h.cell 0
  have c_1 : w.cell? ⟨msg, 1, none⟩ = some (.string ⟨t1.toArray⟩) := h.cell 1
  have c_2 : w.cell? ⟨msg, 2, none⟩ = some (.int .u16 (n2 : Int)) := h.cell 2
  have c_3 : w.cell? ⟨msg, 3, none⟩ = some (.int .u16 (n3 : Int)) := h.cell 3
  have HB := Lib.hid h
  obtain ⟨y0, y1, y2, y3, y4, y5, y6, y7⟩ := tng_0 (u := 250) (by decide)
  obtain ⟨y8, y9, y10, y11, y12, y13, y14, y15⟩ := tng_1 (u := 250) (by decide)
  have y16 := fun v w => tn_16 (u := 250) (by decide) v w
  have y17 := fun v w => tn_17 (u := 250) (by decide) v w
  have t_y := ty_mk (T := 250) fun _ _ => by kernel_rfl
  clear h hn0 hn2 hn3
  go_enter Tryz.func66, Tryz.ntmps66
  go_wp2_with fail
  go_region_held3 (fun w' : World => w'.cell? ⟨msg, 0, none⟩ = some (.int .u16 (n0 : Int)) ∧ w'.cell? ⟨msg, 1, none⟩ = some (.string ⟨t1.toArray⟩) ∧ w'.cell? ⟨msg, 2, none⟩ = some (.int .u16 (n2 : Int)) ∧ w'.cell? ⟨msg, 3, none⟩ = some (.int .u16 (n3 : Int)))
    (first | exact ⟨c_0, c_1, c_2, c_3⟩ | exact ⟨HB.out.cd 0, HB.out.cd 1, HB.out.cd 2, HB.out.cd 3⟩ | exact ⟨HB.out.ca 0, HB.out.ca 1, HB.out.ca 2, HB.out.ca 3⟩)
    (fail)
  go_wp2
  go_ret
  exact ⟨rfl, by first | exact za_1 _ _ _ | exact za_2 _ _ _ | exact za_3 _ _ _⟩
set_option maxHeartbeats 1000000 in
set_option maxRecDepth 100000 in
theorem msg_channelCloseOk   (B : Nat → Prop) (w : World) (msg : Nat) (hB : B msg) (h : Blk w msg #[] 253) :
    MsgOk B w (.iface 252 (.pointer (some ⟨msg, 0, none⟩))) 20 41 [] := by
  refine msg_of0 hB h (idg_2.2.2.2.1) fun w h => ?_
  obtain ⟨y0, y1, y2, y3, y4, y5, y6, y7⟩ := tng_0 (u := 252) (by decide)
  obtain ⟨y8, y9, y10, y11, y12, y13, y14, y15⟩ := tng_1 (u := 252) (by decide)
  have y16 := fun v w => tn_16 (u := 252) (by decide) v w
  have y17 := fun v w => tn_17 (u := 252) (by decide) v w
  have y18 := fun v w => tn_18 (u := 252) (by decide) v w
  have t_y := ty_mk (T := 252) fun _ _ => by kernel_rfl
  clear h
  go_enter Tryz.func66, Tryz.ntmps66
  go_wp2_with (fail)
  go_ret
  exact ⟨rfl, Kept.refl _ _⟩
set_option maxHeartbeats 8000000 in
set_option maxRecDepth 100000 in
theorem msg_exchangeDeclare (t0 t1 : List UInt8) (p2 p3 p4 p5 p6 : Bool) (f7 : List Fld) (tb : Nat)  (B : Nat → Prop) (w : World) (msg : Nat) (hB : B msg) (h : Blk w msg #[.int .u16 ((0 : Nat) : Int), .string ⟨t0.toArray⟩, .string ⟨t1.toArray⟩, .bool p2, .bool p3, .bool p4, .bool p5, .bool p6, .map (some tb)] 256) (ht : TabAt B w (.map (some tb)) f7) (hwf : WfFs f7) (hf : fitsB f7 = true) :
    MsgOk B w (.iface 254 (.pointer (some ⟨msg, 0, none⟩))) 40 10 [⟨4, 0, t0, []⟩, ⟨4, 0, t1, []⟩, ⟨6, p2.toNat, [], []⟩, ⟨6, p3.toNat, [], []⟩, ⟨6, p4.toNat, [], []⟩, ⟨6, p5.toNat, [], []⟩, ⟨6, p6.toNat, [], []⟩, ⟨7, 0, [], f7⟩] := by
  refine msg_of [(⟨4, 0, t0, []⟩, .map none), (⟨4, 0, t1, []⟩, .map none), (⟨6, p2.toNat, [], []⟩, .map none), (⟨6, p3.toNat, [], []⟩, .map none), (⟨6, p4.toNat, [], []⟩, .map none), (⟨6, p5.toNat, [], []⟩, .map none), (⟨6, p6.toNat, [], []⟩, .map none), (⟨7, 0, [], f7⟩, .map (some tb))] rfl hB h (idg_2.2.2.2.2.1) ⟨.inl ⟨rfl, rfl⟩, .inl ⟨rfl, rfl⟩, .inl ⟨rfl, rfl⟩, .inl ⟨rfl, rfl⟩, .inl ⟨rfl, rfl⟩, .inl ⟨rfl, rfl⟩, .inl ⟨rfl, rfl⟩, .inr ⟨ht, hwf, hf⟩, trivial⟩ fun w h => ?_
  have c_1 : w.cell? ⟨msg, 1, none⟩ = some (.string ⟨t0.toArray⟩) := h.cell 1
  have c_2 : w.cell? ⟨msg, 2, none⟩ = some (.string ⟨t1.toArray⟩) := h.cell 2
  have c_3 : w.cell? ⟨msg, 3, none⟩ = some (.bool p2) := h.cell 3
  have c_4 : w.cell? ⟨msg, 4, none⟩ = some (.bool p3) := h.cell 4
  have c_5 : w.cell? ⟨msg, 5, none⟩ = some (.bool p4) := h.cell 5
  have c_6 : w.cell? ⟨msg, 6, none⟩ = some (.bool p5) := h.cell 6
  have c_7 : w.cell? ⟨msg, 7, none⟩ = some (.bool p6) := h.cell 7
  have c_8 : w.cell? ⟨msg, 8, none⟩ = some (.map (some tb)) := h.cell 8
  have HB := Lib.hid h
  obtain ⟨y0, y1, y2, y3, y4, y5, y6, y7⟩ := tng_0 (u := 254) (by decide)
  obtain ⟨y8, y9, y10, y11, y12, y13, y14, y15⟩ := tng_1 (u := 254) (by decide)
  have y16 := fun v w => tn_16 (u := 254) (by decide) v w
  have y17 := fun v w => tn_17 (u := 254) (by decide) v w
  have y18 := fun v w => tn_18 (u := 254) (by decide) v w
  have y19 := fun v w => tn_19 (u := 254) (by decide) v w
  have t_y := ty_mk (T := 254) fun _ _ => by kernel_rfl
  clear h ht hwf hf
  go_enter Tryz.func66, Tryz.ntmps66
  go_wp2_with fail
  go_region_held3 (fun w' : World => w'.cell? ⟨msg, 1, none⟩ = some (.string ⟨t0.toArray⟩) ∧ w'.cell? ⟨msg, 2, none⟩ = some (.string ⟨t1.toArray⟩) ∧ w'.cell? ⟨msg, 3, none⟩ = some (.bool p2) ∧ w'.cell? ⟨msg, 4, none⟩ = some (.bool p3) ∧ w'.cell? ⟨msg, 5, none⟩ = some (.bool p4) ∧ w'.cell? ⟨msg, 6, none⟩ = some (.bool p5) ∧ w'.cell? ⟨msg, 7, none⟩ = some (.bool p6) ∧ w'.cell? ⟨msg, 8, none⟩ = some (.map (some tb)))
    (first | exact ⟨c_1, c_2, c_3, c_4, c_5, c_6, c_7, c_8⟩ | exact ⟨HB.out.cd 1, HB.out.cd 2, HB.out.cd 3, HB.out.cd 4, HB.out.cd 5, HB.out.cd 6, HB.out.cd 7, HB.out.cd 8⟩ | exact ⟨HB.out.ca 1, HB.out.ca 2, HB.out.ca 3, HB.out.ca 4, HB.out.ca 5, HB.out.ca 6, HB.out.ca 7, HB.out.ca 8⟩)
    (first | ((with_reducible refine (zzBit_eq _ _).mono ?_); rintro e w3 ⟨rfl, rfl⟩))
  go_wp2
  go_ret
  exact ⟨rfl, by first | exact za_1 _ _ _ | exact za_2 _ _ _ | exact za_3 _ _ _⟩
set_option maxHeartbeats 1000000 in
set_option maxRecDepth 100000 in
theorem msg_exchangeDeclareOk   (B : Nat → Prop) (w : World) (msg : Nat) (hB : B msg) (h : Blk w msg #[] 258) :
    MsgOk B w (.iface 257 (.pointer (some ⟨msg, 0, none⟩))) 40 11 [] := by
  refine msg_of0 hB h (idg_2.2.2.2.2.2.1) fun w h => ?_
  obtain ⟨y0, y1, y2, y3, y4, y5, y6, y7⟩ := tng_0 (u := 257) (by decide)
  obtain ⟨y8, y9, y10, y11, y12, y13, y14, y15⟩ := tng_1 (u := 257) (by decide)
  have y16 := fun v w => tn_16 (u := 257) (by decide) v w
  have y17 := fun v w => tn_17 (u := 257) (by decide) v w
  have y18 := fun v w => tn_18 (u := 257) (by decide) v w
  have y19 := fun v w => tn_19 (u := 257) (by decide) v w
  have y20 := fun v w => tn_20 (u := 257) (by decide) v w
  have t_y := ty_mk (T := 257) fun _ _ => by kernel_rfl
  clear h
  go_enter Tryz.func66, Tryz.ntmps66
  go_wp2_with (fail)
  go_ret
  exact ⟨rfl, Kept.refl _ _⟩
set_option maxHeartbeats 1000000 in
set_option maxRecDepth 100000 in
theorem msg_exchangeDelete (t0 : List UInt8) (p1 p2 : Bool)  (B : Nat → Prop) (w : World) (msg : Nat) (hB : B msg) (h : Blk w msg #[.int .u16 ((0 : Nat) : Int), .string ⟨t0.toArray⟩, .bool p1, .bool p2] 261) :
    MsgOk B w (.iface 259 (.pointer (some ⟨msg, 0, none⟩))) 40 20 [⟨4, 0, t0, []⟩, ⟨6, p1.toNat, [], []⟩, ⟨6, p2.toNat, [], []⟩] := by
  refine msg_of [(⟨4, 0, t0, []⟩, .map none), (⟨6, p1.toNat, [], []⟩, .map none), (⟨6, p2.toNat, [], []⟩, .map none)] rfl hB h (idg_2.2.2.2.2.2.2.1) ⟨.inl ⟨rfl, rfl⟩, .inl ⟨rfl, rfl⟩, .inl ⟨rfl, rfl⟩, trivial⟩ fun w h => ?_
  have c_1 : w.cell? ⟨msg, 1, none⟩ = some (.string ⟨t0.toArray⟩) := h.cell 1
  have c_2 : w.cell? ⟨msg, 2, none⟩ = some (.bool p1) := h.cell 2
  have c_3 : w.cell? ⟨msg, 3, none⟩ = some (.bool p2) := h.cell 3
  have HB := Lib.hid h
  obtain ⟨y0, y1, y2, y3, y4, y5, y6, y7⟩ := tng_0 (u := 259) (by decide)
  obtain ⟨y8, y9, y10, y11, y12, y13, y14, y15⟩ := tng_1 (u := 259) (by decide)
  have y16 := fun v w => tn_16 (u := 259) (by decide) v w
  have y17 := fun v w => tn_17 (u := 259) (by decide) v w
  have y18 := fun v w => tn_18 (u := 259) (by decide) v w
  have y19 := fun v w => tn_19 (u := 259) (by decide) v w
  have y20 := fun v w => tn_20 (u := 259) (by decide) v w
  have y21 := fun v w => tn_21 (u := 259) (by decide) v w
  have t_y := ty_mk (T := 259) fun _ _ => by kernel_rfl
  clear h
  go_enter Tryz.func66, Tryz.ntmps66
  go_wp2_with fail
  go_region_held3 (fun w' : World => w'.cell? ⟨msg, 1, none⟩ = some (.string ⟨t0.toArray⟩) ∧ w'.cell? ⟨msg, 2, none⟩ = some (.bool p1) ∧ w'.cell? ⟨msg, 3, none⟩ = some (.bool p2))
    (first | exact ⟨c_1, c_2, c_3⟩ | exact ⟨HB.out.cd 1, HB.out.cd 2, HB.out.cd 3⟩ | exact ⟨HB.out.ca 1, HB.out.ca 2, HB.out.ca 3⟩)
    (first | ((with_reducible refine (zzBit_eq _ _).mono ?_); rintro e w3 ⟨rfl, rfl⟩))
  go_wp2
  go_ret
  exact ⟨rfl, by first | exact za_1 _ _ _ | exact za_2 _ _ _ | exact za_3 _ _ _⟩
set_option maxHeartbeats 1000000 in
set_option maxRecDepth 100000 in
theorem msg_exchangeDeleteOk   (B : Nat → Prop) (w : World) (msg : Nat) (hB : B msg) (h : Blk w msg #[] 263) :
    MsgOk B w (.iface 262 (.pointer (some ⟨msg, 0, none⟩))) 40 21 [] := by
  refine msg_of0 hB h (idg_2.2.2.2.2.2.2.2) fun w h => ?_
  obtain ⟨y0, y1, y2, y3, y4, y5, y6, y7⟩ := tng_0 (u := 262) (by decide)
  obtain ⟨y8, y9, y10, y11, y12, y13, y14, y15⟩ := tng_1 (u := 262) (by decide)
  have y16 := fun v w => tn_16 (u := 262) (by decide) v w
  have y17 := fun v w => tn_17 (u := 262) (by decide) v w
  have y18 := fun v w => tn_18 (u := 262) (by decide) v w
  have y19 := fun v w => tn_19 (u := 262) (by decide) v w
  have y20 := fun v w => tn_20 (u := 262) (by decide) v w
  have y21 := fun v w => tn_21 (u := 262) (by decide) v w
  have y22 := fun v w => tn_22 (u := 262) (by decide) v w
  have t_y := ty_mk (T := 262) fun _ _ => by kernel_rfl
  clear h
  go_enter Tryz.func66, Tryz.ntmps66
  go_wp2_with (fail)
  go_ret
  exact ⟨rfl, Kept.refl _ _⟩
set_option maxHeartbeats 8000000 in
set_option maxRecDepth 100000 in
theorem msg_exchangeBind (t0 t1 t2 : List UInt8) (p3 : Bool) (f4 : List Fld) (tb : Nat)  (B : Nat → Prop) (w : World) (msg : Nat) (hB : B msg) (h : Blk w msg #[.int .u16 ((0 : Nat) : Int), .string ⟨t0.toArray⟩, .string ⟨t1.toArray⟩, .string ⟨t2.toArray⟩, .bool p3, .map (some tb)] 266) (ht : TabAt B w (.map (some tb)) f4) (hwf : WfFs f4) (hf : fitsB f4 = true) :
    MsgOk B w (.iface 264 (.pointer (some ⟨msg, 0, none⟩))) 40 30 [⟨4, 0, t0, []⟩, ⟨4, 0, t1, []⟩, ⟨4, 0, t2, []⟩, ⟨6, p3.toNat, [], []⟩, ⟨7, 0, [], f4⟩] := by
  refine msg_of [(⟨4, 0, t0, []⟩, .map none), (⟨4, 0, t1, []⟩, .map none), (⟨4, 0, t2, []⟩, .map none), (⟨6, p3.toNat, [], []⟩, .map none), (⟨7, 0, [], f4⟩, .map (some tb))] rfl hB h (idg_3.1) ⟨.inl ⟨rfl, rfl⟩, .inl ⟨rfl, rfl⟩, .inl ⟨rfl, rfl⟩, .inl ⟨rfl, rfl⟩, .inr ⟨ht, hwf, hf⟩, trivial⟩ fun w h => ?_
  have c_1 : w.cell? ⟨msg, 1, none⟩ = some (.string ⟨t0.toArray⟩) := h.cell 1
  have c_2 : w.cell? ⟨msg, 2, none⟩ = some (.string ⟨t1.toArray⟩) := h.cell 2
  have c_3 : w.cell? ⟨msg, 3, none⟩ = some (.string ⟨t2.toArray⟩) := h.cell 3
  have c_4 : w.cell? ⟨msg, 4, none⟩ = some (.bool p3) := h.cell 4
  have c_5 : w.cell? ⟨msg, 5, none⟩ = some (.map (some tb)) := h.cell 5
  have HB := Lib.hid h
  obtain ⟨y0, y1, y2, y3, y4, y5, y6, y7⟩ := tng_0 (u := 264) (by decide)
  obtain ⟨y8, y9, y10, y11, y12, y13, y14, y15⟩ := tng_1 (u := 264) (by decide)
  obtain ⟨y16, y17, y18, y19, y20, y21, y22, y23⟩ := tng_2 (u := 264) (by decide)
  have t_y := ty_mk (T := 264) fun _ _ => by kernel_rfl
  clear h ht hwf hf
  go_enter Tryz.func66, Tryz.ntmps66
  go_wp2_with fail
  go_region_held3 (fun w' : World => w'.cell? ⟨msg, 1, none⟩ = some (.string ⟨t0.toArray⟩) ∧ w'.cell? ⟨msg, 2, none⟩ = some (.string ⟨t1.toArray⟩) ∧ w'.cell? ⟨msg, 3, none⟩ = some (.string ⟨t2.toArray⟩) ∧ w'.cell? ⟨msg, 4, none⟩ = some (.bool p3) ∧ w'.cell? ⟨msg, 5, none⟩ = some (.map (some tb)))
    (first | exact ⟨c_1, c_2, c_3, c_4, c_5⟩ | exact ⟨HB.out.cd 1, HB.out.cd 2, HB.out.cd 3, HB.out.cd 4, HB.out.cd 5⟩ | exact ⟨HB.out.ca 1, HB.out.ca 2, HB.out.ca 3, HB.out.ca 4, HB.out.ca 5⟩)
    (first | ((with_reducible refine (zzBit_eq _ _).mono ?_); rintro e w3 ⟨rfl, rfl⟩))
  go_wp2
  go_ret
  exact ⟨rfl, by first | exact za_1 _ _ _ | exact za_2 _ _ _ | exact za_3 _ _ _⟩
set_option maxHeartbeats 1000000 in
set_option maxRecDepth 100000 in
theorem msg_exchangeBindOk   (B : Nat → Prop) (w : World) (msg : Nat) (hB : B msg) (h : Blk w msg #[] 268) :
    MsgOk B w (.iface 267 (.pointer (some ⟨msg, 0, none⟩))) 40 31 [] := by
  refine msg_of0 hB h (idg_3.2.1) fun w h => ?_
  obtain ⟨y0, y1, y2, y3, y4, y5, y6, y7⟩ := tng_0 (u := 267) (by decide)
  obtain ⟨y8, y9, y10, y11, y12, y13, y14, y15⟩ := tng_1 (u := 267) (by decide)
  obtain ⟨y16, y17, y18, y19, y20, y21, y22, y23⟩ := tng_2 (u := 267) (by decide)
  have y24 := fun v w => tn_24 (u := 267) (by decide) v w
  have t_y := ty_mk (T := 267) fun _ _ => by kernel_rfl
  clear h
  go_enter Tryz.func66, Tryz.ntmps66
  go_wp2_with (fail)
  go_ret
  exact ⟨rfl, Kept.refl _ _⟩
set_option maxHeartbeats 8000000 in
set_option maxRecDepth 100000 in
theorem msg_exchangeUnbind (t0 t1 t2 : List UInt8) (p3 : Bool) (f4 : List Fld) (tb : Nat)  (B : Nat → Prop) (w : World) (msg : Nat) (hB : B msg) (h : Blk w msg #[.int .u16 ((0 : Nat) : Int), .string ⟨t0.toArray⟩, .string ⟨t1.toArray⟩, .string ⟨t2.toArray⟩, .bool p3, .map (some tb)] 270) (ht : TabAt B w (.map (some tb)) f4) (hwf : WfFs f4) (hf : fitsB f4 = true) :
    MsgOk B w (.iface 269 (.pointer (some ⟨msg, 0, none⟩))) 40 40 [⟨4, 0, t0, []⟩, ⟨4, 0, t1, []⟩, ⟨4, 0, t2, []⟩, ⟨6, p3.toNat, [], []⟩, ⟨7, 0, [], f4⟩] := by
  refine msg_of [(⟨4, 0, t0, []⟩, .map none), (⟨4, 0, t1, []⟩, .map none), (⟨4, 0, t2, []⟩, .map none), (⟨6, p3.toNat, [], []⟩, .map none), (⟨7, 0, [], f4⟩, .map (some tb))] rfl hB h (idg_3.2.2.1) ⟨.inl ⟨rfl, rfl⟩, .inl ⟨rfl, rfl⟩, .inl ⟨rfl, rfl⟩, .inl ⟨rfl, rfl⟩, .inr ⟨ht, hwf, hf⟩, trivial⟩ fun w h => ?_
  have c_1 : w.cell? ⟨msg, 1, none⟩ = some (.string ⟨t0.toArray⟩) := h.cell 1
  have c_2 : w.cell? ⟨msg, 2, none⟩ = some (.string ⟨t1.toArray⟩) := h.cell 2
  have c_3 : w.cell? ⟨msg, 3, none⟩ = some (.string ⟨t2.toArray⟩) := h.cell 3
  have c_4 : w.cell? ⟨msg, 4, none⟩ = some (.bool p3) := h.cell 4
  have c_5 : w.cell? ⟨msg, 5, none⟩ = some (.map (some tb)) := h.cell 5
  have HB := Lib.hid h
  obtain ⟨y0, y1, y2, y3, y4, y5, y6, y7⟩ := tng_0 (u := 269) (by decide)
  obtain ⟨y8, y9, y10, y11, y12, y13, y14, y15⟩ := tng_1 (u := 269) (by decide)
  obtain ⟨y16, y17, y18, y19, y20, y21, y22, y23⟩ := tng_2 (u := 269) (by decide)
  have y24 := fun v w => tn_24 (u := 269) (by decide) v w
  have y25 := fun v w => tn_25 (u := 269) (by decide) v w
  have t_y := ty_mk (T := 269) fun _ _ => by kernel_rfl
  clear h ht hwf hf
  go_enter Tryz.func66, Tryz.ntmps66
  go_wp2_with fail
  go_region_held3 (fun w' : World => w'.cell? ⟨msg, 1, none⟩ = some (.string ⟨t0.toArray⟩) ∧ w'.cell? ⟨msg, 2, none⟩ = some (.string ⟨t1.toArray⟩) ∧ w'.cell? ⟨msg, 3, none⟩ = some (.string ⟨t2.toArray⟩) ∧ w'.cell? ⟨msg, 4, none⟩ = some (.bool p3) ∧ w'.cell? ⟨msg, 5, none⟩ = some (.map (some tb)))
    (first | exact ⟨c_1, c_2, c_3, c_4, c_5⟩ | exact ⟨HB.out.cd 1, HB.out.cd 2, HB.out.cd 3, HB.out.cd 4, HB.out.cd 5⟩ | exact ⟨HB.out.ca 1, HB.out.ca 2, HB.out.ca 3, HB.out.ca 4, HB.out.ca 5⟩)
    (first | ((with_reducible refine (zzBit_eq _ _).mono ?_); rintro e w3 ⟨rfl, rfl⟩))
  go_wp2
  go_ret
  exact ⟨rfl, by first | exact za_1 _ _ _ | exact za_2 _ _ _ | exact za_3 _ _ _⟩
set_option maxHeartbeats 1000000 in
set_option maxRecDepth 100000 in
theorem msg_exchangeUnbindOk   (B : Nat → Prop) (w : World) (msg : Nat) (hB : B msg) (h : Blk w msg #[] 272) :
    MsgOk B w (.iface 271 (.pointer (some ⟨msg, 0, none⟩))) 40 51 [] := by
  refine msg_of0 hB h (idg_3.2.2.2.1) fun w h => ?_
  obtain ⟨y0, y1, y2, y3, y4, y5, y6, y7⟩ := tng_0 (u := 271) (by decide)
  obtain ⟨y8, y9, y10, y11, y12, y13, y14, y15⟩ := tng_1 (u := 271) (by decide)
  obtain ⟨y16, y17, y18, y19, y20, y21, y22, y23⟩ := tng_2 (u := 271) (by decide)
  have y24 := fun v w => tn_24 (u := 271) (by decide) v w
  have y25 := fun v w => tn_25 (u := 271) (by decide) v w
  have y26 := fun v w => tn_26 (u := 271) (by decide) v w
  have t_y := ty_mk (T := 271) fun _ _ => by kernel_rfl
  clear h
  go_enter Tryz.func66, Tryz.ntmps66
  go_wp2_with (fail)
  go_ret
  exact ⟨rfl, Kept.refl _ _⟩
set_option maxHeartbeats 8000000 in
set_option maxRecDepth 100000 in
theorem msg_queueDeclare (t0 : List UInt8) (p1 p2 p3 p4 p5 : Bool) (f6 : List Fld) (tb : Nat)  (B : Nat → Prop) (w : World) (msg : Nat) (hB : B msg) (h : Blk w msg #[.int .u16 ((0 : Nat) : Int), .string ⟨t0.toArray⟩, .bool p1, .bool p2, .bool p3, .bool p4, .bool p5, .map (some tb)] 275) (ht : TabAt B w (.map (some tb)) f6) (hwf : WfFs f6) (hf : fitsB f6 = true) :
    MsgOk B w (.iface 273 (.pointer (some ⟨msg, 0, none⟩))) 50 10 [⟨4, 0, t0, []⟩, ⟨6, p1.toNat, [], []⟩, ⟨6, p2.toNat, [], []⟩, ⟨6, p3.toNat, [], []⟩, ⟨6, p4.toNat, [], []⟩, ⟨6, p5.toNat, [], []⟩, ⟨7, 0, [], f6⟩] := by
  refine msg_of [(⟨4, 0, t0, []⟩, .map none), (⟨6, p1.toNat, [], []⟩, .map none), (⟨6, p2.toNat, [], []⟩, .map none), (⟨6, p3.toNat, [], []⟩, .map none), (⟨6, p4.toNat, [], []⟩, .map none), (⟨6, p5.toNat, [], []⟩, .map none), (⟨7, 0, [], f6⟩, .map (some tb))] rfl hB h (idg_3.2.2.2.2.1) ⟨.inl ⟨rfl, rfl⟩, .inl ⟨rfl, rfl⟩, .inl ⟨rfl, rfl⟩, .inl ⟨rfl, rfl⟩, .inl ⟨rfl, rfl⟩, .inl ⟨rfl, rfl⟩, .inr ⟨ht, hwf, hf⟩, trivial⟩ fun w h => ?_
  have c_1 : w.cell? ⟨msg, 1, none⟩ = some (.string ⟨t0.toArray⟩) := h.cell 1
  have c_2 : w.cell? ⟨msg, 2, none⟩ = some (.bool p1) := h.cell 2
  have c_3 : w.cell? ⟨msg, 3, none⟩ = some (.bool p2) := h.cell 3
  have c_4 : w.cell? ⟨msg, 4, none⟩ = some (.bool p3) := h.cell 4
  have c_5 : w.cell? ⟨msg, 5, none⟩ = some (.bool p4) := h.cell 5
  have c_6 : w.cell? ⟨msg, 6, none⟩ = some (.bool p5) := h.cell 6
  have c_7 : w.cell? ⟨msg, 7, none⟩ = some (.map (some tb)) := h.cell 7
  have HB := Lib.hid h
  obtain ⟨y0, y1, y2, y3, y4, y5, y6, y7⟩ := tng_0 (u := 273) (by decide)
  obtain ⟨y8, y9, y10, y11, y12, y13, y14, y15⟩ := tng_1 (u := 273) (by decide)
  obtain ⟨y16, y17, y18, y19, y20, y21, y22, y23⟩ := tng_2 (u := 273) (by decide)
  have y24 := fun v w => tn_24 (u := 273) (by decide) v w
  have y25 := fun v w => tn_25 (u := 273) (by decide) v w
  have y26 := fun v w => tn_26 (u := 273) (by decide) v w
  have y27 := fun v w => tn_27 (u := 273) (by decide) v w
  have t_y := ty_mk (T := 273) fun _ _ => by kernel_rfl
  clear h ht hwf hf
  go_enter Tryz.func66, Tryz.ntmps66
  go_wp2_with fail
  go_region_held3 (fun w' : World => w'.cell? ⟨msg, 1, none⟩ = some (.string ⟨t0.toArray⟩) ∧ w'.cell? ⟨msg, 2, none⟩ = some (.bool p1) ∧ w'.cell? ⟨msg, 3, none⟩ = some (.bool p2) ∧ w'.cell? ⟨msg, 4, none⟩ = some (.bool p3) ∧ w'.cell? ⟨msg, 5, none⟩ = some (.bool p4) ∧ w'.cell? ⟨msg, 6, none⟩ = some (.bool p5) ∧ w'.cell? ⟨msg, 7, none⟩ = some (.map (some tb)))
    (first | exact ⟨c_1, c_2, c_3, c_4, c_5, c_6, c_7⟩ | exact ⟨HB.out.cd 1, HB.out.cd 2, HB.out.cd 3, HB.out.cd 4, HB.out.cd 5, HB.out.cd 6, HB.out.cd 7⟩ | exact ⟨HB.out.ca 1, HB.out.ca 2, HB.out.ca 3, HB.out.ca 4, HB.out.ca 5, HB.out.ca 6, HB.out.ca 7⟩)
    (first | ((with_reducible refine (zzBit_eq _ _).mono ?_); rintro e w3 ⟨rfl, rfl⟩))
  go_wp2
  go_ret
  exact ⟨rfl, by first | exact za_1 _ _ _ | exact za_2 _ _ _ | exact za_3 _ _ _⟩
set_option maxHeartbeats 1000000 in
set_option maxRecDepth 100000 in
theorem msg_queueDeclareOk (t0 : List UInt8) (n1 n2 : Nat) (hn1 : n1 < 4294967296) (hn2 : n2 < 4294967296) (B : Nat → Prop) (w : World) (msg : Nat) (hB : B msg) (h : Blk w msg #[.string ⟨t0.toArray⟩, .int .u32 (n1 : Int), .int .u32 (n2 : Int)] 278) :
    MsgOk B w (.iface 276 (.pointer (some ⟨msg, 0, none⟩))) 50 11 [⟨4, 0, t0, []⟩, ⟨2, n1, [], []⟩, ⟨2, n2, [], []⟩] := by
  refine msg_of [(⟨4, 0, t0, []⟩, .map none), (⟨2, n1, [], []⟩, .map none), (⟨2, n2, [], []⟩, .map none)] rfl hB h (idg_3.2.2.2.2.2.1) ⟨.inl ⟨rfl, rfl⟩, .inl ⟨rfl, rfl⟩, .inl ⟨rfl, rfl⟩, trivial⟩ fun w h => ?_
  have w_n1 : IntKind.u64.wrap (n1 : Int) = n1 := by rw [IntKind.wrap_u64]; omega
  have w_n2 : IntKind.u64.wrap (n2 : Int) = n2 := by rw [IntKind.wrap_u64]; omega
  have c_0 : w.cell? ⟨msg, 0, none⟩ = some (.string ⟨t0.toArray⟩) := h.cell 0
  have c_1 : w.cell? ⟨msg, 1, none⟩ = some (.int .u32 (n1 : Int)) := h.cell 1
  have c_2 : w.cell? ⟨msg, 2, none⟩ = some (.int .u32 (n2 : Int)) := h.cell 2
  have HB := Lib.hid h
  obtain ⟨y0, y1, y2, y3, y4, y5, y6, y7⟩ := tng_0 (u := 276) (by decide)
  obtain ⟨y8, y9, y10, y11, y12, y13, y14, y15⟩ := tng_1 (u := 276) (by decide)
  obtain ⟨y16, y17, y18, y19, y20, y21, y22, y23⟩ := tng_2 (u := 276) (by decide)
  have y24 := fun v w => tn_24 (u := 276) (by decide) v w
  have y25 := fun v w => tn_25 (u := 276) (by decide) v w
  have y26 := fun v w => tn_26 (u := 276) (by decide) v w
  have y27 := fun v w => tn_27 (u := 276) (by decide) v w
  have y28 := fun v w => tn_28 (u := 276) (by decide) v w
  have t_y := ty_mk (T := 276) fun _ _ => by kernel_rfl
  clear h hn1 hn2
  go_enter Tryz.func66, Tryz.ntmps66
  go_wp2_with fail
  go_region_held3 (fun w' : World => w'.cell? ⟨msg, 0, none⟩ = some (.string ⟨t0.toArray⟩) ∧ w'.cell? ⟨msg, 1, none⟩ = some (.int .u32 (n1 : Int)) ∧ w'.cell? ⟨msg, 2, none⟩ = some (.int .u32 (n2 : Int)))
    (first | exact ⟨c_0, c_1, c_2⟩ | exact ⟨HB.out.cd 0, HB.out.cd 1, HB.out.cd 2⟩ | exact ⟨HB.out.ca 0, HB.out.ca 1, HB.out.ca 2⟩)
    (fail)
  go_wp2
  go_ret
  exact ⟨rfl, by first | exact za_1 _ _ _ | exact za_2 _ _ _ | exact za_3 _ _ _⟩
set_option maxHeartbeats 8000000 in
set_option maxRecDepth 100000 in
theorem msg_queueBind (t0 t1 t2 : List UInt8) (p3 : Bool) (f4 : List Fld) (tb : Nat)  (B : Nat → Prop) (w : World) (msg : Nat) (hB : B msg) (h : Blk w msg #[.int .u16 ((0 : Nat) : Int), .string ⟨t0.toArray⟩, .string ⟨t1.toArray⟩, .string ⟨t2.toArray⟩, .bool p3, .map (some tb)] 281) (ht : TabAt B w (.map (some tb)) f4) (hwf : WfFs f4) (hf : fitsB f4 = true) :
    MsgOk B w (.iface 279 (.pointer (some ⟨msg, 0, none⟩))) 50 20 [⟨4, 0, t0, []⟩, ⟨4, 0, t1, []⟩, ⟨4, 0, t2, []⟩, ⟨6, p3.toNat, [], []⟩, ⟨7, 0, [], f4⟩] := by
  refine msg_of [(⟨4, 0, t0, []⟩, .map none), (⟨4, 0, t1, []⟩, .map none), (⟨4, 0, t2, []⟩, .map none), (⟨6, p3.toNat, [], []⟩, .map none), (⟨7, 0, [], f4⟩, .map (some tb))] rfl hB h (idg_3.2.2.2.2.2.2.1) ⟨.inl ⟨rfl, rfl⟩, .inl ⟨rfl, rfl⟩, .inl ⟨rfl, rfl⟩, .inl ⟨rfl, rfl⟩, .inr ⟨ht, hwf, hf⟩, trivial⟩ fun w h => ?_
  have c_1 : w.cell? ⟨msg, 1, none⟩ = some (.string ⟨t0.toArray⟩) := h.cell 1
  have c_2 : w.cell? ⟨msg, 2, none⟩ = some (.string ⟨t1.toArray⟩) := h.cell 2
  have c_3 : w.cell? ⟨msg, 3, none⟩ = some (.string ⟨t2.toArray⟩) := h.cell 3
  have c_4 : w.cell? ⟨msg, 4, none⟩ = some (.bool p3) := h.cell 4
  have c_5 : w.cell? ⟨msg, 5, none⟩ = some (.map (some tb)) := h.cell 5
  have HB := Lib.hid h
  obtain ⟨y0, y1, y2, y3, y4, y5, y6, y7⟩ := tng_0 (u := 279) (by decide)
  obtain ⟨y8, y9, y10, y11, y12, y13, y14, y15⟩ := tng_1 (u := 279) (by decide)
  obtain ⟨y16, y17, y18, y19, y20, y21, y22, y23⟩ := tng_2 (u := 279) (by decide)
  have y24 := fun v w => tn_24 (u := 279) (by decide) v w
  have y25 := fun v w => tn_25 (u := 279) (by decide) v w
  have y26 := fun v w => tn_26 (u := 279) (by decide) v w
  have y27 := fun v w => tn_27 (u := 279) (by decide) v w
  have y28 := fun v w => tn_28 (u := 279) (by decide) v w
  have y29 := fun v w => tn_29 (u := 279) (by decide) v w
  have t_y := ty_mk (T := 279) fun _ _ => by kernel_rfl
  clear h ht hwf hf
  go_enter Tryz.func66, Tryz.ntmps66
  go_wp2_with fail
  go_region_held3 (fun w' : World => w'.cell? ⟨msg, 1, none⟩ = some (.string ⟨t0.toArray⟩) ∧ w'.cell? ⟨msg, 2, none⟩ = some (.string ⟨t1.toArray⟩) ∧ w'.cell? ⟨msg, 3, none⟩ = some (.string ⟨t2.toArray⟩) ∧ w'.cell? ⟨msg, 4, none⟩ = some (.bool p3) ∧ w'.cell? ⟨msg, 5, none⟩ = some (.map (some tb)))
    (first | exact ⟨c_1, c_2, c_3, c_4, c_5⟩ | exact ⟨HB.out.cd 1, HB.out.cd 2, HB.out.cd 3, HB.out.cd 4, HB.out.cd 5⟩ | exact ⟨HB.out.ca 1, HB.out.ca 2, HB.out.ca 3, HB.out.ca 4, HB.out.ca 5⟩)
    (first | ((with_reducible refine (zzBit_eq _ _).mono ?_); rintro e w3 ⟨rfl, rfl⟩))
  go_wp2
  go_ret
  exact ⟨rfl, by first | exact za_1 _ _ _ | exact za_2 _ _ _ | exact za_3 _ _ _⟩
set_option maxHeartbeats 1000000 in
set_option maxRecDepth 100000 in
theorem msg_queueBindOk   (B : Nat → Prop) (w : World) (msg : Nat) (hB : B msg) (h : Blk w msg #[] 283) :
    MsgOk B w (.iface 282 (.pointer (some ⟨msg, 0, none⟩))) 50 21 [] := by
  refine msg_of0 hB h (idg_3.2.2.2.2.2.2.2) fun w h => ?_
  obtain ⟨y0, y1, y2, y3, y4, y5, y6, y7⟩ := tng_0 (u := 282) (by decide)
  obtain ⟨y8, y9, y10, y11, y12, y13, y14, y15⟩ := tng_1 (u := 282) (by decide)
  obtain ⟨y16, y17, y18, y19, y20, y21, y22, y23⟩ := tng_2 (u := 282) (by decide)
  have y24 := fun v w => tn_24 (u := 282) (by decide) v w
  have y25 := fun v w => tn_25 (u := 282) (by decide) v w
  have y26 := fun v w => tn_26 (u := 282) (by decide) v w
  have y27 := fun v w => tn_27 (u := 282) (by decide) v w
  have y28 := fun v w => tn_28 (u := 282) (by decide) v w
  have y29 := fun v w => tn_29 (u := 282) (by decide) v w
  have y30 := fun v w => tn_30 (u := 282) (by decide) v w
  have t_y := ty_mk (T := 282) fun _ _ => by kernel_rfl
  clear h
  go_enter Tryz.func66, Tryz.ntmps66
  go_wp2_with (fail)
  go_ret
  exact ⟨rfl, Kept.refl _ _⟩
end Go.Proofs.YtkcdakohmfodjaaGreat
