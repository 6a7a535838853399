/-
  Lemmas on the way to the statement of YtkcdakohmfodjaaGreatMethodRead, joined out of these texts: ZaC. No condition.
-/
import Derived.Test.YtkcdakohmfodjaaGreatNRdv
import Derived.Test.YtkcdakohmfodjaaGreatNZab
import Derived.Test.YtkcdakohmfodjaaGreatNZai
namespace Go.Proofs.YtkcdakohmfodjaaGreat
open Go.RowKit
set_option linter.unusedVariables false
set_option linter.unusedSimpArgs false
set_option maxHeartbeats 1000000 in
set_option maxRecDepth 100000 in
theorem msg_queueUnbind (t0 t1 t2 : List UInt8) (f3 : List Fld) (tb : Nat)  (B : Nat → Prop) (w : World) (msg : Nat) (hB : B msg) (h : Blk w msg #[.int .u16 ((0 : Nat) : Int), .string ⟨t0.toArray⟩, .string ⟨t1.toArray⟩, .string ⟨t2.toArray⟩, .map (some tb)] 286) (ht : TabAt B w (.map (some tb)) f3) (hwf : WfFs f3) (hf : fitsB f3 = true) :
    MsgOk B w (.iface 284 (.pointer (some ⟨msg, 0, none⟩))) 50 50 [⟨4, 0, t0, []⟩, ⟨4, 0, t1, []⟩, ⟨4, 0, t2, []⟩, ⟨7, 0, [], f3⟩] := by
  refine msg_of [(⟨4, 0, t0, []⟩, .map none), (⟨4, 0, t1, []⟩, .map none), (⟨4, 0, t2, []⟩, .map none), (⟨7, 0, [], f3⟩, .map (some tb))] rfl hB h (idg_4.1) ⟨.inl ⟨rfl, rfl⟩, .inl ⟨rfl, rfl⟩, .inl ⟨rfl, rfl⟩, .inr ⟨ht, hwf, hf⟩, trivial⟩ fun w h => ?_
  have c_1 : w.cell? ⟨msg, 1, none⟩ = some (.string ⟨t0.toArray⟩) := h.cell 1
  have c_2 : w.cell? ⟨msg, 2, none⟩ = some (.string ⟨t1.toArray⟩) := h.cell 2
  have c_3 : w.cell? ⟨msg, 3, none⟩ = some (.string ⟨t2.toArray⟩) := h.cell 3
  have c_4 : w.cell? ⟨msg, 4, none⟩ = some (.map (some tb)) := h.cell 4
  have HB := Lib.hid h
  obtain ⟨y0, y1, y2, y3, y4, y5, y6, y7⟩ := tng_0 (u := 284) (by decide)
  obtain ⟨y8, y9, y10, y11, y12, y13, y14, y15⟩ := tng_1 (u := 284) (by decide)
  obtain ⟨y16, y17, y18, y19, y20, y21, y22, y23⟩ := tng_2 (u := 284) (by decide)
  obtain ⟨y24, y25, y26, y27, y28, y29, y30, y31⟩ := tng_3 (u := 284) (by decide)
  have t_y := ty_mk (T := 284) fun _ _ => by kernel_rfl
  clear h ht hwf hf
  go_enter Tryz.func66, Tryz.ntmps66
  go_wp2_with fail
  go_region_held3 (fun w' : World => w'.cell? ⟨msg, 1, none⟩ = some (.string ⟨t0.toArray⟩) ∧ w'.cell? ⟨msg, 2, none⟩ = some (.string ⟨t1.toArray⟩) ∧ w'.cell? ⟨msg, 3, none⟩ = some (.string ⟨t2.toArray⟩) ∧ w'.cell? ⟨msg, 4, none⟩ = some (.map (some tb)))
    (first | exact ⟨c_1, c_2, c_3, c_4⟩ | exact ⟨HB.out.cd 1, HB.out.cd 2, HB.out.cd 3, HB.out.cd 4⟩ | exact ⟨HB.out.ca 1, HB.out.ca 2, HB.out.ca 3, HB.out.ca 4⟩)
    (fail)
  go_wp2
  go_ret
  exact ⟨rfl, by first | exact za_1 _ _ _ | exact za_2 _ _ _ | exact za_3 _ _ _⟩
set_option maxHeartbeats 1000000 in
set_option maxRecDepth 100000 in
theorem msg_queueUnbindOk   (B : Nat → Prop) (w : World) (msg : Nat) (hB : B msg) (h : Blk w msg #[] 288) :
    MsgOk B w (.iface 287 (.pointer (some ⟨msg, 0, none⟩))) 50 51 [] := by
  refine msg_of0 hB h (idg_4.2.1) fun w h => ?_
  obtain ⟨y0, y1, y2, y3, y4, y5, y6, y7⟩ := tng_0 (u := 287) (by decide)
  obtain ⟨y8, y9, y10, y11, y12, y13, y14, y15⟩ := tng_1 (u := 287) (by decide)
  obtain ⟨y16, y17, y18, y19, y20, y21, y22, y23⟩ := tng_2 (u := 287) (by decide)
  obtain ⟨y24, y25, y26, y27, y28, y29, y30, y31⟩ := tng_3 (u := 287) (by decide)
  have y32 := fun v w => tn_32 (u := 287) (by decide) v w
  have t_y := ty_mk (T := 287) fun _ _ => by kernel_rfl
  clear h
  go_enter Tryz.func66, Tryz.ntmps66
  go_wp2_with (fail)
  go_ret
  exact ⟨rfl, Kept.refl _ _⟩
set_option maxHeartbeats 1000000 in
set_option maxRecDepth 100000 in
theorem msg_queuePurge (t0 : List UInt8) (p1 : Bool)  (B : Nat → Prop) (w : World) (msg : Nat) (hB : B msg) (h : Blk w msg #[.int .u16 ((0 : Nat) : Int), .string ⟨t0.toArray⟩, .bool p1] 291) :
    MsgOk B w (.iface 289 (.pointer (some ⟨msg, 0, none⟩))) 50 30 [⟨4, 0, t0, []⟩, ⟨6, p1.toNat, [], []⟩] := by
  refine msg_of [(⟨4, 0, t0, []⟩, .map none), (⟨6, p1.toNat, [], []⟩, .map none)] rfl hB h (idg_4.2.2.1) ⟨.inl ⟨rfl, rfl⟩, .inl ⟨rfl, rfl⟩, trivial⟩ fun w h => ?_
  have c_1 : w.cell? ⟨msg, 1, none⟩ = some (.string ⟨t0.toArray⟩) := h.cell 1
  have c_2 : w.cell? ⟨msg, 2, none⟩ = some (.bool p1) := h.cell 2
  have HB := Lib.hid h
  obtain ⟨y0, y1, y2, y3, y4, y5, y6, y7⟩ := tng_0 (u := 289) (by decide)
  obtain ⟨y8, y9, y10, y11, y12, y13, y14, y15⟩ := tng_1 (u := 289) (by decide)
  obtain ⟨y16, y17, y18, y19, y20, y21, y22, y23⟩ := tng_2 (u := 289) (by decide)
  obtain ⟨y24, y25, y26, y27, y28, y29, y30, y31⟩ := tng_3 (u := 289) (by decide)
  have y32 := fun v w => tn_32 (u := 289) (by decide) v w
  have y33 := fun v w => tn_33 (u := 289) (by decide) v w
  have t_y := ty_mk (T := 289) fun _ _ => by kernel_rfl
  clear h
  go_enter Tryz.func66, Tryz.ntmps66
  go_wp2_with fail
  go_region_held3 (fun w' : World => w'.cell? ⟨msg, 1, none⟩ = some (.string ⟨t0.toArray⟩) ∧ w'.cell? ⟨msg, 2, none⟩ = some (.bool p1))
    (first | exact ⟨c_1, c_2⟩ | exact ⟨HB.out.cd 1, HB.out.cd 2⟩ | exact ⟨HB.out.ca 1, HB.out.ca 2⟩)
    (first | ((with_reducible refine (zzBit_eq _ _).mono ?_); rintro e w3 ⟨rfl, rfl⟩))
  go_wp2
  go_ret
  exact ⟨rfl, by first | exact za_1 _ _ _ | exact za_2 _ _ _ | exact za_3 _ _ _⟩
set_option maxHeartbeats 1000000 in
set_option maxRecDepth 100000 in
theorem msg_queuePurgeOk (n0 : Nat) (hn0 : n0 < 4294967296) (B : Nat → Prop) (w : World) (msg : Nat) (hB : B msg) (h : Blk w msg #[.int .u32 (n0 : Int)] 294) :
    MsgOk B w (.iface 292 (.pointer (some ⟨msg, 0, none⟩))) 50 31 [⟨2, n0, [], []⟩] := by
  refine msg_of [(⟨2, n0, [], []⟩, .map none)] rfl hB h (idg_4.2.2.2.1) ⟨.inl ⟨rfl, rfl⟩, trivial⟩ fun w h => ?_
  have w_n0 : IntKind.u64.wrap (n0 : Int) = n0 := by rw [IntKind.wrap_u64]; omega
  have c_0 : w.cell? ⟨msg, 0, none⟩ = some (.int .u32 (n0 : Int)) := h.cell 0
  obtain ⟨y0, y1, y2, y3, y4, y5, y6, y7⟩ := tng_0 (u := 292) (by decide)
  obtain ⟨y8, y9, y10, y11, y12, y13, y14, y15⟩ := tng_1 (u := 292) (by decide)
  obtain ⟨y16, y17, y18, y19, y20, y21, y22, y23⟩ := tng_2 (u := 292) (by decide)
  obtain ⟨y24, y25, y26, y27, y28, y29, y30, y31⟩ := tng_3 (u := 292) (by decide)
  have y32 := fun v w => tn_32 (u := 292) (by decide) v w
  have y33 := fun v w => tn_33 (u := 292) (by decide) v w
  have y34 := fun v w => tn_34 (u := 292) (by decide) v w
  have t_y := ty_mk (T := 292) fun _ _ => by kernel_rfl
  clear h hn0
  go_enter Tryz.func66, Tryz.ntmps66
  go_wp2_with (fail)
  go_ret
  exact ⟨rfl, by first | exact za_1 _ _ _ | exact za_2 _ _ _ | exact za_3 _ _ _⟩
set_option maxHeartbeats 1000000 in
set_option maxRecDepth 100000 in
theorem msg_queueDelete (t0 : List UInt8) (p1 p2 p3 : Bool)  (B : Nat → Prop) (w : World) (msg : Nat) (hB : B msg) (h : Blk w msg #[.int .u16 ((0 : Nat) : Int), .string ⟨t0.toArray⟩, .bool p1, .bool p2, .bool p3] 297) :
    MsgOk B w (.iface 295 (.pointer (some ⟨msg, 0, none⟩))) 50 40 [⟨4, 0, t0, []⟩, ⟨6, p1.toNat, [], []⟩, ⟨6, p2.toNat, [], []⟩, ⟨6, p3.toNat, [], []⟩] := by
  refine msg_of [(⟨4, 0, t0, []⟩, .map none), (⟨6, p1.toNat, [], []⟩, .map none), (⟨6, p2.toNat, [], []⟩, .map none), (⟨6, p3.toNat, [], []⟩, .map none)] rfl hB h (idg_4.2.2.2.2.1) ⟨.inl ⟨rfl, rfl⟩, .inl ⟨rfl, rfl⟩, .inl ⟨rfl, rfl⟩, .inl ⟨rfl, rfl⟩, trivial⟩ fun w h => ?_
  have c_1 : w.cell? ⟨msg, 1, none⟩ = some (.string ⟨t0.toArray⟩) := h.cell 1
  have c_2 : w.cell? ⟨msg, 2, none⟩ = some (.bool p1) := h.cell 2
  have c_3 : w.cell? ⟨msg, 3, none⟩ = some (.bool p2) := h.cell 3
  have c_4 : w.cell? ⟨msg, 4, none⟩ = some (.bool p3) := h.cell 4
  have HB := Lib.hid h
  obtain ⟨y0, y1, y2, y3, y4, y5, y6, y7⟩ := tng_0 (u := 295) (by decide)
  obtain ⟨y8, y9, y10, y11, y12, y13, y14, y15⟩ := tng_1 (u := 295) (by decide)
  obtain ⟨y16, y17, y18, y19, y20, y21, y22, y23⟩ := tng_2 (u := 295) (by decide)
  obtain ⟨y24, y25, y26, y27, y28, y29, y30, y31⟩ := tng_3 (u := 295) (by decide)
  have y32 := fun v w => tn_32 (u := 295) (by decide) v w
  have y33 := fun v w => tn_33 (u := 295) (by decide) v w
  have y34 := fun v w => tn_34 (u := 295) (by decide) v w
  have y35 := fun v w => tn_35 (u := 295) (by decide) v w
  have t_y := ty_mk (T := 295) fun _ _ => by kernel_rfl
  clear h
  go_enter Tryz.func66, Tryz.ntmps66
  go_wp2_with fail
  go_region_held3 (fun w' : World => w'.cell? ⟨msg, 1, none⟩ = some (.string ⟨t0.toArray⟩) ∧ w'.cell? ⟨msg, 2, none⟩ = some (.bool p1) ∧ w'.cell? ⟨msg, 3, none⟩ = some (.bool p2) ∧ w'.cell? ⟨msg, 4, none⟩ = some (.bool p3))
    (first | exact ⟨c_1, c_2, c_3, c_4⟩ | exact ⟨HB.out.cd 1, HB.out.cd 2, HB.out.cd 3, HB.out.cd 4⟩ | exact ⟨HB.out.ca 1, HB.out.ca 2, HB.out.ca 3, HB.out.ca 4⟩)
    (first | ((with_reducible refine (zzBit_eq _ _).mono ?_); rintro e w3 ⟨rfl, rfl⟩))
  go_wp2
  go_ret
  exact ⟨rfl, by first | exact za_1 _ _ _ | exact za_2 _ _ _ | exact za_3 _ _ _⟩
set_option maxHeartbeats 1000000 in
set_option maxRecDepth 100000 in
theorem msg_queueDeleteOk (n0 : Nat) (hn0 : n0 < 4294967296) (B : Nat → Prop) (w : World) (msg : Nat) (hB : B msg) (h : Blk w msg #[.int .u32 (n0 : Int)] 299) :
    MsgOk B w (.iface 298 (.pointer (some ⟨msg, 0, none⟩))) 50 41 [⟨2, n0, [], []⟩] := by
  refine msg_of [(⟨2, n0, [], []⟩, .map none)] rfl hB h (idg_4.2.2.2.2.2.1) ⟨.inl ⟨rfl, rfl⟩, trivial⟩ fun w h => ?_
  have w_n0 : IntKind.u64.wrap (n0 : Int) = n0 := by rw [IntKind.wrap_u64]; omega
  have c_0 : w.cell? ⟨msg, 0, none⟩ = some (.int .u32 (n0 : Int)) := h.cell 0
  obtain ⟨y0, y1, y2, y3, y4, y5, y6, y7⟩ := tng_0 (u := 298) (by decide)
  obtain ⟨y8, y9, y10, y11, y12, y13, y14, y15⟩ := tng_1 (u := 298) (by decide)
  obtain ⟨y16, y17, y18, y19, y20, y21, y22, y23⟩ := tng_2 (u := 298) (by decide)
  obtain ⟨y24, y25, y26, y27, y28, y29, y30, y31⟩ := tng_3 (u := 298) (by decide)
  have y32 := fun v w => tn_32 (u := 298) (by decide) v w
  have y33 := fun v w => tn_33 (u := 298) (by decide) v w
  have y34 := fun v w => tn_34 (u := 298) (by decide) v w
  have y35 := fun v w => tn_35 (u := 298) (by decide) v w
  have y36 := fun v w => tn_36 (u := 298) (by decide) v w
  have t_y := ty_mk (T := 298) fun _ _ => by kernel_rfl
  clear h hn0
  go_enter Tryz.func66, Tryz.ntmps66
  go_wp2_with (fail)
  go_ret
  exact ⟨rfl, by first | exact za_1 _ _ _ | exact za_2 _ _ _ | exact za_3 _ _ _⟩
set_option maxHeartbeats 1000000 in
set_option maxRecDepth 100000 in
theorem msg_basicQos (n0 n1 : Nat) (p2 : Bool) (hn0 : n0 < 4294967296) (hn1 : n1 < 65536) (B : Nat → Prop) (w : World) (msg : Nat) (hB : B msg) (h : Blk w msg #[.int .u32 (n0 : Int), .int .u16 (n1 : Int), .bool p2] 302) :
    MsgOk B w (.iface 300 (.pointer (some ⟨msg, 0, none⟩))) 60 10 [⟨2, n0, [], []⟩, ⟨1, n1, [], []⟩, ⟨6, p2.toNat, [], []⟩] := by
  refine msg_of [(⟨2, n0, [], []⟩, .map none), (⟨1, n1, [], []⟩, .map none), (⟨6, p2.toNat, [], []⟩, .map none)] rfl hB h (idg_4.2.2.2.2.2.2.1) ⟨.inl ⟨rfl, rfl⟩, .inl ⟨rfl, rfl⟩, .inl ⟨rfl, rfl⟩, trivial⟩ fun w h => ?_
  have w_n0 : IntKind.u64.wrap (n0 : Int) = n0 := by rw [IntKind.wrap_u64]; omega
  have w_n1 : IntKind.u64.wrap (n1 : Int) = n1 := by rw [IntKind.wrap_u64]; omega
  have c_0 : w.cell? ⟨msg, 0, none⟩ = some (.int .u32 (n0 : Int)) := h.cell 0
  have c_1 : w.cell? ⟨msg, 1, none⟩ = some (.int .u16 (n1 : Int)) := h.cell 1
  have c_2 : w.cell? ⟨msg, 2, none⟩ = some (.bool p2) := h.cell 2
  have HB := Lib.hid h
  obtain ⟨y0, y1, y2, y3, y4, y5, y6, y7⟩ := tng_0 (u := 300) (by decide)
  obtain ⟨y8, y9, y10, y11, y12, y13, y14, y15⟩ := tng_1 (u := 300) (by decide)
  obtain ⟨y16, y17, y18, y19, y20, y21, y22, y23⟩ := tng_2 (u := 300) (by decide)
  obtain ⟨y24, y25, y26, y27, y28, y29, y30, y31⟩ := tng_3 (u := 300) (by decide)
  have y32 := fun v w => tn_32 (u := 300) (by decide) v w
  have y33 := fun v w => tn_33 (u := 300) (by decide) v w
  have y34 := fun v w => tn_34 (u := 300) (by decide) v w
  have y35 := fun v w => tn_35 (u := 300) (by decide) v w
  have y36 := fun v w => tn_36 (u := 300) (by decide) v w
  have y37 := fun v w => tn_37 (u := 300) (by decide) v w
  have t_y := ty_mk (T := 300) fun _ _ => by kernel_rfl
  clear h hn0 hn1
  go_enter Tryz.func66, Tryz.ntmps66
  go_wp2_with fail
  go_region_held3 (fun w' : World => w'.cell? ⟨msg, 0, none⟩ = some (.int .u32 (n0 : Int)) ∧ w'.cell? ⟨msg, 1, none⟩ = some (.int .u16 (n1 : Int)) ∧ w'.cell? ⟨msg, 2, none⟩ = some (.bool p2))
    (first | exact ⟨c_0, c_1, c_2⟩ | exact ⟨HB.out.cd 0, HB.out.cd 1, HB.out.cd 2⟩ | exact ⟨HB.out.ca 0, HB.out.ca 1, HB.out.ca 2⟩)
    (first | ((with_reducible refine (zzBit_eq _ _).mono ?_); rintro e w3 ⟨rfl, rfl⟩))
  go_wp2
  go_ret
  exact ⟨rfl, by first | exact za_1 _ _ _ | exact za_2 _ _ _ | exact za_3 _ _ _⟩
set_option maxHeartbeats 1000000 in
set_option maxRecDepth 100000 in
theorem msg_basicQosOk   (B : Nat → Prop) (w : World) (msg : Nat) (hB : B msg) (h : Blk w msg #[] 304) :
    MsgOk B w (.iface 303 (.pointer (some ⟨msg, 0, none⟩))) 60 11 [] := by
  refine msg_of0 hB h (idg_4.2.2.2.2.2.2.2) fun w h => ?_
  obtain ⟨y0, y1, y2, y3, y4, y5, y6, y7⟩ := tng_0 (u := 303) (by decide)
  obtain ⟨y8, y9, y10, y11, y12, y13, y14, y15⟩ := tng_1 (u := 303) (by decide)
  obtain ⟨y16, y17, y18, y19, y20, y21, y22, y23⟩ := tng_2 (u := 303) (by decide)
  obtain ⟨y24, y25, y26, y27, y28, y29, y30, y31⟩ := tng_3 (u := 303) (by decide)
  have y32 := fun v w => tn_32 (u := 303) (by decide) v w
  have y33 := fun v w => tn_33 (u := 303) (by decide) v w
  have y34 := fun v w => tn_34 (u := 303) (by decide) v w
  have y35 := fun v w => tn_35 (u := 303) (by decide) v w
  have y36 := fun v w => tn_36 (u := 303) (by decide) v w
  have y37 := fun v w => tn_37 (u := 303) (by decide) v w
  have y38 := fun v w => tn_38 (u := 303) (by decide) v w
  have t_y := ty_mk (T := 303) fun _ _ => by kernel_rfl
  clear h
  go_enter Tryz.func66, Tryz.ntmps66
  go_wp2_with (fail)
  go_ret
  exact ⟨rfl, Kept.refl _ _⟩
set_option maxHeartbeats 8000000 in
set_option maxRecDepth 100000 in
theorem msg_basicConsume (t0 t1 : List UInt8) (p2 p3 p4 p5 : Bool) (f6 : List Fld) (tb : Nat)  (B : Nat → Prop) (w : World) (msg : Nat) (hB : B msg) (h : Blk w msg #[.int .u16 ((0 : Nat) : Int), .string ⟨t0.toArray⟩, .string ⟨t1.toArray⟩, .bool p2, .bool p3, .bool p4, .bool p5, .map (some tb)] 307) (ht : TabAt B w (.map (some tb)) f6) (hwf : WfFs f6) (hf : fitsB f6 = true) :
    MsgOk B w (.iface 305 (.pointer (some ⟨msg, 0, none⟩))) 60 20 [⟨4, 0, t0, []⟩, ⟨4, 0, t1, []⟩, ⟨6, p2.toNat, [], []⟩, ⟨6, p3.toNat, [], []⟩, ⟨6, p4.toNat, [], []⟩, ⟨6, p5.toNat, [], []⟩, ⟨7, 0, [], f6⟩] := by
  refine msg_of [(⟨4, 0, t0, []⟩, .map none), (⟨4, 0, t1, []⟩, .map none), (⟨6, p2.toNat, [], []⟩, .map none), (⟨6, p3.toNat, [], []⟩, .map none), (⟨6, p4.toNat, [], []⟩, .map none), (⟨6, p5.toNat, [], []⟩, .map none), (⟨7, 0, [], f6⟩, .map (some tb))] rfl hB h (idg_5.1) ⟨.inl ⟨rfl, rfl⟩, .inl ⟨rfl, rfl⟩, .inl ⟨rfl, rfl⟩, .inl ⟨rfl, rfl⟩, .inl ⟨rfl, rfl⟩, .inl ⟨rfl, rfl⟩, .inr ⟨ht, hwf, hf⟩, trivial⟩ fun w h => ?_
  have c_1 : w.cell? ⟨msg, 1, none⟩ = some (.string ⟨t0.toArray⟩) := h.cell 1
  have c_2 : w.cell? ⟨msg, 2, none⟩ = some (.string ⟨t1.toArray⟩) := h.cell 2
  have c_3 : w.cell? ⟨msg, 3, none⟩ = some (.bool p2) := h.cell 3
  have c_4 : w.cell? ⟨msg, 4, none⟩ = some (.bool p3) := h.cell 4
  have c_5 : w.cell? ⟨msg, 5, none⟩ = some (.bool p4) := h.cell 5
  have c_6 : w.cell? ⟨msg, 6, none⟩ = some (.bool p5) := h.cell 6
  have c_7 : w.cell? ⟨msg, 7, none⟩ = some (.map (some tb)) := h.cell 7
  have HB := Lib.hid h
  obtain ⟨y0, y1, y2, y3, y4, y5, y6, y7⟩ := tng_0 (u := 305) (by decide)
  obtain ⟨y8, y9, y10, y11, y12, y13, y14, y15⟩ := tng_1 (u := 305) (by decide)
  obtain ⟨y16, y17, y18, y19, y20, y21, y22, y23⟩ := tng_2 (u := 305) (by decide)
  obtain ⟨y24, y25, y26, y27, y28, y29, y30, y31⟩ := tng_3 (u := 305) (by decide)
  obtain ⟨y32, y33, y34, y35, y36, y37, y38, y39⟩ := tng_4 (u := 305) (by decide)
  have t_y := ty_mk (T := 305) fun _ _ => by kernel_rfl
  clear h ht hwf hf
  go_enter Tryz.func66, Tryz.ntmps66
  go_wp2_with fail
  go_region_held3 (fun w' : World => w'.cell? ⟨msg, 1, none⟩ = some (.string ⟨t0.toArray⟩) ∧ w'.cell? ⟨msg, 2, none⟩ = some (.string ⟨t1.toArray⟩) ∧ w'.cell? ⟨msg, 3, none⟩ = some (.bool p2) ∧ w'.cell? ⟨msg, 4, none⟩ = some (.bool p3) ∧ w'.cell? ⟨msg, 5, none⟩ = some (.bool p4) ∧ w'.cell? ⟨msg, 6, none⟩ = some (.bool p5) ∧ w'.cell? ⟨msg, 7, none⟩ = some (.map (some tb)))
    (first | exact ⟨c_1, c_2, c_3, c_4, c_5, c_6, c_7⟩ | exact ⟨HB.out.cd 1, HB.out.cd 2, HB.out.cd 3, HB.out.cd 4, HB.out.cd 5, HB.out.cd 6, HB.out.cd 7⟩ | exact ⟨HB.out.ca 1, HB.out.ca 2, HB.out.ca 3, HB.out.ca 4, HB.out.ca 5, HB.out.ca 6, HB.out.ca 7⟩)
    (first | ((with_reducible refine (zzBit_eq _ _).mono ?_); rintro e w3 ⟨rfl, rfl⟩))
  go_wp2
  go_ret
  exact ⟨rfl, by first | exact za_1 _ _ _ | exact za_2 _ _ _ | exact za_3 _ _ _⟩
set_option maxHeartbeats 1000000 in
set_option maxRecDepth 100000 in
theorem msg_basicConsumeOk (t0 : List UInt8)  (B : Nat → Prop) (w : World) (msg : Nat) (hB : B msg) (h : Blk w msg #[.string ⟨t0.toArray⟩] 310) :
    MsgOk B w (.iface 308 (.pointer (some ⟨msg, 0, none⟩))) 60 21 [⟨4, 0, t0, []⟩] := by
  refine msg_of [(⟨4, 0, t0, []⟩, .map none)] rfl hB h (idg_5.2.1) ⟨.inl ⟨rfl, rfl⟩, trivial⟩ fun w h => ?_
  have c_0 : w.cell? ⟨msg, 0, none⟩ = some (.string ⟨t0.toArray⟩) := h.cell 0
  obtain ⟨y0, y1, y2, y3, y4, y5, y6, y7⟩ := tng_0 (u := 308) (by decide)
  obtain ⟨y8, y9, y10, y11, y12, y13, y14, y15⟩ := tng_1 (u := 308) (by decide)
  obtain ⟨y16, y17, y18, y19, y20, y21, y22, y23⟩ := tng_2 (u := 308) (by decide)
  obtain ⟨y24, y25, y26, y27, y28, y29, y30, y31⟩ := tng_3 (u := 308) (by decide)
  obtain ⟨y32, y33, y34, y35, y36, y37, y38, y39⟩ := tng_4 (u := 308) (by decide)
  have y40 := fun v w => tn_40 (u := 308) (by decide) v w
  have t_y := ty_mk (T := 308) fun _ _ => by kernel_rfl
  clear h
  go_enter Tryz.func66, Tryz.ntmps66
  go_wp2_with (fail)
  go_ret
  exact ⟨rfl, by first | exact za_1 _ _ _ | exact za_2 _ _ _ | exact za_3 _ _ _⟩
set_option maxHeartbeats 1000000 in
set_option maxRecDepth 100000 in
theorem msg_basicCancel (t0 : List UInt8) (p1 : Bool)  (B : Nat → Prop) (w : World) (msg : Nat) (hB : B msg) (h : Blk w msg #[.string ⟨t0.toArray⟩, .bool p1] 313) :
    MsgOk B w (.iface 311 (.pointer (some ⟨msg, 0, none⟩))) 60 30 [⟨4, 0, t0, []⟩, ⟨6, p1.toNat, [], []⟩] := by
  refine msg_of [(⟨4, 0, t0, []⟩, .map none), (⟨6, p1.toNat, [], []⟩, .map none)] rfl hB h (idg_5.2.2.1) ⟨.inl ⟨rfl, rfl⟩, .inl ⟨rfl, rfl⟩, trivial⟩ fun w h => ?_
  have c_0 : w.cell? ⟨msg, 0, none⟩ = some (.string ⟨t0.toArray⟩) := h.cell 0
  have c_1 : w.cell? ⟨msg, 1, none⟩ = some (.bool p1) := h.cell 1
  have HB := Lib.hid h
  obtain ⟨y0, y1, y2, y3, y4, y5, y6, y7⟩ := tng_0 (u := 311) (by decide)
  obtain ⟨y8, y9, y10, y11, y12, y13, y14, y15⟩ := tng_1 (u := 311) (by decide)
  obtain ⟨y16, y17, y18, y19, y20, y21, y22, y23⟩ := tng_2 (u := 311) (by decide)
  obtain ⟨y24, y25, y26, y27, y28, y29, y30, y31⟩ := tng_3 (u := 311) (by decide)
  obtain ⟨y32, y33, y34, y35, y36, y37, y38, y39⟩ := tng_4 (u := 311) (by decide)
  have y40 := fun v w => tn_40 (u := 311) (by decide) v w
  have y41 := fun v w => tn_41 (u := 311) (by decide) v w
  have t_y := ty_mk (T := 311) fun _ _ => by kernel_rfl
  clear h
  go_enter Tryz.func66, Tryz.ntmps66
  go_wp2_with fail
  go_region_held3 (fun w' : World => w'.cell? ⟨msg, 0, none⟩ = some (.string ⟨t0.toArray⟩) ∧ w'.cell? ⟨msg, 1, none⟩ = some (.bool p1))
    (first | exact ⟨c_0, c_1⟩ | exact ⟨HB.out.cd 0, HB.out.cd 1⟩ | exact ⟨HB.out.ca 0, HB.out.ca 1⟩)
    (first | ((with_reducible refine (zzBit_eq _ _).mono ?_); rintro e w3 ⟨rfl, rfl⟩))
  go_wp2
  go_ret
  exact ⟨rfl, by first | exact za_1 _ _ _ | exact za_2 _ _ _ | exact za_3 _ _ _⟩
set_option maxHeartbeats 1000000 in
set_option maxRecDepth 100000 in
theorem msg_basicCancelOk (t0 : List UInt8)  (B : Nat → Prop) (w : World) (msg : Nat) (hB : B msg) (h : Blk w msg #[.string ⟨t0.toArray⟩] 315) :
    MsgOk B w (.iface 314 (.pointer (some ⟨msg, 0, none⟩))) 60 31 [⟨4, 0, t0, []⟩] := by
  refine msg_of [(⟨4, 0, t0, []⟩, .map none)] rfl hB h (idg_5.2.2.2.1) ⟨.inl ⟨rfl, rfl⟩, trivial⟩ fun w h => ?_
  have c_0 : w.cell? ⟨msg, 0, none⟩ = some (.string ⟨t0.toArray⟩) := h.cell 0
  obtain ⟨y0, y1, y2, y3, y4, y5, y6, y7⟩ := tng_0 (u := 314) (by decide)
  obtain ⟨y8, y9, y10, y11, y12, y13, y14, y15⟩ := tng_1 (u := 314) (by decide)
  obtain ⟨y16, y17, y18, y19, y20, y21, y22, y23⟩ := tng_2 (u := 314) (by decide)
  obtain ⟨y24, y25, y26, y27, y28, y29, y30, y31⟩ := tng_3 (u := 314) (by decide)
  obtain ⟨y32, y33, y34, y35, y36, y37, y38, y39⟩ := tng_4 (u := 314) (by decide)
  have y40 := fun v w => tn_40 (u := 314) (by decide) v w
  have y41 := fun v w => tn_41 (u := 314) (by decide) v w
  have y42 := fun v w => tn_42 (u := 314) (by decide) v w
  have t_y := ty_mk (T := 314) fun _ _ => by kernel_rfl
  clear h
  go_enter Tryz.func66, Tryz.ntmps66
  go_wp2_with (fail)
  go_ret
  exact ⟨rfl, by first | exact za_1 _ _ _ | exact za_2 _ _ _ | exact za_3 _ _ _⟩
set_option maxHeartbeats 1000000 in
set_option maxRecDepth 100000 in
theorem msg_basicPublish (t0 t1 : List UInt8) (p2 p3 : Bool)  (B : Nat → Prop) (w : World) (msg : Nat) (hB : B msg) (h : Blk w msg #[.int .u16 ((0 : Nat) : Int), .string ⟨t0.toArray⟩, .string ⟨t1.toArray⟩, .bool p2, .bool p3, .string ⟨#[]⟩, .string ⟨#[]⟩, .map none, .int .u8 0, .int .u8 0, .string ⟨#[]⟩, .string ⟨#[]⟩, .string ⟨#[]⟩, .string ⟨#[]⟩, .int .u64 0, .int .i64 0, .pointer none, .string ⟨#[]⟩, .string ⟨#[]⟩, .string ⟨#[]⟩, .string ⟨#[]⟩, .slice none 0 0] 318) :
    MsgOk B w (.iface 316 (.pointer (some ⟨msg, 0, none⟩))) 60 40 [⟨4, 0, t0, []⟩, ⟨4, 0, t1, []⟩, ⟨6, p2.toNat, [], []⟩, ⟨6, p3.toNat, [], []⟩] := by
  refine msg_of [(⟨4, 0, t0, []⟩, .map none), (⟨4, 0, t1, []⟩, .map none), (⟨6, p2.toNat, [], []⟩, .map none), (⟨6, p3.toNat, [], []⟩, .map none)] rfl hB h (idg_5.2.2.2.2.1) ⟨.inl ⟨rfl, rfl⟩, .inl ⟨rfl, rfl⟩, .inl ⟨rfl, rfl⟩, .inl ⟨rfl, rfl⟩, trivial⟩ fun w h => ?_
  have c_1 : w.cell? ⟨msg, 1, none⟩ = some (.string ⟨t0.toArray⟩) := h.cell 1
  have c_2 : w.cell? ⟨msg, 2, none⟩ = some (.string ⟨t1.toArray⟩) := h.cell 2
  have c_3 : w.cell? ⟨msg, 3, none⟩ = some (.bool p2) := h.cell 3
  have c_4 : w.cell? ⟨msg, 4, none⟩ = some (.bool p3) := h.cell 4
  have HB := Lib.hid h
  obtain ⟨y0, y1, y2, y3, y4, y5, y6, y7⟩ := tng_0 (u := 316) (by decide)
  obtain ⟨y8, y9, y10, y11, y12, y13, y14, y15⟩ := tng_1 (u := 316) (by decide)
  obtain ⟨y16, y17, y18, y19, y20, y21, y22, y23⟩ := tng_2 (u := 316) (by decide)
  obtain ⟨y24, y25, y26, y27, y28, y29, y30, y31⟩ := tng_3 (u := 316) (by decide)
  obtain ⟨y32, y33, y34, y35, y36, y37, y38, y39⟩ := tng_4 (u := 316) (by decide)
  have y40 := fun v w => tn_40 (u := 316) (by decide) v w
  have y41 := fun v w => tn_41 (u := 316) (by decide) v w
  have y42 := fun v w => tn_42 (u := 316) (by decide) v w
  have y43 := fun v w => tn_43 (u := 316) (by decide) v w
  have t_y := ty_mk (T := 316) fun _ _ => by kernel_rfl
  clear h
  go_enter Tryz.func66, Tryz.ntmps66
  go_wp2_with fail
  go_region_held3 (fun w' : World => w'.cell? ⟨msg, 1, none⟩ = some (.string ⟨t0.toArray⟩) ∧ w'.cell? ⟨msg, 2, none⟩ = some (.string ⟨t1.toArray⟩) ∧ w'.cell? ⟨msg, 3, none⟩ = some (.bool p2) ∧ w'.cell? ⟨msg, 4, none⟩ = some (.bool p3))
    (first | exact ⟨c_1, c_2, c_3, c_4⟩ | exact ⟨HB.out.cd 1, HB.out.cd 2, HB.out.cd 3, HB.out.cd 4⟩ | exact ⟨HB.out.ca 1, HB.out.ca 2, HB.out.ca 3, HB.out.ca 4⟩)
    (first | ((with_reducible refine (zzBit_eq _ _).mono ?_); rintro e w3 ⟨rfl, rfl⟩))
  go_wp2
  go_ret
  exact ⟨rfl, by first | exact za_1 _ _ _ | exact za_2 _ _ _ | exact za_3 _ _ _⟩
set_option maxHeartbeats 1000000 in
set_option maxRecDepth 100000 in
theorem msg_basicReturn (n0 : Nat) (t1 t2 t3 : List UInt8) (hn0 : n0 < 65536) (B : Nat → Prop) (w : World) (msg : Nat) (hB : B msg) (h : Blk w msg #[.int .u16 (n0 : Int), .string ⟨t1.toArray⟩, .string ⟨t2.toArray⟩, .string ⟨t3.toArray⟩, .string ⟨#[]⟩, .string ⟨#[]⟩, .map none, .int .u8 0, .int .u8 0, .string ⟨#[]⟩, .string ⟨#[]⟩, .string ⟨#[]⟩, .string ⟨#[]⟩, .int .u64 0, .int .i64 0, .pointer none, .string ⟨#[]⟩, .string ⟨#[]⟩, .string ⟨#[]⟩, .string ⟨#[]⟩, .slice none 0 0] 321) :
    MsgOk B w (.iface 319 (.pointer (some ⟨msg, 0, none⟩))) 60 50 [⟨1, n0, [], []⟩, ⟨4, 0, t1, []⟩, ⟨4, 0, t2, []⟩, ⟨4, 0, t3, []⟩] := by
  refine msg_of [(⟨1, n0, [], []⟩, .map none), (⟨4, 0, t1, []⟩, .map none), (⟨4, 0, t2, []⟩, .map none), (⟨4, 0, t3, []⟩, .map none)] rfl hB h (idg_5.2.2.2.2.2.1) ⟨.inl ⟨rfl, rfl⟩, .inl ⟨rfl, rfl⟩, .inl ⟨rfl, rfl⟩, .inl ⟨rfl, rfl⟩, trivial⟩ fun w h => ?_
  have w_n0 : IntKind.u64.wrap (n0 : Int) = n0 := by rw [IntKind.wrap_u64]; omega
  have c_0 : w.cell? ⟨msg, 0, none⟩ = some (.int .u16 (n0 : Int)) := h.cell 0
  have c_1 : w.cell? ⟨msg, 1, none⟩ = some (.string ⟨t1.toArray⟩) := h.cell 1
  have c_2 : w.cell? ⟨msg, 2, none⟩ = some (.string ⟨t2.toArray⟩) := h.cell 2
  have c_3 : w.cell? ⟨msg, 3, none⟩ = some (.string ⟨t3.toArray⟩) := h.cell 3
  have HB := Lib.hid h
  obtain ⟨y0, y1, y2, y3, y4, y5, y6, y7⟩ := tng_0 (u := 319) (by decide)
  obtain ⟨y8, y9, y10, y11, y12, y13, y14, y15⟩ := tng_1 (u := 319) (by decide)
  obtain ⟨y16, y17, y18, y19, y20, y21, y22, y23⟩ := tng_2 (u := 319) (by decide)
  obtain ⟨y24, y25, y26, y27, y28, y29, y30, y31⟩ := tng_3 (u := 319) (by decide)
  obtain ⟨y32, y33, y34, y35, y36, y37, y38, y39⟩ := tng_4 (u := 319) (by decide)
  have y40 := fun v w => tn_40 (u := 319) (by decide) v w
  have y41 := fun v w => tn_41 (u := 319) (by decide) v w
  have y42 := fun v w => tn_42 (u := 319) (by decide) v w
  have y43 := fun v w => tn_43 (u := 319) (by decide) v w
  have y44 := fun v w => tn_44 (u := 319) (by decide) v w
  have t_y := ty_mk (T := 319) fun _ _ => by kernel_rfl
  clear h hn0
  go_enter Tryz.func66, Tryz.ntmps66
  go_wp2_with fail
  go_region_held3 (fun w' : World => w'.cell? ⟨msg, 0, none⟩ = some (.int .u16 (n0 : Int)) ∧ w'.cell? ⟨msg, 1, none⟩ = some (.string ⟨t1.toArray⟩) ∧ w'.cell? ⟨msg, 2, none⟩ = some (.string ⟨t2.toArray⟩) ∧ w'.cell? ⟨msg, 3, none⟩ = some (.string ⟨t3.toArray⟩))
    (first | exact ⟨c_0, c_1, c_2, c_3⟩ | exact ⟨HB.out.cd 0, HB.out.cd 1, HB.out.cd 2, HB.out.cd 3⟩ | exact ⟨HB.out.ca 0, HB.out.ca 1, HB.out.ca 2, HB.out.ca 3⟩)
    (fail)
  go_wp2
  go_ret
  exact ⟨rfl, by first | exact za_1 _ _ _ | exact za_2 _ _ _ | exact za_3 _ _ _⟩
set_option maxHeartbeats 8000000 in
set_option maxRecDepth 100000 in
theorem msg_basicDeliver (t0 : List UInt8) (n1 : Nat) (p2 : Bool) (t3 t4 : List UInt8) (hn1 : n1 < 18446744073709551616) (B : Nat → Prop) (w : World) (msg : Nat) (hB : B msg) (h : Blk w msg #[.string ⟨t0.toArray⟩, .int .u64 (n1 : Int), .bool p2, .string ⟨t3.toArray⟩, .string ⟨t4.toArray⟩, .string ⟨#[]⟩, .string ⟨#[]⟩, .map none, .int .u8 0, .int .u8 0, .string ⟨#[]⟩, .string ⟨#[]⟩, .string ⟨#[]⟩, .string ⟨#[]⟩, .int .u64 0, .int .i64 0, .pointer none, .string ⟨#[]⟩, .string ⟨#[]⟩, .string ⟨#[]⟩, .string ⟨#[]⟩, .slice none 0 0] 324) :
    MsgOk B w (.iface 322 (.pointer (some ⟨msg, 0, none⟩))) 60 60 [⟨4, 0, t0, []⟩, ⟨3, n1, [], []⟩, ⟨6, p2.toNat, [], []⟩, ⟨4, 0, t3, []⟩, ⟨4, 0, t4, []⟩] := by
  refine msg_of [(⟨4, 0, t0, []⟩, .map none), (⟨3, n1, [], []⟩, .map none), (⟨6, p2.toNat, [], []⟩, .map none), (⟨4, 0, t3, []⟩, .map none), (⟨4, 0, t4, []⟩, .map none)] rfl hB h (idg_5.2.2.2.2.2.2.1) ⟨.inl ⟨rfl, rfl⟩, .inl ⟨rfl, rfl⟩, .inl ⟨rfl, rfl⟩, .inl ⟨rfl, rfl⟩, .inl ⟨rfl, rfl⟩, trivial⟩ fun w h => ?_
  have c_0 : w.cell? ⟨msg, 0, none⟩ = some (.string ⟨t0.toArray⟩) := h.cell 0
  have c_1 : w.cell? ⟨msg, 1, none⟩ = some (.int .u64 (n1 : Int)) := h.cell 1
  have c_2 : w.cell? ⟨msg, 2, none⟩ = some (.bool p2) := h.cell 2
  have c_3 : w.cell? ⟨msg, 3, none⟩ = some (.string ⟨t3.toArray⟩) := h.cell 3
  have c_4 : w.cell? ⟨msg, 4, none⟩ = some (.string ⟨t4.toArray⟩) := h.cell 4
  have HB := Lib.hid h
  obtain ⟨y0, y1, y2, y3, y4, y5, y6, y7⟩ := tng_0 (u := 322) (by decide)
  obtain ⟨y8, y9, y10, y11, y12, y13, y14, y15⟩ := tng_1 (u := 322) (by decide)
  obtain ⟨y16, y17, y18, y19, y20, y21, y22, y23⟩ := tng_2 (u := 322) (by decide)
  obtain ⟨y24, y25, y26, y27, y28, y29, y30, y31⟩ := tng_3 (u := 322) (by decide)
  obtain ⟨y32, y33, y34, y35, y36, y37, y38, y39⟩ := tng_4 (u := 322) (by decide)
  have y40 := fun v w => tn_40 (u := 322) (by decide) v w
  have y41 := fun v w => tn_41 (u := 322) (by decide) v w
  have y42 := fun v w => tn_42 (u := 322) (by decide) v w
  have y43 := fun v w => tn_43 (u := 322) (by decide) v w
  have y44 := fun v w => tn_44 (u := 322) (by decide) v w
  have y45 := fun v w => tn_45 (u := 322) (by decide) v w
  have t_y := ty_mk (T := 322) fun _ _ => by kernel_rfl
  clear h hn1
  go_enter Tryz.func66, Tryz.ntmps66
  go_wp2_with fail
  go_region_held3 (fun w' : World => w'.cell? ⟨msg, 0, none⟩ = some (.string ⟨t0.toArray⟩) ∧ w'.cell? ⟨msg, 1, none⟩ = some (.int .u64 (n1 : Int)) ∧ w'.cell? ⟨msg, 2, none⟩ = some (.bool p2) ∧ w'.cell? ⟨msg, 3, none⟩ = some (.string ⟨t3.toArray⟩) ∧ w'.cell? ⟨msg, 4, none⟩ = some (.string ⟨t4.toArray⟩))
    (first | exact ⟨c_0, c_1, c_2, c_3, c_4⟩ | exact ⟨HB.out.cd 0, HB.out.cd 1, HB.out.cd 2, HB.out.cd 3, HB.out.cd 4⟩ | exact ⟨HB.out.ca 0, HB.out.ca 1, HB.out.ca 2, HB.out.ca 3, HB.out.ca 4⟩)
    (first | ((with_reducible refine (zzBit_eq _ _).mono ?_); rintro e w3 ⟨rfl, rfl⟩))
  go_wp2
  go_ret
  exact ⟨rfl, by first | exact za_1 _ _ _ | exact za_2 _ _ _ | exact za_3 _ _ _⟩
set_option maxHeartbeats 1000000 in
set_option maxRecDepth 100000 in
theorem msg_basicGet (t0 : List UInt8) (p1 : Bool)  (B : Nat → Prop) (w : World) (msg : Nat) (hB : B msg) (h : Blk w msg #[.int .u16 ((0 : Nat) : Int), .string ⟨t0.toArray⟩, .bool p1] 327) :
    MsgOk B w (.iface 325 (.pointer (some ⟨msg, 0, none⟩))) 60 70 [⟨4, 0, t0, []⟩, ⟨6, p1.toNat, [], []⟩] := by
  refine msg_of [(⟨4, 0, t0, []⟩, .map none), (⟨6, p1.toNat, [], []⟩, .map none)] rfl hB h (idg_5.2.2.2.2.2.2.2) ⟨.inl ⟨rfl, rfl⟩, .inl ⟨rfl, rfl⟩, trivial⟩ fun w h => ?_
  have c_1 : w.cell? ⟨msg, 1, none⟩ = some (.string ⟨t0.toArray⟩) := h.cell 1
  have c_2 : w.cell? ⟨msg, 2, none⟩ = some (.bool p1) := h.cell 2
  have HB := Lib.hid h
  obtain ⟨y0, y1, y2, y3, y4, y5, y6, y7⟩ := tng_0 (u := 325) (by decide)
  obtain ⟨y8, y9, y10, y11, y12, y13, y14, y15⟩ := tng_1 (u := 325) (by decide)
  obtain ⟨y16, y17, y18, y19, y20, y21, y22, y23⟩ := tng_2 (u := 325) (by decide)
  obtain ⟨y24, y25, y26, y27, y28, y29, y30, y31⟩ := tng_3 (u := 325) (by decide)
  obtain ⟨y32, y33, y34, y35, y36, y37, y38, y39⟩ := tng_4 (u := 325) (by decide)
  have y40 := fun v w => tn_40 (u := 325) (by decide) v w
  have y41 := fun v w => tn_41 (u := 325) (by decide) v w
  have y42 := fun v w => tn_42 (u := 325) (by decide) v w
  have y43 := fun v w => tn_43 (u := 325) (by decide) v w
  have y44 := fun v w => tn_44 (u := 325) (by decide) v w
  have y45 := fun v w => tn_45 (u := 325) (by decide) v w
  have y46 := fun v w => tn_46 (u := 325) (by decide) v w
  have t_y := ty_mk (T := 325) fun _ _ => by kernel_rfl
  clear h
  go_enter Tryz.func66, Tryz.ntmps66
  go_wp2_with fail
  go_region_held3 (fun w' : World => w'.cell? ⟨msg, 1, none⟩ = some (.string ⟨t0.toArray⟩) ∧ w'.cell? ⟨msg, 2, none⟩ = some (.bool p1))
    (first | exact ⟨c_1, c_2⟩ | exact ⟨HB.out.cd 1, HB.out.cd 2⟩ | exact ⟨HB.out.ca 1, HB.out.ca 2⟩)
    (first | ((with_reducible refine (zzBit_eq _ _).mono ?_); rintro e w3 ⟨rfl, rfl⟩))
  go_wp2
  go_ret
  exact ⟨rfl, by first | exact za_1 _ _ _ | exact za_2 _ _ _ | exact za_3 _ _ _⟩
end Go.Proofs.YtkcdakohmfodjaaGreat
