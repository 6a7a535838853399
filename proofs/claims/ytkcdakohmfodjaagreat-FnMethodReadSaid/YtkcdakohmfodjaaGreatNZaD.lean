/-
  Lemmas on the way to the statement of YtkcdakohmfodjaaGreatMethodRead, joined out of these texts: ZaD. No condition.
-/
import Derived.Test.YtkcdakohmfodjaaGreatNRdv
import Derived.Test.YtkcdakohmfodjaaGreatNZab
import Derived.Test.YtkcdakohmfodjaaGreatNZai
namespace Go.Proofs.YtkcdakohmfodjaaGreat
open Go.RowKit
set_option linter.unusedVariables false
set_option linter.unusedSimpArgs false
set_option maxHeartbeats 8000000 in
set_option maxRecDepth 100000 in
theorem msg_basicGetOk (n0 : Nat) (p1 : Bool) (t2 t3 : List UInt8) (n4 : Nat) (hn0 : n0 < 18446744073709551616) (hn4 : n4 < 4294967296) (B : Nat → Prop) (w : World) (msg : Nat) (hB : B msg) (h : Blk w msg #[.int .u64 (n0 : Int), .bool p1, .string ⟨t2.toArray⟩, .string ⟨t3.toArray⟩, .int .u32 (n4 : Int), .string ⟨#[]⟩, .string ⟨#[]⟩, .map none, .int .u8 0, .int .u8 0, .string ⟨#[]⟩, .string ⟨#[]⟩, .string ⟨#[]⟩, .string ⟨#[]⟩, .int .u64 0, .int .i64 0, .pointer none, .string ⟨#[]⟩, .string ⟨#[]⟩, .string ⟨#[]⟩, .string ⟨#[]⟩, .slice none 0 0] 330) :
    MsgOk B w (.iface 328 (.pointer (some ⟨msg, 0, none⟩))) 60 71 [⟨3, n0, [], []⟩, ⟨6, p1.toNat, [], []⟩, ⟨4, 0, t2, []⟩, ⟨4, 0, t3, []⟩, ⟨2, n4, [], []⟩] := by
  refine msg_of [(⟨3, n0, [], []⟩, .map none), (⟨6, p1.toNat, [], []⟩, .map none), (⟨4, 0, t2, []⟩, .map none), (⟨4, 0, t3, []⟩, .map none), (⟨2, n4, [], []⟩, .map none)] rfl hB h (idg_6.1) ⟨.inl ⟨rfl, rfl⟩, .inl ⟨rfl, rfl⟩, .inl ⟨rfl, rfl⟩, .inl ⟨rfl, rfl⟩, .inl ⟨rfl, rfl⟩, trivial⟩ fun w h => ?_
  have w_n4 : IntKind.u64.wrap (n4 : Int) = n4 := by rw [IntKind.wrap_u64]; omega
  have c_0 : w.cell? ⟨msg, 0, none⟩ = some (.int .u64 (n0 : Int)) := h.cell 0
  have c_1 : w.cell? ⟨msg, 1, none⟩ = some (.bool p1) := h.cell 1
  have c_2 : w.cell? ⟨msg, 2, none⟩ = some (.string ⟨t2.toArray⟩) := h.cell 2
  have c_3 : w.cell? ⟨msg, 3, none⟩ = some (.string ⟨t3.toArray⟩) := h.cell 3
  have c_4 : w.cell? ⟨msg, 4, none⟩ = some (.int .u32 (n4 : Int)) := h.cell 4
  have HB := Lib.hid h
  obtain ⟨y0, y1, y2, y3, y4, y5, y6, y7⟩ := tng_0 (u := 328) (by decide)
  obtain ⟨y8, y9, y10, y11, y12, y13, y14, y15⟩ := tng_1 (u := 328) (by decide)
  obtain ⟨y16, y17, y18, y19, y20, y21, y22, y23⟩ := tng_2 (u := 328) (by decide)
  obtain ⟨y24, y25, y26, y27, y28, y29, y30, y31⟩ := tng_3 (u := 328) (by decide)
  obtain ⟨y32, y33, y34, y35, y36, y37, y38, y39⟩ := tng_4 (u := 328) (by decide)
  obtain ⟨y40, y41, y42, y43, y44, y45, y46, y47⟩ := tng_5 (u := 328) (by decide)
  have t_y := ty_mk (T := 328) fun _ _ => by kernel_rfl
  clear h hn0 hn4
  go_enter Tryz.func66, Tryz.ntmps66
  go_wp2_with fail
  go_region_held3 (fun w' : World => w'.cell? ⟨msg, 0, none⟩ = some (.int .u64 (n0 : Int)) ∧ w'.cell? ⟨msg, 1, none⟩ = some (.bool p1) ∧ w'.cell? ⟨msg, 2, none⟩ = some (.string ⟨t2.toArray⟩) ∧ w'.cell? ⟨msg, 3, none⟩ = some (.string ⟨t3.toArray⟩) ∧ w'.cell? ⟨msg, 4, none⟩ = some (.int .u32 (n4 : Int)))
    (first | exact ⟨c_0, c_1, c_2, c_3, c_4⟩ | exact ⟨HB.out.cd 0, HB.out.cd 1, HB.out.cd 2, HB.out.cd 3, HB.out.cd 4⟩ | exact ⟨HB.out.ca 0, HB.out.ca 1, HB.out.ca 2, HB.out.ca 3, HB.out.ca 4⟩)
    (first | ((with_reducible refine (zzBit_eq _ _).mono ?_); rintro e w3 ⟨rfl, rfl⟩))
  go_wp2
  go_ret
  exact ⟨rfl, by first | exact za_1 _ _ _ | exact za_2 _ _ _ | exact za_3 _ _ _⟩
set_option maxHeartbeats 1000000 in
set_option maxRecDepth 100000 in
theorem msg_basicGetEmpty   (B : Nat → Prop) (w : World) (msg : Nat) (hB : B msg) (h : Blk w msg #[.string ⟨([] : List UInt8).toArray⟩] 332) :
    MsgOk B w (.iface 331 (.pointer (some ⟨msg, 0, none⟩))) 60 72 [] := by
  refine msg_of0 hB h (idg_6.2.1) fun w h => ?_
  obtain ⟨y0, y1, y2, y3, y4, y5, y6, y7⟩ := tng_0 (u := 331) (by decide)
  obtain ⟨y8, y9, y10, y11, y12, y13, y14, y15⟩ := tng_1 (u := 331) (by decide)
  obtain ⟨y16, y17, y18, y19, y20, y21, y22, y23⟩ := tng_2 (u := 331) (by decide)
  obtain ⟨y24, y25, y26, y27, y28, y29, y30, y31⟩ := tng_3 (u := 331) (by decide)
  obtain ⟨y32, y33, y34, y35, y36, y37, y38, y39⟩ := tng_4 (u := 331) (by decide)
  obtain ⟨y40, y41, y42, y43, y44, y45, y46, y47⟩ := tng_5 (u := 331) (by decide)
  have y48 := fun v w => tn_48 (u := 331) (by decide) v w
  have t_y := ty_mk (T := 331) fun _ _ => by kernel_rfl
  clear h
  go_enter Tryz.func66, Tryz.ntmps66
  go_wp2_with (fail)
  go_ret
  exact ⟨rfl, Kept.refl _ _⟩
set_option maxHeartbeats 1000000 in
set_option maxRecDepth 100000 in
theorem msg_basicAck (n0 : Nat) (p1 : Bool) (hn0 : n0 < 18446744073709551616) (B : Nat → Prop) (w : World) (msg : Nat) (hB : B msg) (h : Blk w msg #[.int .u64 (n0 : Int), .bool p1] 335) :
    MsgOk B w (.iface 333 (.pointer (some ⟨msg, 0, none⟩))) 60 80 [⟨3, n0, [], []⟩, ⟨6, p1.toNat, [], []⟩] := by
  refine msg_of [(⟨3, n0, [], []⟩, .map none), (⟨6, p1.toNat, [], []⟩, .map none)] rfl hB h (idg_6.2.2.1) ⟨.inl ⟨rfl, rfl⟩, .inl ⟨rfl, rfl⟩, trivial⟩ fun w h => ?_
  have c_0 : w.cell? ⟨msg, 0, none⟩ = some (.int .u64 (n0 : Int)) := h.cell 0
  have c_1 : w.cell? ⟨msg, 1, none⟩ = some (.bool p1) := h.cell 1
  have HB := Lib.hid h
  obtain ⟨y0, y1, y2, y3, y4, y5, y6, y7⟩ := tng_0 (u := 333) (by decide)
  obtain ⟨y8, y9, y10, y11, y12, y13, y14, y15⟩ := tng_1 (u := 333) (by decide)
  obtain ⟨y16, y17, y18, y19, y20, y21, y22, y23⟩ := tng_2 (u := 333) (by decide)
  obtain ⟨y24, y25, y26, y27, y28, y29, y30, y31⟩ := tng_3 (u := 333) (by decide)
  obtain ⟨y32, y33, y34, y35, y36, y37, y38, y39⟩ := tng_4 (u := 333) (by decide)
  obtain ⟨y40, y41, y42, y43, y44, y45, y46, y47⟩ := tng_5 (u := 333) (by decide)
  have y48 := fun v w => tn_48 (u := 333) (by decide) v w
  have y49 := fun v w => tn_49 (u := 333) (by decide) v w
  have t_y := ty_mk (T := 333) fun _ _ => by kernel_rfl
  clear h hn0
  go_enter Tryz.func66, Tryz.ntmps66
  go_wp2_with fail
  go_region_held3 (fun w' : World => w'.cell? ⟨msg, 0, none⟩ = some (.int .u64 (n0 : Int)) ∧ w'.cell? ⟨msg, 1, none⟩ = some (.bool p1))
    (first | exact ⟨c_0, c_1⟩ | exact ⟨HB.out.cd 0, HB.out.cd 1⟩ | exact ⟨HB.out.ca 0, HB.out.ca 1⟩)
    (first | ((with_reducible refine (zzBit_eq _ _).mono ?_); rintro e w3 ⟨rfl, rfl⟩))
  go_wp2
  go_ret
  exact ⟨rfl, by first | exact za_1 _ _ _ | exact za_2 _ _ _ | exact za_3 _ _ _⟩
set_option maxHeartbeats 1000000 in
set_option maxRecDepth 100000 in
theorem msg_basicReject (n0 : Nat) (p1 : Bool) (hn0 : n0 < 18446744073709551616) (B : Nat → Prop) (w : World) (msg : Nat) (hB : B msg) (h : Blk w msg #[.int .u64 (n0 : Int), .bool p1] 338) :
    MsgOk B w (.iface 336 (.pointer (some ⟨msg, 0, none⟩))) 60 90 [⟨3, n0, [], []⟩, ⟨6, p1.toNat, [], []⟩] := by
  refine msg_of [(⟨3, n0, [], []⟩, .map none), (⟨6, p1.toNat, [], []⟩, .map none)] rfl hB h (idg_6.2.2.2.1) ⟨.inl ⟨rfl, rfl⟩, .inl ⟨rfl, rfl⟩, trivial⟩ fun w h => ?_
  have c_0 : w.cell? ⟨msg, 0, none⟩ = some (.int .u64 (n0 : Int)) := h.cell 0
  have c_1 : w.cell? ⟨msg, 1, none⟩ = some (.bool p1) := h.cell 1
  have HB := Lib.hid h
  obtain ⟨y0, y1, y2, y3, y4, y5, y6, y7⟩ := tng_0 (u := 336) (by decide)
  obtain ⟨y8, y9, y10, y11, y12, y13, y14, y15⟩ := tng_1 (u := 336) (by decide)
  obtain ⟨y16, y17, y18, y19, y20, y21, y22, y23⟩ := tng_2 (u := 336) (by decide)
  obtain ⟨y24, y25, y26, y27, y28, y29, y30, y31⟩ := tng_3 (u := 336) (by decide)
  obtain ⟨y32, y33, y34, y35, y36, y37, y38, y39⟩ := tng_4 (u := 336) (by decide)
  obtain ⟨y40, y41, y42, y43, y44, y45, y46, y47⟩ := tng_5 (u := 336) (by decide)
  have y48 := fun v w => tn_48 (u := 336) (by decide) v w
  have y49 := fun v w => tn_49 (u := 336) (by decide) v w
  have y50 := fun v w => tn_50 (u := 336) (by decide) v w
  have t_y := ty_mk (T := 336) fun _ _ => by kernel_rfl
  clear h hn0
  go_enter Tryz.func66, Tryz.ntmps66
  go_wp2_with fail
  go_region_held3 (fun w' : World => w'.cell? ⟨msg, 0, none⟩ = some (.int .u64 (n0 : Int)) ∧ w'.cell? ⟨msg, 1, none⟩ = some (.bool p1))
    (first | exact ⟨c_0, c_1⟩ | exact ⟨HB.out.cd 0, HB.out.cd 1⟩ | exact ⟨HB.out.ca 0, HB.out.ca 1⟩)
    (first | ((with_reducible refine (zzBit_eq _ _).mono ?_); rintro e w3 ⟨rfl, rfl⟩))
  go_wp2
  go_ret
  exact ⟨rfl, by first | exact za_1 _ _ _ | exact za_2 _ _ _ | exact za_3 _ _ _⟩
set_option maxHeartbeats 1000000 in
set_option maxRecDepth 100000 in
theorem msg_basicRecoverAsync (p0 : Bool)  (B : Nat → Prop) (w : World) (msg : Nat) (hB : B msg) (h : Blk w msg #[.bool p0] 341) :
    MsgOk B w (.iface 339 (.pointer (some ⟨msg, 0, none⟩))) 60 100 [⟨6, p0.toNat, [], []⟩] := by
  refine msg_of [(⟨6, p0.toNat, [], []⟩, .map none)] rfl hB h (idg_6.2.2.2.2.1) ⟨.inl ⟨rfl, rfl⟩, trivial⟩ fun w h => ?_
  have c_0 : w.cell? ⟨msg, 0, none⟩ = some (.bool p0) := h.cell 0
  obtain ⟨y0, y1, y2, y3, y4, y5, y6, y7⟩ := tng_0 (u := 339) (by decide)
  obtain ⟨y8, y9, y10, y11, y12, y13, y14, y15⟩ := tng_1 (u := 339) (by decide)
  obtain ⟨y16, y17, y18, y19, y20, y21, y22, y23⟩ := tng_2 (u := 339) (by decide)
  obtain ⟨y24, y25, y26, y27, y28, y29, y30, y31⟩ := tng_3 (u := 339) (by decide)
  obtain ⟨y32, y33, y34, y35, y36, y37, y38, y39⟩ := tng_4 (u := 339) (by decide)
  obtain ⟨y40, y41, y42, y43, y44, y45, y46, y47⟩ := tng_5 (u := 339) (by decide)
  have y48 := fun v w => tn_48 (u := 339) (by decide) v w
  have y49 := fun v w => tn_49 (u := 339) (by decide) v w
  have y50 := fun v w => tn_50 (u := 339) (by decide) v w
  have y51 := fun v w => tn_51 (u := 339) (by decide) v w
  have t_y := ty_mk (T := 339) fun _ _ => by kernel_rfl
  clear h
  go_enter Tryz.func66, Tryz.ntmps66
  go_wp2_with (first | ((with_reducible refine (zzBit_eq _ _).mono ?_); rintro e w3 ⟨rfl, rfl⟩))
  go_ret
  exact ⟨rfl, by first | exact za_1 _ _ _ | exact za_2 _ _ _ | exact za_3 _ _ _⟩
set_option maxHeartbeats 1000000 in
set_option maxRecDepth 100000 in
theorem msg_basicRecover (p0 : Bool)  (B : Nat → Prop) (w : World) (msg : Nat) (hB : B msg) (h : Blk w msg #[.bool p0] 343) :
    MsgOk B w (.iface 342 (.pointer (some ⟨msg, 0, none⟩))) 60 110 [⟨6, p0.toNat, [], []⟩] := by
  refine msg_of [(⟨6, p0.toNat, [], []⟩, .map none)] rfl hB h (idg_6.2.2.2.2.2.1) ⟨.inl ⟨rfl, rfl⟩, trivial⟩ fun w h => ?_
  have c_0 : w.cell? ⟨msg, 0, none⟩ = some (.bool p0) := h.cell 0
  obtain ⟨y0, y1, y2, y3, y4, y5, y6, y7⟩ := tng_0 (u := 342) (by decide)
  obtain ⟨y8, y9, y10, y11, y12, y13, y14, y15⟩ := tng_1 (u := 342) (by decide)
  obtain ⟨y16, y17, y18, y19, y20, y21, y22, y23⟩ := tng_2 (u := 342) (by decide)
  obtain ⟨y24, y25, y26, y27, y28, y29, y30, y31⟩ := tng_3 (u := 342) (by decide)
  obtain ⟨y32, y33, y34, y35, y36, y37, y38, y39⟩ := tng_4 (u := 342) (by decide)
  obtain ⟨y40, y41, y42, y43, y44, y45, y46, y47⟩ := tng_5 (u := 342) (by decide)
  have y48 := fun v w => tn_48 (u := 342) (by decide) v w
  have y49 := fun v w => tn_49 (u := 342) (by decide) v w
  have y50 := fun v w => tn_50 (u := 342) (by decide) v w
  have y51 := fun v w => tn_51 (u := 342) (by decide) v w
  have y52 := fun v w => tn_52 (u := 342) (by decide) v w
  have t_y := ty_mk (T := 342) fun _ _ => by kernel_rfl
  clear h
  go_enter Tryz.func66, Tryz.ntmps66
  go_wp2_with (first | ((with_reducible refine (zzBit_eq _ _).mono ?_); rintro e w3 ⟨rfl, rfl⟩))
  go_ret
  exact ⟨rfl, by first | exact za_1 _ _ _ | exact za_2 _ _ _ | exact za_3 _ _ _⟩
set_option maxHeartbeats 1000000 in
set_option maxRecDepth 100000 in
theorem msg_basicRecoverOk   (B : Nat → Prop) (w : World) (msg : Nat) (hB : B msg) (h : Blk w msg #[] 345) :
    MsgOk B w (.iface 344 (.pointer (some ⟨msg, 0, none⟩))) 60 111 [] := by
  refine msg_of0 hB h (idg_6.2.2.2.2.2.2.1) fun w h => ?_
  obtain ⟨y0, y1, y2, y3, y4, y5, y6, y7⟩ := tng_0 (u := 344) (by decide)
  obtain ⟨y8, y9, y10, y11, y12, y13, y14, y15⟩ := tng_1 (u := 344) (by decide)
  obtain ⟨y16, y17, y18, y19, y20, y21, y22, y23⟩ := tng_2 (u := 344) (by decide)
  obtain ⟨y24, y25, y26, y27, y28, y29, y30, y31⟩ := tng_3 (u := 344) (by decide)
  obtain ⟨y32, y33, y34, y35, y36, y37, y38, y39⟩ := tng_4 (u := 344) (by decide)
  obtain ⟨y40, y41, y42, y43, y44, y45, y46, y47⟩ := tng_5 (u := 344) (by decide)
  have y48 := fun v w => tn_48 (u := 344) (by decide) v w
  have y49 := fun v w => tn_49 (u := 344) (by decide) v w
  have y50 := fun v w => tn_50 (u := 344) (by decide) v w
  have y51 := fun v w => tn_51 (u := 344) (by decide) v w
  have y52 := fun v w => tn_52 (u := 344) (by decide) v w
  have y53 := fun v w => tn_53 (u := 344) (by decide) v w
  have t_y := ty_mk (T := 344) fun _ _ => by kernel_rfl
  clear h
  go_enter Tryz.func66, Tryz.ntmps66
  go_wp2_with (fail)
  go_ret
  exact ⟨rfl, Kept.refl _ _⟩
set_option maxHeartbeats 1000000 in
set_option maxRecDepth 100000 in
theorem msg_basicNack (n0 : Nat) (p1 p2 : Bool) (hn0 : n0 < 18446744073709551616) (B : Nat → Prop) (w : World) (msg : Nat) (hB : B msg) (h : Blk w msg #[.int .u64 (n0 : Int), .bool p1, .bool p2] 348) :
    MsgOk B w (.iface 346 (.pointer (some ⟨msg, 0, none⟩))) 60 120 [⟨3, n0, [], []⟩, ⟨6, p1.toNat, [], []⟩, ⟨6, p2.toNat, [], []⟩] := by
  refine msg_of [(⟨3, n0, [], []⟩, .map none), (⟨6, p1.toNat, [], []⟩, .map none), (⟨6, p2.toNat, [], []⟩, .map none)] rfl hB h (idg_6.2.2.2.2.2.2.2) ⟨.inl ⟨rfl, rfl⟩, .inl ⟨rfl, rfl⟩, .inl ⟨rfl, rfl⟩, trivial⟩ fun w h => ?_
  have c_0 : w.cell? ⟨msg, 0, none⟩ = some (.int .u64 (n0 : Int)) := h.cell 0
  have c_1 : w.cell? ⟨msg, 1, none⟩ = some (.bool p1) := h.cell 1
  have c_2 : w.cell? ⟨msg, 2, none⟩ = some (.bool p2) := h.cell 2
  have HB := Lib.hid h
  obtain ⟨y0, y1, y2, y3, y4, y5, y6, y7⟩ := tng_0 (u := 346) (by decide)
  obtain ⟨y8, y9, y10, y11, y12, y13, y14, y15⟩ := tng_1 (u := 346) (by decide)
  obtain ⟨y16, y17, y18, y19, y20, y21, y22, y23⟩ := tng_2 (u := 346) (by decide)
  obtain ⟨y24, y25, y26, y27, y28, y29, y30, y31⟩ := tng_3 (u := 346) (by decide)
  obtain ⟨y32, y33, y34, y35, y36, y37, y38, y39⟩ := tng_4 (u := 346) (by decide)
  obtain ⟨y40, y41, y42, y43, y44, y45, y46, y47⟩ := tng_5 (u := 346) (by decide)
  have y48 := fun v w => tn_48 (u := 346) (by decide) v w
  have y49 := fun v w => tn_49 (u := 346) (by decide) v w
  have y50 := fun v w => tn_50 (u := 346) (by decide) v w
  have y51 := fun v w => tn_51 (u := 346) (by decide) v w
  have y52 := fun v w => tn_52 (u := 346) (by decide) v w
  have y53 := fun v w => tn_53 (u := 346) (by decide) v w
  have y54 := fun v w => tn_54 (u := 346) (by decide) v w
  have t_y := ty_mk (T := 346) fun _ _ => by kernel_rfl
  clear h hn0
  go_enter Tryz.func66, Tryz.ntmps66
  go_wp2_with fail
  go_region_held3 (fun w' : World => w'.cell? ⟨msg, 0, none⟩ = some (.int .u64 (n0 : Int)) ∧ w'.cell? ⟨msg, 1, none⟩ = some (.bool p1) ∧ w'.cell? ⟨msg, 2, none⟩ = some (.bool p2))
    (first | exact ⟨c_0, c_1, c_2⟩ | exact ⟨HB.out.cd 0, HB.out.cd 1, HB.out.cd 2⟩ | exact ⟨HB.out.ca 0, HB.out.ca 1, HB.out.ca 2⟩)
    (first | ((with_reducible refine (zzBit_eq _ _).mono ?_); rintro e w3 ⟨rfl, rfl⟩))
  go_wp2
  go_ret
  exact ⟨rfl, by first | exact za_1 _ _ _ | exact za_2 _ _ _ | exact za_3 _ _ _⟩
set_option maxHeartbeats 1000000 in
set_option maxRecDepth 100000 in
theorem msg_txSelect   (B : Nat → Prop) (w : World) (msg : Nat) (hB : B msg) (h : Blk w msg #[] 350) :
    MsgOk B w (.iface 349 (.pointer (some ⟨msg, 0, none⟩))) 90 10 [] := by
  refine msg_of0 hB h (idg_7.1) fun w h => ?_
  obtain ⟨y0, y1, y2, y3, y4, y5, y6, y7⟩ := tng_0 (u := 349) (by decide)
  obtain ⟨y8, y9, y10, y11, y12, y13, y14, y15⟩ := tng_1 (u := 349) (by decide)
  obtain ⟨y16, y17, y18, y19, y20, y21, y22, y23⟩ := tng_2 (u := 349) (by decide)
  obtain ⟨y24, y25, y26, y27, y28, y29, y30, y31⟩ := tng_3 (u := 349) (by decide)
  obtain ⟨y32, y33, y34, y35, y36, y37, y38, y39⟩ := tng_4 (u := 349) (by decide)
  obtain ⟨y40, y41, y42, y43, y44, y45, y46, y47⟩ := tng_5 (u := 349) (by decide)
  obtain ⟨y48, y49, y50, y51, y52, y53, y54, y55⟩ := tng_6 (u := 349) (by decide)
  have t_y := ty_mk (T := 349) fun _ _ => by kernel_rfl
  clear h
  go_enter Tryz.func66, Tryz.ntmps66
  go_wp2_with (fail)
  go_ret
  exact ⟨rfl, Kept.refl _ _⟩
set_option maxHeartbeats 1000000 in
set_option maxRecDepth 100000 in
theorem msg_txSelectOk   (B : Nat → Prop) (w : World) (msg : Nat) (hB : B msg) (h : Blk w msg #[] 352) :
    MsgOk B w (.iface 351 (.pointer (some ⟨msg, 0, none⟩))) 90 11 [] := by
  refine msg_of0 hB h (idg_7.2.1) fun w h => ?_
  obtain ⟨y0, y1, y2, y3, y4, y5, y6, y7⟩ := tng_0 (u := 351) (by decide)
  obtain ⟨y8, y9, y10, y11, y12, y13, y14, y15⟩ := tng_1 (u := 351) (by decide)
  obtain ⟨y16, y17, y18, y19, y20, y21, y22, y23⟩ := tng_2 (u := 351) (by decide)
  obtain ⟨y24, y25, y26, y27, y28, y29, y30, y31⟩ := tng_3 (u := 351) (by decide)
  obtain ⟨y32, y33, y34, y35, y36, y37, y38, y39⟩ := tng_4 (u := 351) (by decide)
  obtain ⟨y40, y41, y42, y43, y44, y45, y46, y47⟩ := tng_5 (u := 351) (by decide)
  obtain ⟨y48, y49, y50, y51, y52, y53, y54, y55⟩ := tng_6 (u := 351) (by decide)
  have y56 := fun v w => tn_56 (u := 351) (by decide) v w
  have t_y := ty_mk (T := 351) fun _ _ => by kernel_rfl
  clear h
  go_enter Tryz.func66, Tryz.ntmps66
  go_wp2_with (fail)
  go_ret
  exact ⟨rfl, Kept.refl _ _⟩
set_option maxHeartbeats 1000000 in
set_option maxRecDepth 100000 in
theorem msg_txCommit   (B : Nat → Prop) (w : World) (msg : Nat) (hB : B msg) (h : Blk w msg #[] 354) :
    MsgOk B w (.iface 353 (.pointer (some ⟨msg, 0, none⟩))) 90 20 [] := by
  refine msg_of0 hB h (idg_7.2.2.1) fun w h => ?_
  obtain ⟨y0, y1, y2, y3, y4, y5, y6, y7⟩ := tng_0 (u := 353) (by decide)
  obtain ⟨y8, y9, y10, y11, y12, y13, y14, y15⟩ := tng_1 (u := 353) (by decide)
  obtain ⟨y16, y17, y18, y19, y20, y21, y22, y23⟩ := tng_2 (u := 353) (by decide)
  obtain ⟨y24, y25, y26, y27, y28, y29, y30, y31⟩ := tng_3 (u := 353) (by decide)
  obtain ⟨y32, y33, y34, y35, y36, y37, y38, y39⟩ := tng_4 (u := 353) (by decide)
  obtain ⟨y40, y41, y42, y43, y44, y45, y46, y47⟩ := tng_5 (u := 353) (by decide)
  obtain ⟨y48, y49, y50, y51, y52, y53, y54, y55⟩ := tng_6 (u := 353) (by decide)
  have y56 := fun v w => tn_56 (u := 353) (by decide) v w
  have y57 := fun v w => tn_57 (u := 353) (by decide) v w
  have t_y := ty_mk (T := 353) fun _ _ => by kernel_rfl
  clear h
  go_enter Tryz.func66, Tryz.ntmps66
  go_wp2_with (fail)
  go_ret
  exact ⟨rfl, Kept.refl _ _⟩
set_option maxHeartbeats 1000000 in
set_option maxRecDepth 100000 in
theorem msg_txCommitOk   (B : Nat → Prop) (w : World) (msg : Nat) (hB : B msg) (h : Blk w msg #[] 356) :
    MsgOk B w (.iface 355 (.pointer (some ⟨msg, 0, none⟩))) 90 21 [] := by
  refine msg_of0 hB h (idg_7.2.2.2.1) fun w h => ?_
  obtain ⟨y0, y1, y2, y3, y4, y5, y6, y7⟩ := tng_0 (u := 355) (by decide)
  obtain ⟨y8, y9, y10, y11, y12, y13, y14, y15⟩ := tng_1 (u := 355) (by decide)
  obtain ⟨y16, y17, y18, y19, y20, y21, y22, y23⟩ := tng_2 (u := 355) (by decide)
  obtain ⟨y24, y25, y26, y27, y28, y29, y30, y31⟩ := tng_3 (u := 355) (by decide)
  obtain ⟨y32, y33, y34, y35, y36, y37, y38, y39⟩ := tng_4 (u := 355) (by decide)
  obtain ⟨y40, y41, y42, y43, y44, y45, y46, y47⟩ := tng_5 (u := 355) (by decide)
  obtain ⟨y48, y49, y50, y51, y52, y53, y54, y55⟩ := tng_6 (u := 355) (by decide)
  have y56 := fun v w => tn_56 (u := 355) (by decide) v w
  have y57 := fun v w => tn_57 (u := 355) (by decide) v w
  have y58 := fun v w => tn_58 (u := 355) (by decide) v w
  have t_y := ty_mk (T := 355) fun _ _ => by kernel_rfl
  clear h
  go_enter Tryz.func66, Tryz.ntmps66
  go_wp2_with (fail)
  go_ret
  exact ⟨rfl, Kept.refl _ _⟩
set_option maxHeartbeats 1000000 in
set_option maxRecDepth 100000 in
theorem msg_txRollback   (B : Nat → Prop) (w : World) (msg : Nat) (hB : B msg) (h : Blk w msg #[] 358) :
    MsgOk B w (.iface 357 (.pointer (some ⟨msg, 0, none⟩))) 90 30 [] := by
  refine msg_of0 hB h (idg_7.2.2.2.2.1) fun w h => ?_
  obtain ⟨y0, y1, y2, y3, y4, y5, y6, y7⟩ := tng_0 (u := 357) (by decide)
  obtain ⟨y8, y9, y10, y11, y12, y13, y14, y15⟩ := tng_1 (u := 357) (by decide)
  obtain ⟨y16, y17, y18, y19, y20, y21, y22, y23⟩ := tng_2 (u := 357) (by decide)
  obtain ⟨y24, y25, y26, y27, y28, y29, y30, y31⟩ := tng_3 (u := 357) (by decide)
  obtain ⟨y32, y33, y34, y35, y36, y37, y38, y39⟩ := tng_4 (u := 357) (by decide)
  obtain ⟨y40, y41, y42, y43, y44, y45, y46, y47⟩ := tng_5 (u := 357) (by decide)
  obtain ⟨y48, y49, y50, y51, y52, y53, y54, y55⟩ := tng_6 (u := 357) (by decide)
  have y56 := fun v w => tn_56 (u := 357) (by decide) v w
  have y57 := fun v w => tn_57 (u := 357) (by decide) v w
  have y58 := fun v w => tn_58 (u := 357) (by decide) v w
  have y59 := fun v w => tn_59 (u := 357) (by decide) v w
  have t_y := ty_mk (T := 357) fun _ _ => by kernel_rfl
  clear h
  go_enter Tryz.func66, Tryz.ntmps66
  go_wp2_with (fail)
  go_ret
  exact ⟨rfl, Kept.refl _ _⟩
set_option maxHeartbeats 1000000 in
set_option maxRecDepth 100000 in
theorem msg_txRollbackOk   (B : Nat → Prop) (w : World) (msg : Nat) (hB : B msg) (h : Blk w msg #[] 360) :
    MsgOk B w (.iface 359 (.pointer (some ⟨msg, 0, none⟩))) 90 31 [] := by
  refine msg_of0 hB h (idg_7.2.2.2.2.2.1) fun w h => ?_
  obtain ⟨y0, y1, y2, y3, y4, y5, y6, y7⟩ := tng_0 (u := 359) (by decide)
  obtain ⟨y8, y9, y10, y11, y12, y13, y14, y15⟩ := tng_1 (u := 359) (by decide)
  obtain ⟨y16, y17, y18, y19, y20, y21, y22, y23⟩ := tng_2 (u := 359) (by decide)
  obtain ⟨y24, y25, y26, y27, y28, y29, y30, y31⟩ := tng_3 (u := 359) (by decide)
  obtain ⟨y32, y33, y34, y35, y36, y37, y38, y39⟩ := tng_4 (u := 359) (by decide)
  obtain ⟨y40, y41, y42, y43, y44, y45, y46, y47⟩ := tng_5 (u := 359) (by decide)
  obtain ⟨y48, y49, y50, y51, y52, y53, y54, y55⟩ := tng_6 (u := 359) (by decide)
  have y56 := fun v w => tn_56 (u := 359) (by decide) v w
  have y57 := fun v w => tn_57 (u := 359) (by decide) v w
  have y58 := fun v w => tn_58 (u := 359) (by decide) v w
  have y59 := fun v w => tn_59 (u := 359) (by decide) v w
  have y60 := fun v w => tn_60 (u := 359) (by decide) v w
  have t_y := ty_mk (T := 359) fun _ _ => by kernel_rfl
  clear h
  go_enter Tryz.func66, Tryz.ntmps66
  go_wp2_with (fail)
  go_ret
  exact ⟨rfl, Kept.refl _ _⟩
set_option maxHeartbeats 1000000 in
set_option maxRecDepth 100000 in
theorem msg_confirmSelect (p0 : Bool)  (B : Nat → Prop) (w : World) (msg : Nat) (hB : B msg) (h : Blk w msg #[.bool p0] 363) :
    MsgOk B w (.iface 361 (.pointer (some ⟨msg, 0, none⟩))) 85 10 [⟨6, p0.toNat, [], []⟩] := by
  refine msg_of [(⟨6, p0.toNat, [], []⟩, .map none)] rfl hB h (idg_7.2.2.2.2.2.2.1) ⟨.inl ⟨rfl, rfl⟩, trivial⟩ fun w h => ?_
  have c_0 : w.cell? ⟨msg, 0, none⟩ = some (.bool p0) := h.cell 0
  obtain ⟨y0, y1, y2, y3, y4, y5, y6, y7⟩ := tng_0 (u := 361) (by decide)
  obtain ⟨y8, y9, y10, y11, y12, y13, y14, y15⟩ := tng_1 (u := 361) (by decide)
  obtain ⟨y16, y17, y18, y19, y20, y21, y22, y23⟩ := tng_2 (u := 361) (by decide)
  obtain ⟨y24, y25, y26, y27, y28, y29, y30, y31⟩ := tng_3 (u := 361) (by decide)
  obtain ⟨y32, y33, y34, y35, y36, y37, y38, y39⟩ := tng_4 (u := 361) (by decide)
  obtain ⟨y40, y41, y42, y43, y44, y45, y46, y47⟩ := tng_5 (u := 361) (by decide)
  obtain ⟨y48, y49, y50, y51, y52, y53, y54, y55⟩ := tng_6 (u := 361) (by decide)
  have y56 := fun v w => tn_56 (u := 361) (by decide) v w
  have y57 := fun v w => tn_57 (u := 361) (by decide) v w
  have y58 := fun v w => tn_58 (u := 361) (by decide) v w
  have y59 := fun v w => tn_59 (u := 361) (by decide) v w
  have y60 := fun v w => tn_60 (u := 361) (by decide) v w
  have y61 := fun v w => tn_61 (u := 361) (by decide) v w
  have t_y := ty_mk (T := 361) fun _ _ => by kernel_rfl
  clear h
  go_enter Tryz.func66, Tryz.ntmps66
  go_wp2_with (first | ((with_reducible refine (zzBit_eq _ _).mono ?_); rintro e w3 ⟨rfl, rfl⟩))
  go_ret
  exact ⟨rfl, by first | exact za_1 _ _ _ | exact za_2 _ _ _ | exact za_3 _ _ _⟩
set_option maxHeartbeats 1000000 in
set_option maxRecDepth 100000 in
theorem msg_confirmSelectOk   (B : Nat → Prop) (w : World) (msg : Nat) (hB : B msg) (h : Blk w msg #[] 365) :
    MsgOk B w (.iface 364 (.pointer (some ⟨msg, 0, none⟩))) 85 11 [] := by
  refine msg_of0 hB h (idg_7.2.2.2.2.2.2.2) fun w h => ?_
  obtain ⟨y0, y1, y2, y3, y4, y5, y6, y7⟩ := tng_0 (u := 364) (by decide)
  obtain ⟨y8, y9, y10, y11, y12, y13, y14, y15⟩ := tng_1 (u := 364) (by decide)
  obtain ⟨y16, y17, y18, y19, y20, y21, y22, y23⟩ := tng_2 (u := 364) (by decide)
  obtain ⟨y24, y25, y26, y27, y28, y29, y30, y31⟩ := tng_3 (u := 364) (by decide)
  obtain ⟨y32, y33, y34, y35, y36, y37, y38, y39⟩ := tng_4 (u := 364) (by decide)
  obtain ⟨y40, y41, y42, y43, y44, y45, y46, y47⟩ := tng_5 (u := 364) (by decide)
  obtain ⟨y48, y49, y50, y51, y52, y53, y54, y55⟩ := tng_6 (u := 364) (by decide)
  have y56 := fun v w => tn_56 (u := 364) (by decide) v w
  have y57 := fun v w => tn_57 (u := 364) (by decide) v w
  have y58 := fun v w => tn_58 (u := 364) (by decide) v w
  have y59 := fun v w => tn_59 (u := 364) (by decide) v w
  have y60 := fun v w => tn_60 (u := 364) (by decide) v w
  have y61 := fun v w => tn_61 (u := 364) (by decide) v w
  have y62 := fun v w => tn_62 (u := 364) (by decide) v w
  have t_y := ty_mk (T := 364) fun _ _ => by kernel_rfl
  clear h
  go_enter Tryz.func66, Tryz.ntmps66
  go_wp2_with (fail)
  go_ret
  exact ⟨rfl, Kept.refl _ _⟩
end Go.Proofs.YtkcdakohmfodjaaGreat
