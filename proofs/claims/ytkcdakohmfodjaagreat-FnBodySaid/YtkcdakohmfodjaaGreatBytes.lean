/-
  readBytes: a new row with the next n bytes.
-/
import Derived.Test.YtkcdakohmfodjaaGreatZeros
namespace Go.Proofs.YtkcdakohmfodjaaGreat
open Go.RowKit
set_option linter.unusedVariables false
set_option linter.unusedSimpArgs false

theorem info_u8 : (Tryz.prog.info? 5).map (fun i => (i.zero, i.size, i.bytes)) = some (some (.int .u8 0), 1, 1) := by kernel_rfl

theorem madeCells_one (z : Value) (n : Nat) : madeCells #[z] n = (List.replicate n z).toArray := by
  apply Array.ext'
  simp only [madeCells]
  apply List.ext_getElem
  · simp
  · intro i h1 h2; simp [Nat.mod_one]

theorem make_u8 (l c : Nat) (hlc : l ≤ c) (hb : c ≤ 281474976710656) (w : World) : (Instr.makeSlice 22 (.int .i64 l) (.int .i64 c)).run Tryz.prog w =
    .ok (.slice (some ⟨w.heap.size, 0, none⟩) l c) (w.alloc (.cells (List.replicate c (.int .u8 0)).toArray 5)) := by
  obtain ⟨i, hi, hz0, hz1, hz2⟩ := info_parts info_u8
  rw [run_make w 22 5 i _ Tryz.underlying22 hi hz0 .i64 .i64 l c (by omega) (by omega) (by rw [hz2]; omega) (by omega)]
  simp only [Int.toNat_natCast, hz1, Nat.mul_one, Value.cells]
  rw [madeCells_one]

set_option maxHeartbeats 400000 in
theorem min64_any (a b : Int) (w : World) : Calls Tryz.prog 160 #[.int .i64 a, .int .i64 b] w fun e w' => e = .returned (.int .i64 (if a < b then a else b)) ∧ w = w' := by
  by_cases h : a < b
  · rw [if_pos h]
    go_enter Tryz.func160, Tryz.ntmps160
    go_wp2
    go_ret
    exact ⟨rfl, rfl⟩
  · rw [if_neg h]
    go_enter Tryz.func160, Tryz.ntmps160
    go_wp2
    go_ret
    exact ⟨rfl, rfl⟩

theorem min64_le (a : Nat) (ha : a ≤ 65536) (w : World) : Calls Tryz.prog 160 #[.int .i64 (a : Int), .int .i64 65536] w fun e w' => e = .returned (.int .i64 (a : Int)) ∧ w = w' :=
  (min64_any a 65536 w).mono fun e w' h => ⟨by
    rw [h.1]
    have e1 : (if (a : Int) < 65536 then (a : Int) else 65536) = a := by
      by_cases h : (a : Int) < 65536
      · rw [if_pos h]
      · rw [if_neg h]; omega
    rw [e1], h.2⟩

theorem append_zeros_u8 (w : World) (ty : TypeId) (g n c : Nat) (cur : List Value) (hg : Blk w g cur.toArray 5) (h0 : 0 < n) (hc : n ≤ c) (hfit : n ≤ cur.length) (h48 : n ≤ 281474976710656) :
    (Builtin.append_ #[22, 3] ty #[.slice (some ⟨g, 0, none⟩) 0 c, .int .i64 n]).run Tryz.prog w =
      .ok (.slice (some ⟨g, 0, none⟩) n c) (w.setRow g (List.replicate n (Value.int .u8 0) ++ cur.drop n).toArray) := by
  obtain ⟨i, hi, hz0, hz1, hz2⟩ := info_parts info_u8
  exact run_append_zeros w _ _ ty _ i _ .i64 .i64 Tryz.underlying22 Tryz.underlying3 hi hz0 hz1 rfl rfl g n c cur hg h0 hc hfit (by omega) (by rw [hz2]; omega)

theorem splice_all (n : Nat) (z : Value) (cs : List Value) (h : cs.length = n) : splice (List.replicate n z) 0 cs = cs := by
  simp [splice, h]

set_option maxHeartbeats 400000 in
theorem readBytes_any {w : World} {r : Value} {ps : List Nat} {d : Nat} {Ns : List Nat} {l : List UInt8} (h : Rd w r ps d Ns l) (hl : Small l.length) (n : Nat) (hn : n ≤ 65536) (h0 : 0 < n) (hav : n ≤ avail Ns l) (hd : d < w.heap.size) :
    Calls Tryz.prog 148 #[r, .int .i64 (n : Int)] w fun e w' => ∃ g, e = .returned (.tuple #[.slice (some ⟨g, 0, none⟩) n n, .nilIface]) ∧ w.heap.size ≤ g ∧
      Blk w' g (u8s (l.take n)).toArray 5 ∧ Rd w' r ps d (Ns.map (· - n)) (l.drop n) ∧ Kept ps w w' := by
  have hmk := make_u8 0 n (Nat.zero_le _) (by omega)
  simp only [Int.natCast_zero] at hmk
  have hn0 : ¬ ((n : Int) < 0) := by omega
  have hlt : (0 : Int) < n := by omega
  have hn2 : (n : Int) ≤ 65536 := by omega
  have H := Lib.hid h; have HL := Lib.hid hl; have HA := Lib.hid hav; have HD := Lib.hid hd
  clear h hl hav hd
  go_enter Tryz.func148, Tryz.ntmps148
  go_wp2_with (go_at_call 160; refine (min64_le n hn _).mono ?_; rintro e w' ⟨rfl, rfl⟩)
  have hblk : Blk (w.alloc (.cells (Array.replicate n (.int .u8 0)) 5)) w.heap.size (List.replicate n (Value.int .u8 0)).toArray 5 := by
    rw [List.toArray_replicate]; exact Blk.new w _ _
  have hkp : Kept [] w (w.alloc (.cells (Array.replicate n (.int .u8 0)) 5)) := (Kept.refl [] w).alloc _
  generalize w.alloc (.cells (Array.replicate n (Value.int .u8 0)) 5) = wa at hblk hkp ⊢
  have hz := append_zeros_u8 wa 22 w.heap.size n n _ hblk h0 (Nat.le_refl _) (by simp) (by omega)
  rw [show List.replicate n (Value.int .u8 0) ++ (List.replicate n (Value.int .u8 0)).drop n = List.replicate n (Value.int .u8 0) by simp] at hz
  have hself : wa.setRow w.heap.size (List.replicate n (Value.int .u8 0)).toArray = wa := setRow_self wa _ _ _ (0, 0) hblk
  rw [hself] at hz
  have hrd : Rd wa r ps d Ns l := H.out.kept hkp (by simp) (by simp)
  have hfull := hrd.full HL.out n n w.heap.size 0 _ h0 (Nat.le_refl _) (by unfold Small; omega) hblk (by simp) (fun hm => by have := H.out.mem_lt _ hm; omega) (by have := HD.out; omega) HA.out
  generalize hg : w.heap.size = g at *
  have HF := Lib.hid hfull; have HZ := Lib.hid hz; have HK := Lib.hid hkp; have HG := Lib.hid hg
  clear hfull hz hkp hblk hrd hself hg hmk
  refine wp_loop_rounds 2 ?_
  rw [rounds_succ]
  go_wp2_with (first
    | (go_at_call 160; refine (min64_le n hn _).mono ?_; rintro e w' ⟨rfl, rfl⟩)
    | (at_builtin; refine Lib.wpList_append_run _ rfl _ _ 22 3 rfl _ _ rfl rfl _ _ HZ.out ?_)
    | (go_at_call 56; refine HF.out.mono ?_; rintro e w' ⟨rfl, hG⟩))
  rw [rounds_succ]
  go_wp2
  go_ret2
  obtain ⟨hG1, hG2, hG3⟩ := hG
  refine ⟨g, rfl, ?_, ?_, hG1, ?_⟩
  · exact Nat.le_of_eq HG.out
  · have hle := H.out.avail_le
    have hA := HA.out
    rwa [splice_all n _ _ (by simp; omega)] at hG2
  · exact (HK.out.mono (by simp)).trans hG3 (fun x hx => by
      simp only [List.mem_cons] at hx
      rcases hx with rfl | hx
      · exact .inr (Nat.le_of_eq HG.out)
      · exact .inl hx)

end Go.Proofs.YtkcdakohmfodjaaGreat
