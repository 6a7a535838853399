/-
  readFull and readBytes over a buffer that has too few bytes.
-/
import Derived.Test.YtkcdakohmfodjaaGreatBytes
namespace Go.Proofs.YtkcdakohmfodjaaGreat
open Go.RowKit
set_option linter.unusedVariables false
set_option linter.unusedSimpArgs false

/-- At block b there is a buffer. -/
def HasB (w : World) (b : Nat) : Prop := ∃ (ao : Option Addr) (n c : Nat), Blk w b #[.slice ao n c] 113
theorem HasB.kept {S : List Nat} {w w' : World} {b : Nat} (h : HasB w b) (hk : Kept S w w') (hb : b ∉ S) : HasB w' b := by
  obtain ⟨ao, n, c, h1⟩ := h
  exact ⟨ao, n, c, h1.kept hk hb⟩
theorem Buf.has {w : World} {b d : Nat} {l : List UInt8} (h : Buf w b d l) : HasB w b := by
  obtain ⟨ao, c, h1, _, _⟩ := h
  exact ⟨ao, _, c, h1⟩

/-- An error that is there. -/
def Err (v : Value) : Prop := v = EOFV ∨ v = UEOFV

theorem Buf.short {te : TypeId} {w : World} {b d : Nat} {l : List UInt8} (hb : Buf w b d l) (hbd : b ≠ d) (g o n m : Nat) (cur : List Value) (hl : l.length < n) (hnm : n ≤ m) (hm : Small m)
    (hg : Blk w g cur.toArray te) (hfit : o + n ≤ cur.length) (hbg : b ≠ g) (hdg : d ≠ g) :
    Calls Tryz.prog 56 #[.iface 111 (.pointer (some ⟨b, 0, none⟩)), .slice (some ⟨g, o, none⟩) n m] w fun e w' =>
      ∃ v, Err v ∧ e = .returned (.tuple #[.int .i64 (l.length : Int), v]) ∧ Kept [b, g] w w' ∧ Buf w' b d [] := by
  have hd : Kept [] w w.drew := (Kept.refl [] w).drew
  by_cases h0 : l = []
  · subst h0
    refine (full_end_buf b g o n m w (by simpa using hl) (fun w' => w.drew = w') hnm hm (read_none b d n m _ w.drew (hb.kept hd (by simp) (by simp)) (by simpa using hl))).mono fun e w' h => ?_
    obtain ⟨rfl, rfl⟩ := h
    exact ⟨_, .inl rfl, rfl, hd.mono (by simp), hb.kept hd (by simp) (by simp)⟩
  · have hpos : 0 < l.length := List.length_pos_iff.2 h0
    refine (full_part_buf b g o n m l.length w hpos hl (fun w' => Kept [b, g] w w' ∧ Buf w' b d []) (fun w' => Kept [b, g] w w' ∧ Buf w' b d []) hnm hm ?_ ?_).mono fun e w' h => ⟨_, .inr rfl, h.1, h.2⟩
    · refine (read_any b d g o n m l cur w.drew (hb.kept hd (by simp) (by simp)) h0 (hg.kept hd (by simp)) hfit hbg hbd hdg l.length (by omega)).mono fun e w' h => ?_
      obtain ⟨rfl, h2, h3, h4⟩ := h
      rw [List.drop_of_length_le (Nat.le_refl _)] at h2
      exact ⟨rfl, (hd.mono (by simp)).trans h4 (fun x hx => .inl hx), h2⟩
    · rintro w' ⟨hk, hb'⟩
      have hd' : Kept [] w' w'.drew := (Kept.refl [] w').drew
      refine (read_none b d (n - l.length) (m - l.length) _ w'.drew (hb'.kept hd' (by simp) (by simp)) (by omega)).mono fun e w2 h => ?_
      obtain ⟨rfl, rfl⟩ := h
      exact ⟨rfl, hk.trans (hd'.mono (by simp)) (fun x hx => .inl hx), hb'.kept hd' (by simp) (by simp)⟩

set_option maxHeartbeats 400000 in
theorem readBytes_short {w : World} {b d : Nat} {l : List UInt8} (hb : Buf w b d l) (hbd : b ≠ d) (n : Nat) (hn : n ≤ 65536) (hl : l.length < n) (hd : d < w.heap.size) :
    Calls Tryz.prog 148 #[.iface 111 (.pointer (some ⟨b, 0, none⟩)), .int .i64 (n : Int)] w fun e w' =>
      ∃ v, Err v ∧ e = .returned (.tuple #[.slice none 0 0, v]) ∧ Kept [b] w w' ∧ HasB w' b := by
  have hbw : b < w.heap.size := by obtain ⟨_, _, h1, _⟩ := hb; exact h1.lt
  have h0 : 0 < n := by omega
  have hmk := make_u8 0 n (Nat.zero_le _) (by omega)
  simp only [Int.natCast_zero] at hmk
  have hn0 : ¬ ((n : Int) < 0) := by omega
  have hlt : (0 : Int) < n := by omega
  have hn2 : (n : Int) ≤ 65536 := by omega
  have H := Lib.hid hb; have HL := Lib.hid hl; have HB := Lib.hid hbd; have HD := Lib.hid hd; have HW := Lib.hid hbw
  clear hb hl hbd hd hbw
  go_enter Tryz.func148, Tryz.ntmps148
  go_wp2_with (go_at_call 160; refine (min64_le n hn _).mono ?_; rintro e w' ⟨rfl, rfl⟩)
  have hblk : Blk (w.alloc (.cells (Array.replicate n (.int .u8 0)) 5)) w.heap.size (List.replicate n (Value.int .u8 0)).toArray 5 := by
    rw [List.toArray_replicate]; exact Blk.new w _ _
  have hkp : Kept [] w (w.alloc (.cells (Array.replicate n (.int .u8 0)) 5)) := (Kept.refl [] w).alloc _
  generalize w.alloc (.cells (Array.replicate n (Value.int .u8 0)) 5) = wa at hblk hkp ⊢
  have hz := append_zeros_u8 wa 22 w.heap.size n n _ hblk h0 (Nat.le_refl _) (by simp) (by omega)
  rw [show List.replicate n (Value.int .u8 0) ++ (List.replicate n (Value.int .u8 0)).drop n = List.replicate n (Value.int .u8 0) by simp] at hz
  have hself : wa.setRow w.heap.size (List.replicate n (Value.int .u8 0)).toArray = wa := setRow_self wa _ _ _ (0, 0) hblk
  rw [hself] at hz
  have hfull := (H.out.kept hkp (by simp) (by simp)).short HB.out w.heap.size 0 n n _ HL.out (Nat.le_refl _) (by unfold Small; omega) hblk (by simp) (by have := HW.out; omega) (by have := HD.out; omega)
  generalize hg : w.heap.size = g at *
  have HF := Lib.hid hfull; have HZ := Lib.hid hz; have HK := Lib.hid hkp; have HG := Lib.hid hg
  clear hfull hz hkp hblk hself hg hmk
  refine wp_loop_rounds 2 ?_
  rw [rounds_succ]
  go_wp2_with (first
    | (go_at_call 160; refine (min64_le n hn _).mono ?_; rintro e w' ⟨rfl, rfl⟩)
    | (at_builtin; refine Lib.wpList_append_run _ rfl _ _ 22 3 rfl _ _ rfl rfl _ _ HZ.out ?_)
    | (go_at_call 56; refine HF.out.mono ?_; rintro e w' ⟨v, hv, rfl, hG⟩; rcases hv with rfl | rfl))
  all_goals
    go_ret2
    refine ⟨_, ?_, rfl, (HK.out.mono (by simp)).trans hG.1 (fun x hx => by
      simp only [List.mem_cons, List.not_mem_nil, or_false] at hx
      rcases hx with rfl | rfl
      · exact .inl (by simp)
      · exact .inr (Nat.le_of_eq HG.out)), hG.2.has⟩
    first | exact .inl rfl | exact .inr rfl

set_option maxHeartbeats 400000 in
theorem readBytes_zero (r : Value) (w : World) :
    Calls Tryz.prog 148 #[r, .int .i64 0] w fun e w' => e = .returned (.tuple #[.slice (some ⟨w.heap.size, 0, none⟩) 0 0, .nilIface]) ∧ w.alloc (.cells #[] 5) = w' := by
  have hmk := make_u8 0 0 (Nat.zero_le _) (by omega)
  simp only [Int.natCast_zero] at hmk
  have h0 := min64_le 0 (by omega)
  simp only [Int.natCast_zero] at h0
  go_enter Tryz.func148, Tryz.ntmps148
  go_wp2_with (go_at_call 160; refine (h0 _).mono ?_; rintro e w' ⟨rfl, rfl⟩)
  refine wp_loop_rounds 1 ?_
  rw [rounds_succ]
  go_wp2
  go_ret2
  exact ⟨rfl, rfl⟩

end Go.Proofs.YtkcdakohmfodjaaGreat
