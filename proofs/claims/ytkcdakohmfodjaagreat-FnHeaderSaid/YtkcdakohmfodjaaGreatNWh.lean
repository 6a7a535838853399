/-
  Lemmas on the way to the statement of YtkcdakohmfodjaaGreatHeader, joined out of these texts: Wh. No condition.
-/
import Derived.Deep.CutRange
import Derived.Test.YtkcdakohmfodjaaGreatNHfl
import Derived.Test.YtkcdakohmfodjaaGreatNMkh
import Derived.Test.YtkcdakohmfodjaaGreatNWa
namespace Go.Proofs.YtkcdakohmfodjaaGreat
open Go.RowKit
set_option linter.unusedVariables false
set_option linter.unusedSimpArgs false
set_option maxHeartbeats 400000 in
theorem hasprop_any (p : HP) (k : Nat) (hk : k < 14) (m : Int) (hm : m = ((2 ^ (15 - k) : Nat) : Int)) (w : World) :
    Calls Tryz.prog 143 #[.int .u16 ((p.flags 14 : Nat) : Int), .int .i64 m] w fun e w' => e = .returned (.bool (p.has k)) ∧ w = w' := by
  have hb := flag_and p k hk
  rw [← hm] at hb
  have hpos : (0 : Int) < m := by rw [hm]; exact_mod_cast Nat.pow_pos (by decide)
  have hlt := (p.flags_lt 14 (by omega)).2
  clear hm
  generalize p.flags 14 = F at *
  have hw64 : wrap64 (F : Int) = F := by unfold wrap64; omega
  clear hlt
  cases hh : p.has k
  · rw [hh] at hb
    simp only [Bool.false_eq_true, if_false] at hb
    go_enter Tryz.func143, Tryz.ntmps143
    go_wp2
    go_ret
    exact ⟨rfl, rfl⟩
  · rw [hh] at hb
    simp only [if_true] at hb
    have hd : decide ((0 : Int) < m) = true := by simpa using hpos
    go_enter Tryz.func143, Tryz.ntmps143
    go_wp2
    go_ret
    exact ⟨rfl, rfl⟩
set_option maxHeartbeats 400000 in
theorem iszero_any (m : Int) (b : Bool) (hb : (m == 0) = b) (w : World) :
    Calls Tryz.prog 69 #[.agg #[.int .u64 0, .int .i64 m, .pointer none]] w fun e w' => e = .returned (.bool b) ∧ Kept [] w w' := by
  cases b
  all_goals
    go_enter Tryz.func69, Tryz.ntmps69
    go_wp2
    go_ret
    exact ⟨rfl, (Kept.refl [] w).alloc _⟩
/-- The payload's buffer, new in w's next world, holds L. -/
structure PayInv (w wx : World) (bs : List Nat) (L : List UInt8) : Prop where
  wr : Wr TB wx w.heap.size bs L
  own : ∀ b ∈ bs, w.heap.size < b
  kept : Kept [] w wx
theorem PayInv.step {w wx wy : World} {bs bs' : List Nat} {L m : List UInt8} (h : PayInv w wx bs L) (h1 : Wr TB wy w.heap.size bs' (L ++ m)) (h2 : Adv w.heap.size bs bs' wx wy) : PayInv w wy bs' (L ++ m) := by
  have hs := h.wr.lt
  refine ⟨h1, fun b hb => ?_, h.kept.trans h2.kept (fun x hx => .inr ?_)⟩
  · rcases h2.own b hb with h3 | h3
    · exact h.own b h3
    · omega
  · rcases List.mem_cons.1 hx with rfl | hx
    · exact Nat.le_refl _
    · have := h.own x hx; omega
theorem PayInv.kept_r {w wx wy : World} {bs : List Nat} {L : List UInt8} (h : PayInv w wx bs L) (hk : Kept [] wx wy) : PayInv w wy bs L := ⟨h.wr.kept hk (by simp) (by simp), h.own, h.kept.trans hk (by simp)⟩
theorem HP.okText {p : HP} (h : properP p = true) (k : Nat) (hk : k < 14) (h2 : k ≠ 2) (h3 : k ≠ 3) (h4 : k ≠ 4) (h9 : k ≠ 9) (h13 : k ≠ 13) : p.has k = decide (p.txt k ≠ []) ∧ (p.txt k).length ≤ 255 := by
  have := proper_at h k hk
  unfold HP.okAt at this
  rw [if_neg h2, if_neg h3, if_neg h4, if_neg h9, if_neg h13] at this
  simp only [Bool.and_eq_true, beq_iff_eq, decide_eq_true_eq] at this
  exact this
theorem HP.okMode {p : HP} (h : properP p = true) : p.has 3 = decide (0 < p.mode) := by
  have := proper_at h 3 (by decide); unfold HP.okAt at this; simpa using this
theorem HP.okPrio {p : HP} (h : properP p = true) : p.has 4 = decide (0 < p.prio) := by
  have := proper_at h 4 (by decide); unfold HP.okAt at this; simpa using this
theorem HP.okTime {p : HP} (h : properP p = true) : p.has 9 = decide (0 < p.time) := by
  have := proper_at h 9 (by decide); unfold HP.okAt at this; simpa using this
theorem HP.okHdr {p : HP} (h : properP p = true) : p.has 2 = decide (p.hdr ≠ []) := by
  have := proper_at h 2 (by decide); unfold HP.okAt at this; simpa using this
theorem HP.ok13 {p : HP} (h : properP p = true) : p.has 13 = false := by
  have := proper_at h 13 (by decide); unfold HP.okAt at this; simp at this; exact this.1
theorem HP.held_test {p : HP} (h : properP p = true) (k : Nat) (hk : k < 14) (h2 : k ≠ 2) (h3 : k ≠ 3) (h4 : k ≠ 4) (h9 : k ≠ 9) (h13 : k ≠ 13) : (!(p.heldT k).isEmpty) = p.has k := by
  have hk := (HP.okText h k hk h2 h3 h4 h9 h13).1
  unfold HP.heldT
  cases hh : p.has k
  · simp
  · rw [hh] at hk
    have : p.txt k ≠ [] := by simpa using hk.symm
    simp [h13, this]
theorem HP.held_has {p : HP} {k : Nat} (h : p.has k = true) (h13 : k ≠ 13) : p.heldT k = p.txt k := by
  unfold HP.heldT; rw [if_pos ⟨h13, h⟩]
theorem HP.moment_zero {p : HP} (h : properP p = true) : (p.moment == 0) = !p.has 9 := by
  unfold HP.moment
  cases hh : p.has 9
  · simp
  · have h2 := HP.okTime h
    have h3 := proper_fit h
    rw [hh] at h2
    have : 0 < p.time := by simpa using h2.symm
    simp
    omega
theorem HP.items_no {p : HP} {k : Nat} (h : p.has k = false) : p.items (k + 1) = p.items k := by
  show p.items k ++ p.item k = _
  unfold HP.item; rw [h]; simp
theorem HP.items_text {p : HP} {k : Nat} (h : p.has k = true) (h2 : k ≠ 2) (h3 : k ≠ 3) (h4 : k ≠ 4) (h9 : k ≠ 9) : p.items (k + 1) = p.items k ++ (Lib.beBytes 1 (p.txt k).length ++ p.txt k) := by
  show p.items k ++ p.item k = _
  unfold HP.item; rw [h, if_neg h2, if_neg h3, if_neg h4, if_neg h9]; rfl
theorem HP.items_2 {p : HP} (h : p.has 2 = true) : p.items 3 = p.items 2 ++ encT p.hdr := by
  show p.items 2 ++ p.item 2 = _
  unfold HP.item; rw [h]; rfl
theorem HP.items_3 {p : HP} (h : p.has 3 = true) (m : Nat) (hm : p.mode = (m : Int)) : p.items 4 = p.items 3 ++ Lib.beBytes 1 m := by
  show p.items 3 ++ p.item 3 = _
  unfold HP.item; rw [h, hm]; rfl
theorem HP.items_4 {p : HP} (h : p.has 4 = true) (m : Nat) (hm : p.prio = (m : Int)) : p.items 5 = p.items 4 ++ Lib.beBytes 1 m := by
  show p.items 4 ++ p.item 4 = _
  unfold HP.item; rw [h, hm]; rfl
theorem HP.items_9 {p : HP} (h : p.has 9 = true) (m : Nat) (hm : p.time = (m : Int)) : p.items 10 = p.items 9 ++ Lib.beBytes 8 m := by
  show p.items 9 ++ p.item 9 = _
  unfold HP.item; rw [h, hm]; rfl
theorem HP.flags_no {p : HP} {k : Nat} (h : p.has k = false) : p.flags (k + 1) = p.flags k := by
  show p.flags k + (if p.has k then 2 ^ (15 - k) else 0) = _
  rw [h]; rfl
theorem HP.flags_yes {p : HP} {k : Nat} (h : p.has k = true) (hk : k < 14) : Go.bits .or .u16 ((p.flags k : Nat) : Int) ((2 ^ (15 - k) : Nat) : Int) = ((p.flags (k + 1) : Nat) : Int) := by
  rw [flag_or16 p k hk]
  show _ = ((p.flags k + (if p.has k then 2 ^ (15 - k) else 0) : Nat) : Int)
  rw [h]; rfl
set_option maxHeartbeats 8000000 in
set_option maxRecDepth 100000 in
theorem hwrite_any (B : Nat → Prop) (p : HP) (hp : properP p = true) (hwf : WfP p) (f q : Nat) (bs : List Nat) (c cl sz : Nat) (hc : c ≤ 65535) (hcl : cl < 65536) (hsz : sz < 18446744073709551616) (hd : Value) (w : World) (hw : Wr TB w q bs [])
    (hrow : Blk w f (hfOf c cl sz p hd) 103) (hhd : HdG B w p hd) (hBq : ∀ b, B b → b ∉ q :: bs) (hfq : f ∉ q :: bs) :
    Calls Tryz.prog 205 #[.pointer (some ⟨f, 0, none⟩), .iface 111 (.pointer (some ⟨q, 0, none⟩))] w fun e w' => e = .returned .nilIface ∧ ∃ bs', Wr TB w' q bs' (frameB 2 c (headerB cl sz p)) ∧ Adv q bs bs' w w' := by
  obtain ⟨wa, hwa⟩ : ∃ wa, wa = w.alloc (.cells #[.slice none 0 0] TB) := ⟨_, rfl⟩
  have hpay : PayInv w wa [] [] := by rw [hwa]; exact ⟨⟨_, Blk.new w _ _, World.ownsRow_nil _ _ _ _, rfl, by simp⟩, by simp, (Kept.refl [] w).alloc _⟩
  have hfit := proper_fit hp
  have hat := proper_at hp
  have hil := HP.items_len hp
  have H := Lib.hid (And.intro hp (And.intro hwf (And.intro hw (And.intro hrow (And.intro hhd (And.intro hBq (And.intro hfq (And.intro hfit (And.intro hat hil)))))))))
  have HW := Lib.hid hwa
  have hcells := fun (W : World) (hk : Kept [] w W) (i : Nat) => (hrow.kept hk (by simp)).cell i
  have HC := Lib.hid hcells
  have HP0 := Lib.hid hpay
  have hx1 := wfix_u16 w.heap.size [] [] cl wa hpay.wr (by omega) (by simp)
  have c1 : wa.cell? ⟨f, 1, none⟩ = some (.int .u16 (cl : Int)) := hcells wa hpay.kept 1
  have HX1 := Lib.hid hx1
  clear hp hwf hw hrow hhd hBq hfq hfit hat hil hwa hcells hpay hx1
  go_enter Tryz.func205, Tryz.ntmps205
  go_upto_region 2 with fail
  rw [← HW.out]
  go_upto_region 4 with (go_at_call 206; (with_reducible refine HX1.out.mono ?_); rintro e w1 ⟨rfl, b1, h1, k1⟩; have hy := HP0.out.step h1 k1; have HP1 := Lib.hid hy; clear h1 k1 hy)
  have c2 : w1.cell? ⟨f, 2, none⟩ = some (.int .u16 0) := HC.out w1 HP1.out.kept 2
  have hx2 : Calls Tryz.prog 206 #[.iface 111 (.pointer (some ⟨w.heap.size, 0, none⟩)), .iface 84 (.int .u16 0)] w1 fun e w' => e = .returned .nilIface ∧ Wrote w.heap.size b1 _ (Lib.beBytes 2 0) w1 w' := wfix_u16 w.heap.size b1 _ 0 w1 HP1.out.wr (by omega) (by simp [Lib.beBytes_length])
  have HX2 := Lib.hid hx2; clear hx2
  go_upto_region 6 with (go_at_call 206; (with_reducible refine HX2.out.mono ?_); rintro e w2 ⟨rfl, b2, h2, k2⟩; have hy := HP1.out.step h2 k2; have HP2 := Lib.hid hy; clear h2 k2 hy)
  have c3 : w2.cell? ⟨f, 3, none⟩ = some (.int .u64 (sz : Int)) := HC.out w2 HP2.out.kept 3
  have HX3 := Lib.hid (wfix_u64 w.heap.size b2 _ sz w2 HP2.out.wr hsz (by simp [Lib.beBytes_length]))
  go_upto_region 8 with (go_at_call 206; (with_reducible refine HX3.out.mono ?_); rintro e w3 ⟨rfl, b3, h3, k3⟩; have hy := HP2.out.step h3 k3; have HP3 := Lib.hid hy; clear h3 k3 hy)
  obtain ⟨L3, hL3⟩ : ∃ L3, L3 = [] ++ Lib.beBytes 2 cl ++ Lib.beBytes 2 0 ++ Lib.beBytes 8 sz := ⟨_, rfl⟩
  have hp3 := HP3.out
  rw [← hL3] at hp3
  have KW := Lib.hid hp3; have HL3 := Lib.hid hL3; clear hp3 hL3 HP3 HP2 HP1 HP0 HX1 HX2 HX3 c1 c2 c3
  have HF0 := Lib.hid (show (0 : Nat) = p.flags 0 from rfl)
  have ck : w3.cell? ⟨f, 4, none⟩ = some (.string (bstr (p.heldT 0))) := HC.out w3 KW.out.kept 4
  go_upto_if 39 with fail
  go_cut [6] from 34 to 41 (fun s6 wx => ∃ F : Nat, s6 = .int .u16 (F : Int) ∧ Hid (F = p.flags 1 ∧ PayInv w wx b3 L3))
  case first =>
    rw [HP.held_test H.out.1 0 (by decide) (by decide) (by decide) (by decide) (by decide) (by decide)]
    cases hh : p.has 0
    · have HH := Lib.hid hh; clear hh
      go_wp2
      go_meet
      case rel => exact ⟨0, rfl, Lib.hid ⟨by rw [HP.flags_no HH.out]; exact HF0.out, KW.out⟩⟩
    · have HH := Lib.hid hh; clear hh
      go_wp2
      go_meet
      case rel => exact ⟨p.flags 1, by rw [← HP.flags_yes HH.out (by decide), ← HF0.out]; rfl, Lib.hid ⟨rfl, KW.out⟩⟩
  case rest =>
    obtain ⟨F, rfl, HK⟩ := hcut
    clear KW ck
    rename World => wm0
    have KW := Lib.hid HK.out.2; have HF1 := Lib.hid HK.out.1; clear HK HF0
    have ck : wm0.cell? ⟨f, 5, none⟩ = some (.string (bstr (p.heldT 1))) := HC.out wm0 KW.out.kept 5
    go_upto_if 47 with fail
    go_cut [6] from 42 to 49 (fun s6 wx => ∃ F : Nat, s6 = .int .u16 (F : Int) ∧ Hid (F = p.flags 2 ∧ PayInv w wx b3 L3))
    case first =>
      rw [HP.held_test H.out.1 1 (by decide) (by decide) (by decide) (by decide) (by decide) (by decide)]
      cases hh : p.has 1
      · have HH := Lib.hid hh; clear hh
        go_wp2
        go_meet
        case rel => exact ⟨F, rfl, Lib.hid ⟨by rw [HP.flags_no HH.out]; exact HF1.out, KW.out⟩⟩
      · have HH := Lib.hid hh; clear hh
        go_wp2
        go_meet
        case rel => exact ⟨p.flags 2, by rw [← HP.flags_yes HH.out (by decide), ← HF1.out]; rfl, Lib.hid ⟨rfl, KW.out⟩⟩
    case rest =>
      obtain ⟨F, rfl, HK⟩ := hcut
      clear KW ck
      rename World => wm1
      have KW := Lib.hid HK.out.2; have HF2 := Lib.hid HK.out.1; clear HK HF1
      have ck : wm1.cell? ⟨f, 6, none⟩ = some hd := HC.out wm1 KW.out.kept 6
      go_upto_region 13 with fail
      go_cut [56] from 50 to 58 (fun s56 wx => s56 = .bool (p.has 2) ∧ Hid (PayInv w wx b3 L3))
      case first =>
        rcases H.out.2.2.2.2.1 with ⟨h2, rfl⟩ | ⟨h2, b, es, rfl, hb, hm, hg⟩
        · have HH := Lib.hid h2; clear h2
          go_wp2
          go_meet
          case rel => exact ⟨by rw [HH.out], Lib.hid KW.out⟩
        · have hne : p.hdr ≠ [] := by have := HP.okHdr H.out.1; rw [h2] at this; simpa using this.symm
          have hel : es.length = p.hdr.length := GF.len _ _ hg
          have HPS := Lib.hid (show 0 < es.length by have := List.length_pos_iff.2 hne; omega)
          have hln := len_map (hm.kept KW.out.kept (by simp))
          have HH := Lib.hid h2; clear h2 hg hm hel hne
          go_wp2
          go_meet
          case rel => exact ⟨by rw [HH.out, decide_eq_true HPS.out], Lib.hid KW.out⟩
      case rest =>
        obtain ⟨rfl, HK⟩ := hcut
        clear KW ck
        rename World => wl
        have KW := Lib.hid HK.out; clear HK
        go_upto_if 56 with fail
        go_cut [6] from 50 to 58 (fun s6 wx => ∃ F : Nat, s6 = .int .u16 (F : Int) ∧ Hid (F = p.flags 3 ∧ PayInv w wx b3 L3))
        case first =>
          cases hh : p.has 2
          · have HH := Lib.hid hh; clear hh
            go_wp2
            go_meet
            case rel => exact ⟨F, rfl, Lib.hid ⟨by rw [HP.flags_no HH.out]; exact HF2.out, KW.out⟩⟩
          · have HH := Lib.hid hh; clear hh
            go_wp2
            go_meet
            case rel => exact ⟨p.flags 3, by rw [← HP.flags_yes HH.out (by decide), ← HF2.out]; rfl, Lib.hid ⟨rfl, KW.out⟩⟩
        case rest =>
          obtain ⟨F, rfl, HK⟩ := hcut
          clear KW
          rename World => wm2
          have KW := Lib.hid HK.out.2; have HF3 := Lib.hid HK.out.1; clear HK HF2
          have ck : wm2.cell? ⟨f, 7, none⟩ = some (.int .u8 p.mode) := HC.out wm2 KW.out.kept 7
          go_upto_if 64 with fail
          go_cut [6] from 59 to 66 (fun s6 wx => ∃ F : Nat, s6 = .int .u16 (F : Int) ∧ Hid (F = p.flags 4 ∧ PayInv w wx b3 L3))
          case first =>
            rw [← HP.okMode H.out.1]
            cases hh : p.has 3
            · have HH := Lib.hid hh; clear hh
              go_wp2
              go_meet
              case rel => exact ⟨F, rfl, Lib.hid ⟨by rw [HP.flags_no HH.out]; exact HF3.out, KW.out⟩⟩
            · have HH := Lib.hid hh; clear hh
              go_wp2
              go_meet
              case rel => exact ⟨p.flags 4, by rw [← HP.flags_yes HH.out (by decide), ← HF3.out]; rfl, Lib.hid ⟨rfl, KW.out⟩⟩
          case rest =>
            obtain ⟨F, rfl, HK⟩ := hcut
            clear KW ck
            rename World => wm3
            have KW := Lib.hid HK.out.2; have HF4 := Lib.hid HK.out.1; clear HK HF3
            have ck : wm3.cell? ⟨f, 8, none⟩ = some (.int .u8 p.prio) := HC.out wm3 KW.out.kept 8
            go_upto_if 72 with fail
            go_cut [6] from 67 to 74 (fun s6 wx => ∃ F : Nat, s6 = .int .u16 (F : Int) ∧ Hid (F = p.flags 5 ∧ PayInv w wx b3 L3))
            case first =>
              rw [← HP.okPrio H.out.1]
              cases hh : p.has 4
              · have HH := Lib.hid hh; clear hh
                go_wp2
                go_meet
                case rel => exact ⟨F, rfl, Lib.hid ⟨by rw [HP.flags_no HH.out]; exact HF4.out, KW.out⟩⟩
              · have HH := Lib.hid hh; clear hh
                go_wp2
                go_meet
                case rel => exact ⟨p.flags 5, by rw [← HP.flags_yes HH.out (by decide), ← HF4.out]; rfl, Lib.hid ⟨rfl, KW.out⟩⟩
            case rest =>
              obtain ⟨F, rfl, HK⟩ := hcut
              clear KW ck
              rename World => wm4
              have KW := Lib.hid HK.out.2; have HF5 := Lib.hid HK.out.1; clear HK HF4
              have ck : wm4.cell? ⟨f, 9, none⟩ = some (.string (bstr (p.heldT 5))) := HC.out wm4 KW.out.kept 9
              go_upto_if 80 with fail
              go_cut [6] from 75 to 82 (fun s6 wx => ∃ F : Nat, s6 = .int .u16 (F : Int) ∧ Hid (F = p.flags 6 ∧ PayInv w wx b3 L3))
              case first =>
                rw [HP.held_test H.out.1 5 (by decide) (by decide) (by decide) (by decide) (by decide) (by decide)]
                cases hh : p.has 5
                · have HH := Lib.hid hh; clear hh
                  go_wp2
                  go_meet
                  case rel => exact ⟨F, rfl, Lib.hid ⟨by rw [HP.flags_no HH.out]; exact HF5.out, KW.out⟩⟩
                · have HH := Lib.hid hh; clear hh
                  go_wp2
                  go_meet
                  case rel => exact ⟨p.flags 6, by rw [← HP.flags_yes HH.out (by decide), ← HF5.out]; rfl, Lib.hid ⟨rfl, KW.out⟩⟩
              case rest =>
                obtain ⟨F, rfl, HK⟩ := hcut
                clear KW ck
                rename World => wm5
                have KW := Lib.hid HK.out.2; have HF6 := Lib.hid HK.out.1; clear HK HF5
                have ck : wm5.cell? ⟨f, 10, none⟩ = some (.string (bstr (p.heldT 6))) := HC.out wm5 KW.out.kept 10
                go_upto_if 88 with fail
                go_cut [6] from 83 to 90 (fun s6 wx => ∃ F : Nat, s6 = .int .u16 (F : Int) ∧ Hid (F = p.flags 7 ∧ PayInv w wx b3 L3))
                case first =>
                  rw [HP.held_test H.out.1 6 (by decide) (by decide) (by decide) (by decide) (by decide) (by decide)]
                  cases hh : p.has 6
                  · have HH := Lib.hid hh; clear hh
                    go_wp2
                    go_meet
                    case rel => exact ⟨F, rfl, Lib.hid ⟨by rw [HP.flags_no HH.out]; exact HF6.out, KW.out⟩⟩
                  · have HH := Lib.hid hh; clear hh
                    go_wp2
                    go_meet
                    case rel => exact ⟨p.flags 7, by rw [← HP.flags_yes HH.out (by decide), ← HF6.out]; rfl, Lib.hid ⟨rfl, KW.out⟩⟩
                case rest =>
                  obtain ⟨F, rfl, HK⟩ := hcut
                  clear KW ck
                  rename World => wm6
                  have KW := Lib.hid HK.out.2; have HF7 := Lib.hid HK.out.1; clear HK HF6
                  have ck : wm6.cell? ⟨f, 11, none⟩ = some (.string (bstr (p.heldT 7))) := HC.out wm6 KW.out.kept 11
                  go_upto_if 96 with fail
                  go_cut [6] from 91 to 98 (fun s6 wx => ∃ F : Nat, s6 = .int .u16 (F : Int) ∧ Hid (F = p.flags 8 ∧ PayInv w wx b3 L3))
                  case first =>
                    rw [HP.held_test H.out.1 7 (by decide) (by decide) (by decide) (by decide) (by decide) (by decide)]
                    cases hh : p.has 7
                    · have HH := Lib.hid hh; clear hh
                      go_wp2
                      go_meet
                      case rel => exact ⟨F, rfl, Lib.hid ⟨by rw [HP.flags_no HH.out]; exact HF7.out, KW.out⟩⟩
                    · have HH := Lib.hid hh; clear hh
                      go_wp2
                      go_meet
                      case rel => exact ⟨p.flags 8, by rw [← HP.flags_yes HH.out (by decide), ← HF7.out]; rfl, Lib.hid ⟨rfl, KW.out⟩⟩
                  case rest =>
                    obtain ⟨F, rfl, HK⟩ := hcut
                    clear KW ck
                    rename World => wm7
                    have KW := Lib.hid HK.out.2; have HF8 := Lib.hid HK.out.1; clear HK HF7
                    have ck : wm7.cell? ⟨f, 12, none⟩ = some (.string (bstr (p.heldT 8))) := HC.out wm7 KW.out.kept 12
                    go_upto_if 104 with fail
                    go_cut [6] from 99 to 106 (fun s6 wx => ∃ F : Nat, s6 = .int .u16 (F : Int) ∧ Hid (F = p.flags 9 ∧ PayInv w wx b3 L3))
                    case first =>
                      rw [HP.held_test H.out.1 8 (by decide) (by decide) (by decide) (by decide) (by decide) (by decide)]
                      cases hh : p.has 8
                      · have HH := Lib.hid hh; clear hh
                        go_wp2
                        go_meet
                        case rel => exact ⟨F, rfl, Lib.hid ⟨by rw [HP.flags_no HH.out]; exact HF8.out, KW.out⟩⟩
                      · have HH := Lib.hid hh; clear hh
                        go_wp2
                        go_meet
                        case rel => exact ⟨p.flags 9, by rw [← HP.flags_yes HH.out (by decide), ← HF8.out]; rfl, Lib.hid ⟨rfl, KW.out⟩⟩
                    case rest =>
                      obtain ⟨F, rfl, HK⟩ := hcut
                      clear KW ck
                      rename World => wm8
                      have KW := Lib.hid HK.out.2; have HF9 := Lib.hid HK.out.1; clear HK HF8
                      have ck : wm8.cell? ⟨f, 13, none⟩ = some (.int .u64 0) := HC.out wm8 KW.out.kept 13
                      have ck1 : wm8.cell? ⟨f, 14, none⟩ = some (.int .i64 p.moment) := HC.out wm8 KW.out.kept 14
                      have ck2 : wm8.cell? ⟨f, 15, none⟩ = some (.pointer none) := HC.out wm8 KW.out.kept 15
                      have HIZ := Lib.hid (iszero_any p.moment (!p.has 9) (HP.moment_zero H.out.1) wm8)
                      go_upto_if 113 with (go_at_call 69; (with_reducible refine HIZ.out.mono ?_); rintro e wz ⟨rfl, hkz⟩; have hkz2 := KW.out.kept_r hkz; have KZ := Lib.hid hkz2; clear hkz hkz2)
                      go_cut [6] from 107 to 115 (fun s6 wx => ∃ F : Nat, s6 = .int .u16 (F : Int) ∧ Hid (F = p.flags 10 ∧ PayInv w wx b3 L3))
                      case first =>
                        cases hh : p.has 9
                        · have HH := Lib.hid hh; clear hh
                          go_wp2
                          go_meet
                          case rel => exact ⟨F, rfl, Lib.hid ⟨by rw [HP.flags_no HH.out]; exact HF9.out, KZ.out⟩⟩
                        · have HH := Lib.hid hh; clear hh
                          go_wp2
                          go_meet
                          case rel => exact ⟨p.flags 10, by rw [← HP.flags_yes HH.out (by decide), ← HF9.out]; rfl, Lib.hid ⟨rfl, KZ.out⟩⟩
                      case rest =>
                        obtain ⟨F, rfl, HK⟩ := hcut
                        clear KW KZ HIZ ck1 ck2 ck
                        rename World => wm9
                        have KW := Lib.hid HK.out.2; have HF10 := Lib.hid HK.out.1; clear HK HF9
                        have ck : wm9.cell? ⟨f, 16, none⟩ = some (.string (bstr (p.heldT 10))) := HC.out wm9 KW.out.kept 16
                        go_upto_if 121 with fail
                        go_cut [6] from 116 to 123 (fun s6 wx => ∃ F : Nat, s6 = .int .u16 (F : Int) ∧ Hid (F = p.flags 11 ∧ PayInv w wx b3 L3))
                        case first =>
                          rw [HP.held_test H.out.1 10 (by decide) (by decide) (by decide) (by decide) (by decide) (by decide)]
                          cases hh : p.has 10
                          · have HH := Lib.hid hh; clear hh
                            go_wp2
                            go_meet
                            case rel => exact ⟨F, rfl, Lib.hid ⟨by rw [HP.flags_no HH.out]; exact HF10.out, KW.out⟩⟩
                          · have HH := Lib.hid hh; clear hh
                            go_wp2
                            go_meet
                            case rel => exact ⟨p.flags 11, by rw [← HP.flags_yes HH.out (by decide), ← HF10.out]; rfl, Lib.hid ⟨rfl, KW.out⟩⟩
                        case rest =>
                          obtain ⟨F, rfl, HK⟩ := hcut
                          clear KW ck
                          rename World => wm10
                          have KW := Lib.hid HK.out.2; have HF11 := Lib.hid HK.out.1; clear HK HF10
                          have ck : wm10.cell? ⟨f, 17, none⟩ = some (.string (bstr (p.heldT 11))) := HC.out wm10 KW.out.kept 17
                          go_upto_if 129 with fail
                          go_cut [6] from 124 to 131 (fun s6 wx => ∃ F : Nat, s6 = .int .u16 (F : Int) ∧ Hid (F = p.flags 12 ∧ PayInv w wx b3 L3))
                          case first =>
                            rw [HP.held_test H.out.1 11 (by decide) (by decide) (by decide) (by decide) (by decide) (by decide)]
                            cases hh : p.has 11
                            · have HH := Lib.hid hh; clear hh
                              go_wp2
                              go_meet
                              case rel => exact ⟨F, rfl, Lib.hid ⟨by rw [HP.flags_no HH.out]; exact HF11.out, KW.out⟩⟩
                            · have HH := Lib.hid hh; clear hh
                              go_wp2
                              go_meet
                              case rel => exact ⟨p.flags 12, by rw [← HP.flags_yes HH.out (by decide), ← HF11.out]; rfl, Lib.hid ⟨rfl, KW.out⟩⟩
                          case rest =>
                            obtain ⟨F, rfl, HK⟩ := hcut
                            clear KW ck
                            rename World => wm11
                            have KW := Lib.hid HK.out.2; have HF12 := Lib.hid HK.out.1; clear HK HF11
                            have ck : wm11.cell? ⟨f, 18, none⟩ = some (.string (bstr (p.heldT 12))) := HC.out wm11 KW.out.kept 18
                            go_upto_if 137 with fail
                            go_cut [6] from 132 to 139 (fun s6 wx => ∃ F : Nat, s6 = .int .u16 (F : Int) ∧ Hid (F = p.flags 13 ∧ PayInv w wx b3 L3))
                            case first =>
                              rw [HP.held_test H.out.1 12 (by decide) (by decide) (by decide) (by decide) (by decide) (by decide)]
                              cases hh : p.has 12
                              · have HH := Lib.hid hh; clear hh
                                go_wp2
                                go_meet
                                case rel => exact ⟨F, rfl, Lib.hid ⟨by rw [HP.flags_no HH.out]; exact HF12.out, KW.out⟩⟩
                              · have HH := Lib.hid hh; clear hh
                                go_wp2
                                go_meet
                                case rel => exact ⟨p.flags 13, by rw [← HP.flags_yes HH.out (by decide), ← HF12.out]; rfl, Lib.hid ⟨rfl, KW.out⟩⟩
                            case rest =>
                              obtain ⟨F, rfl, HK⟩ := hcut
                              clear KW ck
                              rename World => wm12
                              have KW := Lib.hid HK.out.2; have HF13 := Lib.hid HK.out.1; clear HK HF12
                              have hF : F = p.flags 14 := by rw [HF13.out]; exact (HP.flags_no (HP.ok13 H.out.1)).symm
                              subst hF
                              have hl3 : L3.length = 12 := by rw [HL3.out]; simp [Lib.beBytes_length]
                              have HX4 := Lib.hid (wfix_u16 w.heap.size b3 L3 (p.flags 14) wm12 KW.out.wr (p.flags_lt 14 (by omega)).2 (by omega))
                              go_upto_region 37 with (go_at_call 206; (with_reducible refine HX4.out.mono ?_); rintro e w4 ⟨rfl, b4, h4, k4⟩; have hy := KW.out.step h4 k4; have HP4 := Lib.hid hy; clear h4 k4 hy)
                              obtain ⟨L4, hL4⟩ : ∃ L4, L4 = L3 ++ Lib.beBytes 2 (p.flags 14) := ⟨_, rfl⟩
                              have hp4 : PayInv w w4 b4 (L4 ++ p.items 0) := by have := HP4.out; rw [← hL4] at this; rw [show p.items 0 = [] from rfl, List.append_nil]; exact this
                              have hbl : ∀ k, k ≤ 14 → (L4 ++ p.items k).length ≤ 1000000 := fun k hk => by have h1 := H.out.2.2.2.2.2.2.2.2.2 k hk; rw [List.length_append, hL4, List.length_append, hl3, Lib.beBytes_length]; omega
                              obtain ⟨mo, hmo⟩ : ∃ n : Nat, p.mode = (n : Int) := ⟨p.mode.toNat, by have := H.out.2.2.2.2.2.2.2.1; omega⟩
                              obtain ⟨pr, hpr⟩ : ∃ n : Nat, p.prio = (n : Int) := ⟨p.prio.toNat, by have := H.out.2.2.2.2.2.2.2.1; omega⟩
                              obtain ⟨ti, hti⟩ : ∃ n : Nat, p.time = (n : Int) := ⟨p.time.toNat, by have := H.out.2.2.2.2.2.2.2.1; omega⟩
                              have KP := Lib.hid hp4; have HL4 := Lib.hid hL4; have HB := Lib.hid hbl; have HN := Lib.hid (And.intro hmo (And.intro hpr hti))
                              clear hp4 hL4 hbl hmo hpr hti hl3 HP4 HX4 KW HF13
                              go_upto_if 147 with (go_at_call 143; (with_reducible refine (hasprop_any p 0 (by decide) 32768 (by decide) _).mono ?_); rintro e wh ⟨rfl, rfl⟩)
                              go_cut [] from 146 to 156 (fun wx => ∃ b2 : List Nat, Hid (PayInv w wx b2 (L4 ++ p.items 1)))
                              case first =>
                                cases hh : p.has 0
                                · have HH := Lib.hid hh; clear hh
                                  go_wp2
                                  go_meet
                                  case rel => exact ⟨b4, Lib.hid (by rw [HP.items_no HH.out]; exact KP.out)⟩
                                · have HH := Lib.hid hh; clear hh
                                  have ck : w4.cell? ⟨f, 4, none⟩ = some (.string (bstr (p.txt 0))) := by rw [← HP.held_has HH.out (by decide)]; exact HC.out w4 KP.out.kept 4
                                  have HX := Lib.hid (wshort_any w.heap.size b4 (L4 ++ p.items 0) (p.txt 0) w4 KP.out.wr (HP.okText H.out.1 0 (by decide) (by decide) (by decide) (by decide) (by decide) (by decide)).2 (by have := HB.out 0 (by decide); omega))
                                  go_wp2_with (go_at_call 207; (with_reducible refine HX.out.mono ?_); rintro e wy ⟨rfl, bb, h1, k1⟩; have hy := KP.out.step h1 k1; have HY := Lib.hid hy; clear h1 k1 hy)
                                  go_meet
                                  case rel => exact ⟨bb, Lib.hid (by rw [HP.items_text HH.out (by decide) (by decide) (by decide) (by decide), ← List.append_assoc]; exact HY.out)⟩
                              case rest =>
                                clear KP
                                obtain ⟨bq0, KP⟩ := hcut
                                rename World => wp0
                                go_upto_if 158 with (go_at_call 143; (with_reducible refine (hasprop_any p 1 (by decide) 16384 (by decide) _).mono ?_); rintro e wh ⟨rfl, rfl⟩)
                                go_cut [] from 157 to 167 (fun wx => ∃ b2 : List Nat, Hid (PayInv w wx b2 (L4 ++ p.items 2)))
                                case first =>
                                  cases hh : p.has 1
                                  · have HH := Lib.hid hh; clear hh
                                    go_wp2
                                    go_meet
                                    case rel => exact ⟨bq0, Lib.hid (by rw [HP.items_no HH.out]; exact KP.out)⟩
                                  · have HH := Lib.hid hh; clear hh
                                    have ck : wp0.cell? ⟨f, 5, none⟩ = some (.string (bstr (p.txt 1))) := by rw [← HP.held_has HH.out (by decide)]; exact HC.out wp0 KP.out.kept 5
                                    have HX := Lib.hid (wshort_any w.heap.size bq0 (L4 ++ p.items 1) (p.txt 1) wp0 KP.out.wr (HP.okText H.out.1 1 (by decide) (by decide) (by decide) (by decide) (by decide) (by decide)).2 (by have := HB.out 1 (by decide); omega))
                                    go_wp2_with (go_at_call 207; (with_reducible refine HX.out.mono ?_); rintro e wy ⟨rfl, bb, h1, k1⟩; have hy := KP.out.step h1 k1; have HY := Lib.hid hy; clear h1 k1 hy)
                                    go_meet
                                    case rel => exact ⟨bb, Lib.hid (by rw [HP.items_text HH.out (by decide) (by decide) (by decide) (by decide), ← List.append_assoc]; exact HY.out)⟩
                                case rest =>
                                  clear KP
                                  obtain ⟨bq1, KP⟩ := hcut
                                  rename World => wp1
                                  go_upto_if 169 with (go_at_call 143; (with_reducible refine (hasprop_any p 2 (by decide) 8192 (by decide) _).mono ?_); rintro e wh ⟨rfl, rfl⟩)
                                  go_cut [] from 168 to 178 (fun wx => ∃ b2 : List Nat, Hid (PayInv w wx b2 (L4 ++ p.items 3)))
                                  case first =>
                                    cases hh : p.has 2
                                    · have HH := Lib.hid hh; clear hh
                                      go_wp2
                                      go_meet
                                      case rel => exact ⟨bq1, Lib.hid (by rw [HP.items_no HH.out]; exact KP.out)⟩
                                    · have HH := Lib.hid hh; clear hh
                                      rcases H.out.2.2.2.2.1 with ⟨h2, _⟩ | ⟨h2, b, es, hde, hb, hm, hg⟩
                                      · rw [HH.out] at h2; cases h2
                                      · subst hde
                                        have ck : wp1.cell? ⟨f, 6, none⟩ = some (.map (some b)) := HC.out wp1 KP.out.kept 6
                                        have hfi := (fitsB_iff _).1 H.out.2.2.2.2.2.2.2.1.1
                                        have HX := Lib.hid (ft_all p.hdr none 6 (fun x => B x ∧ x < w.heap.size) wp1 b es w.heap.size bq1 (L4 ++ p.items 2) H.out.2.1.hdr hfi.1 hfi.2 ⟨hb, hm.lt⟩ (hm.kept KP.out.kept (by simp)) (GF.kept KP.out.kept (by simp) _ (GF.mono (fun x hx hl => ⟨hx, hl⟩) _ hg)) (fun x hx => by
                                          simp only [List.mem_cons, not_or]
                                          exact ⟨by omega, fun hm => by have := KP.out.own x hm; omega⟩) KP.out.wr (by have := HB.out 2 (by decide); omega))
                                        clear hfi hb hm hg
                                        go_wp2_with (go_at_call 208; (with_reducible refine HX.out.mono ?_); rintro e wy ⟨rfl, bb, h1, k1⟩; have hy := KP.out.step h1 k1; have HY := Lib.hid hy; clear h1 k1 hy)
                                        go_meet
                                        case rel => exact ⟨bb, Lib.hid (by rw [HP.items_2 HH.out, ← List.append_assoc]; exact HY.out)⟩
                                  case rest =>
                                    clear KP
                                    obtain ⟨bq2, KP⟩ := hcut
                                    rename World => wp2
                                    go_upto_if 180 with (go_at_call 143; (with_reducible refine (hasprop_any p 3 (by decide) 4096 (by decide) _).mono ?_); rintro e wh ⟨rfl, rfl⟩)
                                    go_cut [] from 179 to 190 (fun wx => ∃ b2 : List Nat, Hid (PayInv w wx b2 (L4 ++ p.items 4)))
                                    case first =>
                                      cases hh : p.has 3
                                      · have HH := Lib.hid hh; clear hh
                                        go_wp2
                                        go_meet
                                        case rel => exact ⟨bq2, Lib.hid (by rw [HP.items_no HH.out]; exact KP.out)⟩
                                      · have HH := Lib.hid hh; clear hh
                                        have ck : wp2.cell? ⟨f, 7, none⟩ = some (.int .u8 (mo : Int)) := by rw [← HN.out.1]; exact HC.out wp2 KP.out.kept 7
                                        have HX := Lib.hid (wfix_u8 w.heap.size bq2 (L4 ++ p.items 3) mo wp2 KP.out.wr (by have h1 := HN.out.1; have h2 := H.out.2.2.2.2.2.2.2.1; omega) (by have := HB.out 3 (by decide); omega))
                                        go_wp2_with (go_at_call 206; (with_reducible refine HX.out.mono ?_); rintro e wy ⟨rfl, bb, h1, k1⟩; have hy := KP.out.step h1 k1; have HY := Lib.hid hy; clear h1 k1 hy)
                                        go_meet
                                        case rel => exact ⟨bb, Lib.hid (by rw [HP.items_3 HH.out mo HN.out.1, ← List.append_assoc]; exact HY.out)⟩
                                    case rest =>
                                      clear KP
                                      obtain ⟨bq3, KP⟩ := hcut
                                      rename World => wp3
                                      go_upto_if 192 with (go_at_call 143; (with_reducible refine (hasprop_any p 4 (by decide) 2048 (by decide) _).mono ?_); rintro e wh ⟨rfl, rfl⟩)
                                      go_cut [] from 191 to 202 (fun wx => ∃ b2 : List Nat, Hid (PayInv w wx b2 (L4 ++ p.items 5)))
                                      case first =>
                                        cases hh : p.has 4
                                        · have HH := Lib.hid hh; clear hh
                                          go_wp2
                                          go_meet
                                          case rel => exact ⟨bq3, Lib.hid (by rw [HP.items_no HH.out]; exact KP.out)⟩
                                        · have HH := Lib.hid hh; clear hh
                                          have ck : wp3.cell? ⟨f, 8, none⟩ = some (.int .u8 (pr : Int)) := by rw [← HN.out.2.1]; exact HC.out wp3 KP.out.kept 8
                                          have HX := Lib.hid (wfix_u8 w.heap.size bq3 (L4 ++ p.items 4) pr wp3 KP.out.wr (by have h1 := HN.out.2.1; have h2 := H.out.2.2.2.2.2.2.2.1; omega) (by have := HB.out 4 (by decide); omega))
                                          go_wp2_with (go_at_call 206; (with_reducible refine HX.out.mono ?_); rintro e wy ⟨rfl, bb, h1, k1⟩; have hy := KP.out.step h1 k1; have HY := Lib.hid hy; clear h1 k1 hy)
                                          go_meet
                                          case rel => exact ⟨bb, Lib.hid (by rw [HP.items_4 HH.out pr HN.out.2.1, ← List.append_assoc]; exact HY.out)⟩
                                      case rest =>
                                        clear KP
                                        obtain ⟨bq4, KP⟩ := hcut
                                        rename World => wp4
                                        go_upto_if 204 with (go_at_call 143; (with_reducible refine (hasprop_any p 5 (by decide) 1024 (by decide) _).mono ?_); rintro e wh ⟨rfl, rfl⟩)
                                        go_cut [] from 203 to 213 (fun wx => ∃ b2 : List Nat, Hid (PayInv w wx b2 (L4 ++ p.items 6)))
                                        case first =>
                                          cases hh : p.has 5
                                          · have HH := Lib.hid hh; clear hh
                                            go_wp2
                                            go_meet
                                            case rel => exact ⟨bq4, Lib.hid (by rw [HP.items_no HH.out]; exact KP.out)⟩
                                          · have HH := Lib.hid hh; clear hh
                                            have ck : wp4.cell? ⟨f, 9, none⟩ = some (.string (bstr (p.txt 5))) := by rw [← HP.held_has HH.out (by decide)]; exact HC.out wp4 KP.out.kept 9
                                            have HX := Lib.hid (wshort_any w.heap.size bq4 (L4 ++ p.items 5) (p.txt 5) wp4 KP.out.wr (HP.okText H.out.1 5 (by decide) (by decide) (by decide) (by decide) (by decide) (by decide)).2 (by have := HB.out 5 (by decide); omega))
                                            go_wp2_with (go_at_call 207; (with_reducible refine HX.out.mono ?_); rintro e wy ⟨rfl, bb, h1, k1⟩; have hy := KP.out.step h1 k1; have HY := Lib.hid hy; clear h1 k1 hy)
                                            go_meet
                                            case rel => exact ⟨bb, Lib.hid (by rw [HP.items_text HH.out (by decide) (by decide) (by decide) (by decide), ← List.append_assoc]; exact HY.out)⟩
                                        case rest =>
                                          clear KP
                                          obtain ⟨bq5, KP⟩ := hcut
                                          rename World => wp5
                                          go_upto_if 215 with (go_at_call 143; (with_reducible refine (hasprop_any p 6 (by decide) 512 (by decide) _).mono ?_); rintro e wh ⟨rfl, rfl⟩)
                                          go_cut [] from 214 to 224 (fun wx => ∃ b2 : List Nat, Hid (PayInv w wx b2 (L4 ++ p.items 7)))
                                          case first =>
                                            cases hh : p.has 6
                                            · have HH := Lib.hid hh; clear hh
                                              go_wp2
                                              go_meet
                                              case rel => exact ⟨bq5, Lib.hid (by rw [HP.items_no HH.out]; exact KP.out)⟩
                                            · have HH := Lib.hid hh; clear hh
                                              have ck : wp5.cell? ⟨f, 10, none⟩ = some (.string (bstr (p.txt 6))) := by rw [← HP.held_has HH.out (by decide)]; exact HC.out wp5 KP.out.kept 10
                                              have HX := Lib.hid (wshort_any w.heap.size bq5 (L4 ++ p.items 6) (p.txt 6) wp5 KP.out.wr (HP.okText H.out.1 6 (by decide) (by decide) (by decide) (by decide) (by decide) (by decide)).2 (by have := HB.out 6 (by decide); omega))
                                              go_wp2_with (go_at_call 207; (with_reducible refine HX.out.mono ?_); rintro e wy ⟨rfl, bb, h1, k1⟩; have hy := KP.out.step h1 k1; have HY := Lib.hid hy; clear h1 k1 hy)
                                              go_meet
                                              case rel => exact ⟨bb, Lib.hid (by rw [HP.items_text HH.out (by decide) (by decide) (by decide) (by decide), ← List.append_assoc]; exact HY.out)⟩
                                          case rest =>
                                            clear KP
                                            obtain ⟨bq6, KP⟩ := hcut
                                            rename World => wp6
                                            go_upto_if 226 with (go_at_call 143; (with_reducible refine (hasprop_any p 7 (by decide) 256 (by decide) _).mono ?_); rintro e wh ⟨rfl, rfl⟩)
                                            go_cut [] from 225 to 235 (fun wx => ∃ b2 : List Nat, Hid (PayInv w wx b2 (L4 ++ p.items 8)))
                                            case first =>
                                              cases hh : p.has 7
                                              · have HH := Lib.hid hh; clear hh
                                                go_wp2
                                                go_meet
                                                case rel => exact ⟨bq6, Lib.hid (by rw [HP.items_no HH.out]; exact KP.out)⟩
                                              · have HH := Lib.hid hh; clear hh
                                                have ck : wp6.cell? ⟨f, 11, none⟩ = some (.string (bstr (p.txt 7))) := by rw [← HP.held_has HH.out (by decide)]; exact HC.out wp6 KP.out.kept 11
                                                have HX := Lib.hid (wshort_any w.heap.size bq6 (L4 ++ p.items 7) (p.txt 7) wp6 KP.out.wr (HP.okText H.out.1 7 (by decide) (by decide) (by decide) (by decide) (by decide) (by decide)).2 (by have := HB.out 7 (by decide); omega))
                                                go_wp2_with (go_at_call 207; (with_reducible refine HX.out.mono ?_); rintro e wy ⟨rfl, bb, h1, k1⟩; have hy := KP.out.step h1 k1; have HY := Lib.hid hy; clear h1 k1 hy)
                                                go_meet
                                                case rel => exact ⟨bb, Lib.hid (by rw [HP.items_text HH.out (by decide) (by decide) (by decide) (by decide), ← List.append_assoc]; exact HY.out)⟩
                                            case rest =>
                                              clear KP
                                              obtain ⟨bq7, KP⟩ := hcut
                                              rename World => wp7
                                              go_upto_if 237 with (go_at_call 143; (with_reducible refine (hasprop_any p 8 (by decide) 128 (by decide) _).mono ?_); rintro e wh ⟨rfl, rfl⟩)
                                              go_cut [] from 236 to 246 (fun wx => ∃ b2 : List Nat, Hid (PayInv w wx b2 (L4 ++ p.items 9)))
                                              case first =>
                                                cases hh : p.has 8
                                                · have HH := Lib.hid hh; clear hh
                                                  go_wp2
                                                  go_meet
                                                  case rel => exact ⟨bq7, Lib.hid (by rw [HP.items_no HH.out]; exact KP.out)⟩
                                                · have HH := Lib.hid hh; clear hh
                                                  have ck : wp7.cell? ⟨f, 12, none⟩ = some (.string (bstr (p.txt 8))) := by rw [← HP.held_has HH.out (by decide)]; exact HC.out wp7 KP.out.kept 12
                                                  have HX := Lib.hid (wshort_any w.heap.size bq7 (L4 ++ p.items 8) (p.txt 8) wp7 KP.out.wr (HP.okText H.out.1 8 (by decide) (by decide) (by decide) (by decide) (by decide) (by decide)).2 (by have := HB.out 8 (by decide); omega))
                                                  go_wp2_with (go_at_call 207; (with_reducible refine HX.out.mono ?_); rintro e wy ⟨rfl, bb, h1, k1⟩; have hy := KP.out.step h1 k1; have HY := Lib.hid hy; clear h1 k1 hy)
                                                  go_meet
                                                  case rel => exact ⟨bb, Lib.hid (by rw [HP.items_text HH.out (by decide) (by decide) (by decide) (by decide), ← List.append_assoc]; exact HY.out)⟩
                                              case rest =>
                                                clear KP
                                                obtain ⟨bq8, KP⟩ := hcut
                                                rename World => wp8
                                                go_upto_if 248 with (go_at_call 143; (with_reducible refine (hasprop_any p 9 (by decide) 64 (by decide) _).mono ?_); rintro e wh ⟨rfl, rfl⟩)
                                                go_cut [] from 247 to 260 (fun wx => ∃ b2 : List Nat, Hid (PayInv w wx b2 (L4 ++ p.items 10)))
                                                case first =>
                                                  cases hh : p.has 9
                                                  · have HH := Lib.hid hh; clear hh
                                                    go_wp2
                                                    go_meet
                                                    case rel => exact ⟨bq8, Lib.hid (by rw [HP.items_no HH.out]; exact KP.out)⟩
                                                  · have HH := Lib.hid hh; clear hh
                                                    have ck : wp8.cell? ⟨f, 13, none⟩ = some (.int .u64 0) := HC.out wp8 KP.out.kept 13
                                                    have ck1 : wp8.cell? ⟨f, 14, none⟩ = some (.int .i64 p.moment) := HC.out wp8 KP.out.kept 14
                                                    have ck2 : wp8.cell? ⟨f, 15, none⟩ = some (.pointer none) := HC.out wp8 KP.out.kept 15
                                                    have htb := H.out.2.2.2.2.2.2.2.1
                                                    have e0 : IntKind.u64.wrap (ti : Int) = ti := by rw [IntKind.wrap_u64]; have := HN.out.2.2; omega
                                                    have hmo : p.moment = (ti : Int) + 62135596800 := by unfold HP.moment; rw [HH.out, HN.out.2.2]; rfl
                                                    have hun : Calls Tryz.prog 70 #[.agg #[.int .u64 0, .int .i64 p.moment, .pointer none]] wp8 fun e w' => e = .returned (.int .i64 (ti : Int)) ∧ Kept [] wp8 w' := by rw [hmo]; exact tunix_any (ti : Int) (by omega) (by have := HN.out.2.2; omega) wp8
                                                    have HU := Lib.hid hun
                                                    have HX := Lib.hid (fun (wu : World) (hk : Kept [] wp8 wu) => wfix_u64 w.heap.size bq8 (L4 ++ p.items 9) ti wu (KP.out.wr.kept hk (by simp) (by simp)) (by have := HN.out.2.2; omega) (by have := HB.out 9 (by decide); omega))
                                                    clear htb hmo hun
                                                    go_wp2_with (first
                                                      | (go_at_call 70; (with_reducible refine HU.out.mono ?_); rintro e wu ⟨rfl, hku⟩; have KU := Lib.hid hku; clear hku)
                                                      | (go_at_call 206; (with_reducible refine (HX.out _ KU.out).mono ?_); rintro e wy ⟨rfl, bb, h1, k1⟩; have hy := KP.out.step h1 (Adv.kept_l KU.out k1); have HY := Lib.hid hy; clear h1 k1 hy))
                                                    go_meet
                                                    case rel => exact ⟨bb, Lib.hid (by rw [HP.items_9 HH.out ti HN.out.2.2, ← List.append_assoc]; exact HY.out)⟩
                                                case rest =>
                                                  clear KP
                                                  obtain ⟨bq9, KP⟩ := hcut
                                                  rename World => wp9
                                                  go_upto_if 262 with (go_at_call 143; (with_reducible refine (hasprop_any p 10 (by decide) 32 (by decide) _).mono ?_); rintro e wh ⟨rfl, rfl⟩)
                                                  go_cut [] from 261 to 271 (fun wx => ∃ b2 : List Nat, Hid (PayInv w wx b2 (L4 ++ p.items 11)))
                                                  case first =>
                                                    cases hh : p.has 10
                                                    · have HH := Lib.hid hh; clear hh
                                                      go_wp2
                                                      go_meet
                                                      case rel => exact ⟨bq9, Lib.hid (by rw [HP.items_no HH.out]; exact KP.out)⟩
                                                    · have HH := Lib.hid hh; clear hh
                                                      have ck : wp9.cell? ⟨f, 16, none⟩ = some (.string (bstr (p.txt 10))) := by rw [← HP.held_has HH.out (by decide)]; exact HC.out wp9 KP.out.kept 16
                                                      have HX := Lib.hid (wshort_any w.heap.size bq9 (L4 ++ p.items 10) (p.txt 10) wp9 KP.out.wr (HP.okText H.out.1 10 (by decide) (by decide) (by decide) (by decide) (by decide) (by decide)).2 (by have := HB.out 10 (by decide); omega))
                                                      go_wp2_with (go_at_call 207; (with_reducible refine HX.out.mono ?_); rintro e wy ⟨rfl, bb, h1, k1⟩; have hy := KP.out.step h1 k1; have HY := Lib.hid hy; clear h1 k1 hy)
                                                      go_meet
                                                      case rel => exact ⟨bb, Lib.hid (by rw [HP.items_text HH.out (by decide) (by decide) (by decide) (by decide), ← List.append_assoc]; exact HY.out)⟩
                                                  case rest =>
                                                    clear KP
                                                    obtain ⟨bq10, KP⟩ := hcut
                                                    rename World => wp10
                                                    go_upto_if 273 with (go_at_call 143; (with_reducible refine (hasprop_any p 11 (by decide) 16 (by decide) _).mono ?_); rintro e wh ⟨rfl, rfl⟩)
                                                    go_cut [] from 272 to 282 (fun wx => ∃ b2 : List Nat, Hid (PayInv w wx b2 (L4 ++ p.items 12)))
                                                    case first =>
                                                      cases hh : p.has 11
                                                      · have HH := Lib.hid hh; clear hh
                                                        go_wp2
                                                        go_meet
                                                        case rel => exact ⟨bq10, Lib.hid (by rw [HP.items_no HH.out]; exact KP.out)⟩
                                                      · have HH := Lib.hid hh; clear hh
                                                        have ck : wp10.cell? ⟨f, 17, none⟩ = some (.string (bstr (p.txt 11))) := by rw [← HP.held_has HH.out (by decide)]; exact HC.out wp10 KP.out.kept 17
                                                        have HX := Lib.hid (wshort_any w.heap.size bq10 (L4 ++ p.items 11) (p.txt 11) wp10 KP.out.wr (HP.okText H.out.1 11 (by decide) (by decide) (by decide) (by decide) (by decide) (by decide)).2 (by have := HB.out 11 (by decide); omega))
                                                        go_wp2_with (go_at_call 207; (with_reducible refine HX.out.mono ?_); rintro e wy ⟨rfl, bb, h1, k1⟩; have hy := KP.out.step h1 k1; have HY := Lib.hid hy; clear h1 k1 hy)
                                                        go_meet
                                                        case rel => exact ⟨bb, Lib.hid (by rw [HP.items_text HH.out (by decide) (by decide) (by decide) (by decide), ← List.append_assoc]; exact HY.out)⟩
                                                    case rest =>
                                                      clear KP
                                                      obtain ⟨bq11, KP⟩ := hcut
                                                      rename World => wp11
                                                      go_upto_if 284 with (go_at_call 143; (with_reducible refine (hasprop_any p 12 (by decide) 8 (by decide) _).mono ?_); rintro e wh ⟨rfl, rfl⟩)
                                                      go_cut [] from 283 to 293 (fun wx => ∃ b2 : List Nat, Hid (PayInv w wx b2 (L4 ++ p.items 13)))
                                                      case first =>
                                                        cases hh : p.has 12
                                                        · have HH := Lib.hid hh; clear hh
                                                          go_wp2
                                                          go_meet
                                                          case rel => exact ⟨bq11, Lib.hid (by rw [HP.items_no HH.out]; exact KP.out)⟩
                                                        · have HH := Lib.hid hh; clear hh
                                                          have ck : wp11.cell? ⟨f, 18, none⟩ = some (.string (bstr (p.txt 12))) := by rw [← HP.held_has HH.out (by decide)]; exact HC.out wp11 KP.out.kept 18
                                                          have HX := Lib.hid (wshort_any w.heap.size bq11 (L4 ++ p.items 12) (p.txt 12) wp11 KP.out.wr (HP.okText H.out.1 12 (by decide) (by decide) (by decide) (by decide) (by decide) (by decide)).2 (by have := HB.out 12 (by decide); omega))
                                                          go_wp2_with (go_at_call 207; (with_reducible refine HX.out.mono ?_); rintro e wy ⟨rfl, bb, h1, k1⟩; have hy := KP.out.step h1 k1; have HY := Lib.hid hy; clear h1 k1 hy)
                                                          go_meet
                                                          case rel => exact ⟨bb, Lib.hid (by rw [HP.items_text HH.out (by decide) (by decide) (by decide) (by decide), ← List.append_assoc]; exact HY.out)⟩
                                                      case rest =>
                                                        clear KP
                                                        obtain ⟨bq12, KP⟩ := hcut
                                                        rename World => wp12
                                                        have hh13 := HP.items_no (HP.ok13 H.out.1)
                                                        have hLp : L4 ++ p.items 13 = headerB cl sz p := by
                                                          rw [HL4.out, HL3.out, ← hh13]
                                                          unfold headerB
                                                          simp only [List.nil_append, List.append_assoc]
                                                        have hkd : Kept [] w wp12.drew := KP.out.kept.drew
                                                        have hkp := KP.out
                                                        rw [hLp] at hkp
                                                        have hne : headerB cl sz p ≠ [] := by rw [← hLp, HL4.out, HL3.out]; intro e; have := congrArg List.length e; simp [Lib.beBytes_length] at this
                                                        obtain ⟨ta, tc, td, t1, t2, t3⟩ := (hkp.wr.kept (Kept.refl [] wp12).drew (by simp) (by simp)).src
                                                        have htd := t3 hne
                                                        have ht4 := hkp.own td htd
                                                        have hlh : (headerB cl sz p).length ≤ 1000000 := by rw [← hLp]; exact HB.out 13 (by decide)
                                                        have hby := bytes_any w.heap.size _ wp12.drew t1
                                                        have hqw := H.out.2.2.1.lt
                                                        have hbw := H.out.2.2.1.blt
                                                        have hwf : Calls Tryz.prog 201 #[.iface 111 (.pointer (some ⟨q, 0, none⟩)), .int .u8 2, .int .u16 (c : Int), .slice ta (headerB cl sz p).length tc] wp12.drew fun e w' => e = .returned .nilIface ∧ ∃ bs', Wr TB w' q bs' (frameB 2 c (headerB cl sz p)) ∧ Adv q bs bs' wp12.drew w' :=
                                                          writeFrame_any q 2 c _ (headerB cl sz p) wp12.drew bs (H.out.2.2.1.kept hkd (by simp) (by simp)) td t2 (by omega) (fun hm => by have := hbw _ hm; omega) (hkp.wr.blt td htd) ⟨ta, tc, rfl⟩ (by omega) hc hlh
                                                        have hc0 : wp12.drew.cell? ⟨f, 0, none⟩ = some (.int .u16 (c : Int)) := HC.out _ hkd 0
                                                        have HF := Lib.hid (And.intro hby (And.intro hwf (And.intro hkd hc0)))
                                                        clear hh13 hLp hkd hkp hne t1 t2 t3 htd ht4 hlh hby hqw hbw hwf hc0
                                                        go_upto_region 76 with fail
                                                        go_region_held3 (fun w' : World => w'.cell? ⟨f, 0, none⟩ = some (.int .u16 (c : Int))) (first | with_reducible exact HF.out.2.2.2 | with_reducible exact HT9.out) (first
                                                          | (go_at_call 75; (with_reducible refine HF.out.1.mono ?_); rintro e w8 ⟨rfl, rfl⟩)
                                                          | (go_at_call 201; (with_reducible refine HF.out.2.1.mono ?_); rintro e w9 ⟨rfl, bs9, h9, k9⟩; have hc9 : w9.cell? ⟨f, 0, none⟩ = some (.int .u16 (c : Int)) := k9.kept.cell HF.out.2.2.2 H.out.2.2.2.2.2.2.1; have HT9 := Lib.hid hc9; have H9 := Lib.hid (And.intro h9 k9); clear h9 k9 hc9))
                                                        all_goals
                                                          go_wp2
                                                          go_ret
                                                          exact ⟨rfl, bs9, H9.out.1, Adv.kept_l HF.out.2.2.1 H9.out.2⟩
end Go.Proofs.YtkcdakohmfodjaaGreat
