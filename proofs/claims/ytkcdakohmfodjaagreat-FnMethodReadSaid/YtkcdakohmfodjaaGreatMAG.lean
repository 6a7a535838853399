/-
  Lemmas on the way to the statement of YtkcdakohmfodjaaGreatMethodRead, joined out of these texts: Full, FullLim, Lim, Rd, Zeros. No condition.
-/
import Derived.Deep.DeepMust
import Derived.Deep.Draws
import Derived.Deep.RegionWith
import Derived.Lib.AppendZeros
import Derived.Lib.Endian
import Derived.Lib.EndianBits
import Derived.RegionTactic
import Derived.Test.YtkcdakohmfodjaaGreatMAF
namespace Go.Proofs.YtkcdakohmfodjaaGreat
open Go.RowKit
set_option linter.unusedVariables false
set_option linter.unusedSimpArgs false
abbrev EOFV : Value := .iface 194 (.string ⟨#[69, 79, 70]⟩)
theorem method_buf (k : Nat) (a : Addr) (w : World) : (method (k + 1) 111 (.pointer (some a)) "Read").run Tryz.prog w = .ok (237, .pointer (some a)) w := by kernel_rfl
theorem nilAhead_buf (k : Nat) (a : Addr) (w : World) : (nilAhead (k + 1) 111 (.pointer (some a)) "Read").run Tryz.prog w = .ok (some false) w := by kernel_rfl
set_option maxHeartbeats 400000 in
set_option maxRecDepth 100000 in
theorem full_one_buf (b g o n m : Nat) (w : World) (hn : 0 < n) (R : World → Prop) (hm : n ≤ m) (hmm : m ≤ 4611686018427387904)
    (hc : Calls Tryz.prog 237 #[.pointer (some ⟨b, 0, none⟩), .slice (some ⟨g, o, none⟩) n m] w.drew fun e w' => e = .returned (.tuple #[.int .i64 (n : Int), .nilIface]) ∧ R w') :
    Calls Tryz.prog 56 #[.iface 111 (.pointer (some ⟨b, 0, none⟩)), .slice (some ⟨g, o, none⟩) n m] w fun e w' =>
      e = .returned (.tuple #[.int .i64 (n : Int), .nilIface]) ∧ R w' := by
  have hlt : (0 : Int) < n := by omega
  have hm1 := method_buf
  have hm2 := nilAhead_buf
  go_enter Tryz.func56, Tryz.ntmps56
  go_wp2
  refine wp_loop_rounds 2 ?_
  rw [rounds_succ]
  go_wp2
  go_region_with (go_at_call 237; refine hc.mono ?_; rintro e w' ⟨rfl, hR⟩)
  go_wp2
  rw [rounds_succ]
  go_wp2
  go_ret2
  exact ⟨rfl, hR⟩
set_option maxHeartbeats 400000 in
set_option maxRecDepth 100000 in
theorem full_end_buf (b g o n m : Nat) (w : World) (hn : 0 < n) (R : World → Prop) (hm : n ≤ m) (hmm : m ≤ 4611686018427387904)
    (hc : Calls Tryz.prog 237 #[.pointer (some ⟨b, 0, none⟩), .slice (some ⟨g, o, none⟩) n m] w.drew fun e w' => e = .returned (.tuple #[.int .i64 0, EOFV]) ∧ R w') :
    Calls Tryz.prog 56 #[.iface 111 (.pointer (some ⟨b, 0, none⟩)), .slice (some ⟨g, o, none⟩) n m] w fun e w' =>
      e = .returned (.tuple #[.int .i64 0, EOFV]) ∧ R w' := by
  have hlt : (0 : Int) < n := by omega
  have hm1 := method_buf
  have hm2 := nilAhead_buf
  go_enter Tryz.func56, Tryz.ntmps56
  go_wp2
  refine wp_loop_rounds 2 ?_
  rw [rounds_succ]
  go_wp2
  go_region_with (go_at_call 237; refine hc.mono ?_; rintro e w' ⟨rfl, hR⟩)
  go_wp2
  rw [rounds_succ]
  go_wp2
  go_ret2
  exact ⟨rfl, hR⟩
theorem method_lim (k : Nat) (a : Addr) (w : World) : (method (k + 1) 366 (.pointer (some a)) "Read").run Tryz.prog w = .ok (435, .pointer (some a)) w := by kernel_rfl
theorem nilAhead_lim (k : Nat) (a : Addr) (w : World) : (nilAhead (k + 1) 366 (.pointer (some a)) "Read").run Tryz.prog w = .ok (some false) w := by kernel_rfl
set_option maxHeartbeats 400000 in
set_option maxRecDepth 100000 in
theorem full_one_lim (b g o n m : Nat) (w : World) (hn : 0 < n) (R : World → Prop) (hm : n ≤ m) (hmm : m ≤ 4611686018427387904)
    (hc : Calls Tryz.prog 435 #[.pointer (some ⟨b, 0, none⟩), .slice (some ⟨g, o, none⟩) n m] w.drew fun e w' => e = .returned (.tuple #[.int .i64 (n : Int), .nilIface]) ∧ R w') :
    Calls Tryz.prog 56 #[.iface 366 (.pointer (some ⟨b, 0, none⟩)), .slice (some ⟨g, o, none⟩) n m] w fun e w' =>
      e = .returned (.tuple #[.int .i64 (n : Int), .nilIface]) ∧ R w' := by
  have hlt : (0 : Int) < n := by omega
  have hm1 := method_lim
  have hm2 := nilAhead_lim
  go_enter Tryz.func56, Tryz.ntmps56
  go_wp2
  refine wp_loop_rounds 2 ?_
  rw [rounds_succ]
  go_wp2
  go_region_with (go_at_call 435; refine hc.mono ?_; rintro e w' ⟨rfl, hR⟩)
  go_wp2
  rw [rounds_succ]
  go_wp2
  go_ret2
  exact ⟨rfl, hR⟩
set_option maxHeartbeats 400000 in
set_option maxRecDepth 100000 in
theorem full_end_lim (b g o n m : Nat) (w : World) (hn : 0 < n) (R : World → Prop) (hm : n ≤ m) (hmm : m ≤ 4611686018427387904)
    (hc : Calls Tryz.prog 435 #[.pointer (some ⟨b, 0, none⟩), .slice (some ⟨g, o, none⟩) n m] w.drew fun e w' => e = .returned (.tuple #[.int .i64 0, EOFV]) ∧ R w') :
    Calls Tryz.prog 56 #[.iface 366 (.pointer (some ⟨b, 0, none⟩)), .slice (some ⟨g, o, none⟩) n m] w fun e w' =>
      e = .returned (.tuple #[.int .i64 0, EOFV]) ∧ R w' := by
  have hlt : (0 : Int) < n := by omega
  have hm1 := method_lim
  have hm2 := nilAhead_lim
  go_enter Tryz.func56, Tryz.ntmps56
  go_wp2
  refine wp_loop_rounds 2 ?_
  rw [rounds_succ]
  go_wp2
  go_region_with (go_at_call 435; refine hc.mono ?_; rintro e w' ⟨rfl, hR⟩)
  go_wp2
  rw [rounds_succ]
  go_wp2
  go_ret2
  exact ⟨rfl, hR⟩
set_option maxHeartbeats 400000 in
theorem lim_done (q : Nat) (R : Value) (ao : Option Addr) (n m : Nat) (w : World) (hq : Blk w q #[R, .int .i64 0] 368) :
    Calls Tryz.prog 435 #[.pointer (some ⟨q, 0, none⟩), .slice ao n m] w fun e w' => e = .returned (.tuple #[.int .i64 0, EOFV]) ∧ w = w' := by
  have h1 : w.cell? ⟨q, 1, none⟩ = some (.int .i64 0) := hq.cell 1
  clear hq
  go_enter Tryz.func435, Tryz.ntmps435
  go_wp2
  go_ret2
  exact ⟨rfl, rfl⟩
set_option maxHeartbeats 400000 in
theorem lim_all_buf (q g o n m N : Nat) (a : Addr) (w : World) (hN : n ≤ N) (hn : 0 < n) (hb : N ≤ 4611686018427387904) (hmm : m ≤ 4611686018427387904)
    (hq : Blk w q #[.iface 111 (.pointer (some a)), .int .i64 (N : Int)] 368) (R : World → Prop)
    (hR : ∀ w', R w' → Blk w' q #[.iface 111 (.pointer (some a)), .int .i64 (N : Int)] 368)
    (hc : Calls Tryz.prog 237 #[.pointer (some a), .slice (some ⟨g, o, none⟩) n m] w fun e w' => e = .returned (.tuple #[.int .i64 (n : Int), .nilIface]) ∧ R w') :
    Calls Tryz.prog 435 #[.pointer (some ⟨q, 0, none⟩), .slice (some ⟨g, o, none⟩) n m] w fun e w' => e = .returned (.tuple #[.int .i64 (n : Int), .nilIface]) ∧
      ∃ w1, R w1 ∧ w' = w1.setCell ⟨q, 1, none⟩ (.int .i64 ((N : Int) - n)) := by
  have h0 : w.cell? ⟨q, 0, none⟩ = some (.iface 111 (.pointer (some a))) := hq.cell 0
  have h1 : w.cell? ⟨q, 1, none⟩ = some (.int .i64 (N : Int)) := hq.cell 1
  have hlt : (0 : Int) < N := by omega
  have hle : (n : Int) ≤ N := by omega
  have hm1 := method_buf
  have hm2 := nilAhead_buf
  clear hq
  go_enter Tryz.func435, Tryz.ntmps435
  go_wp2_with (go_at_call 237; refine hc.mono ?_; rintro e w1 ⟨rfl, hR1⟩; have g1 : w1.cell? ⟨q, 1, none⟩ = some (.int .i64 (N : Int)) := (hR _ hR1).cell 1; have f1 := (hR _ hR1).free 1)
  go_ret2
  exact ⟨rfl, _, by assumption, rfl⟩
set_option maxHeartbeats 400000 in
theorem lim_cut_buf (q g o n m N : Nat) (a : Addr) (w : World) (hN : N < n) (hn : 0 < N) (hnm : n ≤ m) (hmm : m ≤ 4611686018427387904)
    (hq : Blk w q #[.iface 111 (.pointer (some a)), .int .i64 (N : Int)] 368) (R : World → Prop)
    (hR : ∀ w', R w' → Blk w' q #[.iface 111 (.pointer (some a)), .int .i64 (N : Int)] 368)
    (hc : Calls Tryz.prog 237 #[.pointer (some a), .slice (some ⟨g, o, none⟩) N m] w fun e w' => e = .returned (.tuple #[.int .i64 (N : Int), .nilIface]) ∧ R w') :
    Calls Tryz.prog 435 #[.pointer (some ⟨q, 0, none⟩), .slice (some ⟨g, o, none⟩) n m] w fun e w' => e = .returned (.tuple #[.int .i64 (N : Int), .nilIface]) ∧
      ∃ w1, R w1 ∧ w' = w1.setCell ⟨q, 1, none⟩ (.int .i64 0) := by
  have h0 : w.cell? ⟨q, 0, none⟩ = some (.iface 111 (.pointer (some a))) := hq.cell 0
  have h1 : w.cell? ⟨q, 1, none⟩ = some (.int .i64 (N : Int)) := hq.cell 1
  have hlt : (0 : Int) < N := by omega
  have hle : (N : Int) < n := by omega
  have hle2 : (N : Int) ≤ m := by omega
  have hm1 := method_buf
  have hm2 := nilAhead_buf
  clear hq
  go_enter Tryz.func435, Tryz.ntmps435
  go_wp2_with (go_at_call 237; refine hc.mono ?_; rintro e w1 ⟨rfl, hR1⟩; have g1 : w1.cell? ⟨q, 1, none⟩ = some (.int .i64 (N : Int)) := (hR _ hR1).cell 1; have f1 := (hR _ hR1).free 1)
  go_ret2
  exact ⟨rfl, _, by assumption, rfl⟩
set_option maxHeartbeats 400000 in
theorem lim_all_lim (q g o n m N : Nat) (a : Addr) (w : World) (hN : n ≤ N) (hn : 0 < n) (hb : N ≤ 4611686018427387904) (hmm : m ≤ 4611686018427387904)
    (hq : Blk w q #[.iface 366 (.pointer (some a)), .int .i64 (N : Int)] 368) (R : World → Prop)
    (hR : ∀ w', R w' → Blk w' q #[.iface 366 (.pointer (some a)), .int .i64 (N : Int)] 368)
    (hc : Calls Tryz.prog 435 #[.pointer (some a), .slice (some ⟨g, o, none⟩) n m] w fun e w' => e = .returned (.tuple #[.int .i64 (n : Int), .nilIface]) ∧ R w') :
    Calls Tryz.prog 435 #[.pointer (some ⟨q, 0, none⟩), .slice (some ⟨g, o, none⟩) n m] w fun e w' => e = .returned (.tuple #[.int .i64 (n : Int), .nilIface]) ∧
      ∃ w1, R w1 ∧ w' = w1.setCell ⟨q, 1, none⟩ (.int .i64 ((N : Int) - n)) := by
  have h0 : w.cell? ⟨q, 0, none⟩ = some (.iface 366 (.pointer (some a))) := hq.cell 0
  have h1 : w.cell? ⟨q, 1, none⟩ = some (.int .i64 (N : Int)) := hq.cell 1
  have hlt : (0 : Int) < N := by omega
  have hle : (n : Int) ≤ N := by omega
  have hm1 := method_lim
  have hm2 := nilAhead_lim
  clear hq
  go_enter Tryz.func435, Tryz.ntmps435
  go_wp2_with (go_at_call 435; refine hc.mono ?_; rintro e w1 ⟨rfl, hR1⟩; have g1 : w1.cell? ⟨q, 1, none⟩ = some (.int .i64 (N : Int)) := (hR _ hR1).cell 1; have f1 := (hR _ hR1).free 1)
  go_ret2
  exact ⟨rfl, _, by assumption, rfl⟩
set_option maxHeartbeats 400000 in
theorem lim_cut_lim (q g o n m N : Nat) (a : Addr) (w : World) (hN : N < n) (hn : 0 < N) (hnm : n ≤ m) (hmm : m ≤ 4611686018427387904)
    (hq : Blk w q #[.iface 366 (.pointer (some a)), .int .i64 (N : Int)] 368) (R : World → Prop)
    (hR : ∀ w', R w' → Blk w' q #[.iface 366 (.pointer (some a)), .int .i64 (N : Int)] 368)
    (hc : Calls Tryz.prog 435 #[.pointer (some a), .slice (some ⟨g, o, none⟩) N m] w fun e w' => e = .returned (.tuple #[.int .i64 (N : Int), .nilIface]) ∧ R w') :
    Calls Tryz.prog 435 #[.pointer (some ⟨q, 0, none⟩), .slice (some ⟨g, o, none⟩) n m] w fun e w' => e = .returned (.tuple #[.int .i64 (N : Int), .nilIface]) ∧
      ∃ w1, R w1 ∧ w' = w1.setCell ⟨q, 1, none⟩ (.int .i64 0) := by
  have h0 : w.cell? ⟨q, 0, none⟩ = some (.iface 366 (.pointer (some a))) := hq.cell 0
  have h1 : w.cell? ⟨q, 1, none⟩ = some (.int .i64 (N : Int)) := hq.cell 1
  have hlt : (0 : Int) < N := by omega
  have hle : (N : Int) < n := by omega
  have hle2 : (N : Int) ≤ m := by omega
  have hm1 := method_lim
  have hm2 := nilAhead_lim
  clear hq
  go_enter Tryz.func435, Tryz.ntmps435
  go_wp2_with (go_at_call 435; refine hc.mono ?_; rintro e w1 ⟨rfl, hR1⟩; have g1 : w1.cell? ⟨q, 1, none⟩ = some (.int .i64 (N : Int)) := (hR _ hR1).cell 1; have f1 := (hR _ hR1).free 1)
  go_ret2
  exact ⟨rfl, _, by assumption, rfl⟩
def avail (Ns : List Nat) (l : List UInt8) : Nat := match Ns with | [] => l.length | N :: _ => N
/-- r reads out of the bytes l (which lie in block d), within the limits Ns, the nearest first; its own variables are the blocks ps. -/
inductive Rd (w : World) : Value → List Nat → Nat → List Nat → List UInt8 → Prop
  | buf (b d : Nat) (l : List UInt8) : Buf w b d l → b ≠ d → Rd w (.iface 111 (.pointer (some ⟨b, 0, none⟩))) [b] d [] l
  | lim (R : Value) (ps : List Nat) (d : Nat) (Ns : List Nat) (l : List UInt8) (q N : Nat) : Rd w R ps d Ns l → q ∉ ps → q ≠ d →
      Blk w q #[R, .int .i64 (N : Int)] 368 → N ≤ avail Ns l → Rd w (.iface 366 (.pointer (some ⟨q, 0, none⟩))) (q :: ps) d (N :: Ns) l
theorem Rd.kept {S : List Nat} {w w' : World} {r : Value} {ps : List Nat} {d : Nat} {Ns : List Nat} {l : List UInt8} (h : Rd w r ps d Ns l) (hk : Kept S w w') (hs : ∀ p ∈ ps, p ∉ S) (hd : d ∉ S) : Rd w' r ps d Ns l := by
  induction h with
  | buf b d l hb hne => exact .buf b d l (hb.kept hk (hs b (by simp)) hd) hne
  | lim R ps d Ns l q N _ hq hqd hB hN ih =>
    exact .lim R ps d Ns l q N (ih (fun p hp => hs p (by simp [hp])) hd) hq hqd (hB.kept hk (hs q (by simp))) hN
theorem Rd.avail_le {w : World} {r : Value} {ps : List Nat} {d : Nat} {Ns : List Nat} {l : List UInt8} (h : Rd w r ps d Ns l) : avail Ns l ≤ l.length := by
  induction h with
  | buf b d l _ _ => exact Nat.le_refl _
  | lim R ps d Ns l q N _ _ _ _ hN ih => exact Nat.le_trans hN ih
theorem Rd.mem_lt {w : World} {r : Value} {ps : List Nat} {d : Nat} {Ns : List Nat} {l : List UInt8} (h : Rd w r ps d Ns l) : ∀ p ∈ ps, p < w.heap.size := by
  induction h with
  | buf b d l hb _ => intro p hp; obtain ⟨_, _, h1, _⟩ := hb; simp at hp; subst hp; exact h1.lt
  | lim R ps d Ns l q N _ _ _ hB _ ih => intro p hp; simp at hp; rcases hp with rfl | hp; exact hB.lt; exact ih p hp
/-- What a Read of n bytes into row g at o does: it gives k of them. -/
def Gave (te : TypeId) (r : Value) (ps : List Nat) (d : Nat) (Ns : List Nat) (l : List UInt8) (g o : Nat) (cur : List Value) (k : Nat) (w w' : World) : Prop :=
  Rd w' r ps d (Ns.map (· - k)) (l.drop k) ∧ Blk w' g (splice cur o (u8s (l.take k))).toArray te ∧ Kept (g :: ps) w w'
/-- The function and the receiver that a reader's Read comes to. -/
inductive RdFn : TypeId → FuncId → Prop
  | buf : RdFn 111 237
  | lim : RdFn 366 435
def Small (n : Nat) : Prop := n ≤ 4611686018427387904
theorem Rd.read {w : World} {r : Value} {ps : List Nat} {d : Nat} {Ns : List Nat} {l : List UInt8} (h : Rd w r ps d Ns l) (hl : Small l.length) :
    ∃ t f a, r = .iface t (.pointer (some a)) ∧ RdFn t f ∧ ∀ (te : TypeId) (n m g o : Nat) (cur : List Value), 0 < n → n ≤ m → Small m → Blk w g cur.toArray te → o + n ≤ cur.length → g ∉ ps → g ≠ d →
      (0 < avail Ns l → ∀ k, k = min n (avail Ns l) → Calls Tryz.prog f #[.pointer (some a), .slice (some ⟨g, o, none⟩) n m] w fun e w' => e = .returned (.tuple #[.int .i64 (k : Int), .nilIface]) ∧ Gave te r ps d Ns l g o cur k w w') ∧
      (avail Ns l = 0 → Calls Tryz.prog f #[.pointer (some a), .slice (some ⟨g, o, none⟩) n m] w fun e w' => e = .returned (.tuple #[.int .i64 0, EOFV]) ∧ w = w') := by
  induction h with
  | buf b d l hb hne =>
    refine ⟨_, _, _, rfl, .buf, fun te n m g o cur hn hnm hm hg hfit hgp hgd => ⟨fun hav k hk => ?_, fun hav => ?_⟩⟩
    · have hgb : b ≠ g := by simp at hgp; exact fun e => hgp e.symm
      have hl0 : l ≠ [] := by intro e; subst e; simp [avail] at hav
      refine (read_any b d g o n m l cur w hb hl0 hg hfit hgb hne (Ne.symm hgd) k (by simp [avail] at hk; omega)).mono fun e w' h => ?_
      obtain ⟨h1, h2, h3, h4⟩ := h
      exact ⟨h1, .buf b d _ h2 hne, h3, h4.mono (by simp)⟩
    · have hl0 : l = [] := List.eq_nil_of_length_eq_zero hav
      subst hl0
      exact read_none b d n m _ w hb hn
  | lim R ps d Ns l q N hR hq hqd hB hN ih =>
    obtain ⟨t, f, a, rfl, hf, hrd⟩ := ih hl
    refine ⟨_, _, _, rfl, .lim, fun te n m g o cur hn hnm hm hg hfit hgp hgd => ⟨fun hav k hk => ?_, fun hav => ?_⟩⟩
    · have hav' : 0 < N := hav
      have hNs : N ≤ 4611686018427387904 := Nat.le_trans hN (Nat.le_trans hR.avail_le hl)
      have hav1 : 0 < avail Ns l := Nat.lt_of_lt_of_le hav' hN
      have hgp' : g ∉ ps := fun hm => hgp (by simp [hm])
      have hqg : q ≠ g := fun e => hgp (by simp [e])
      have key : ∀ w', Gave te (.iface t (.pointer (some a))) ps d Ns l g o cur k w w' → Blk w' q #[.iface t (.pointer (some a)), .int .i64 (N : Int)] 368 :=
        fun w' hG => hB.kept hG.2.2 (by simp [hqg, hq])
      have fin : ∀ w1, Gave te (.iface t (.pointer (some a))) ps d Ns l g o cur k w w1 → ∀ u, u = ((N - k : Nat) : Int) →
          Gave te (.iface 366 (.pointer (some ⟨q, 0, none⟩))) (q :: ps) d (N :: Ns) l g o cur k w (w1.setCell ⟨q, 1, none⟩ (.int .i64 u)) := by
        intro w1 hG u hu
        have hb1 := key w1 hG
        obtain ⟨g1, g2, g3⟩ := hG
        have hkept : Kept [q] w1 (w1.setCell ⟨q, 1, none⟩ (.int .i64 u)) := (Kept.refl [q] w1).setCell (by simp) _
        refine ⟨.lim _ _ _ _ _ q (N - k) (g1.kept hkept (fun p hp => by simp; rintro rfl; exact hq hp) (by simp [Ne.symm hqd])) hq hqd ?_ ?_, g2.kept hkept (by simp [Ne.symm hqg]), (g3.mono (by simp; intro x hx; simp [hx])).trans hkept (by simp)⟩
        · have := hb1.setCell 1 (.int .i64 u)
          simpa [hu] using this
        · have : k ≤ N := by simp [avail] at hk; omega
          cases Ns with
          | nil => simp only [avail, List.map_nil, List.length_drop] at *; omega
          | cons M Ms => simp only [avail, List.map_cons] at *; omega
      by_cases hnN : n ≤ N
      · have hk' : k = n := by simp [avail] at hk; omega
        subst hk'
        have hc := (hrd te k m g o cur hn hnm hm hg hfit hgp' hgd).1 hav1 k (by omega)
        cases hf with
        | buf =>
          refine (lim_all_buf q g o k m N a w hnN hn hNs hm hB _ key hc).mono fun e w' h => ?_
          obtain ⟨h1, w1, h2, rfl⟩ := h
          exact ⟨h1, fin w1 h2 _ (by omega)⟩
        | lim =>
          refine (lim_all_lim q g o k m N a w hnN hn hNs hm hB _ key hc).mono fun e w' h => ?_
          obtain ⟨h1, w1, h2, rfl⟩ := h
          exact ⟨h1, fin w1 h2 _ (by omega)⟩
      · have hk' : k = N := by simp [avail] at hk; omega
        subst hk'
        have hc := (hrd te k m g o cur hav' (by omega) hm hg (by omega) hgp' hgd).1 hav1 k (by omega)
        cases hf with
        | buf =>
          refine (lim_cut_buf q g o n m k a w (by omega) hav' hnm hm hB _ key hc).mono fun e w' h => ?_
          obtain ⟨h1, w1, h2, rfl⟩ := h
          exact ⟨h1, fin w1 h2 _ (by omega)⟩
        | lim =>
          refine (lim_cut_lim q g o n m k a w (by omega) hav' hnm hm hB _ key hc).mono fun e w' h => ?_
          obtain ⟨h1, w1, h2, rfl⟩ := h
          exact ⟨h1, fin w1 h2 _ (by omega)⟩
    · have hav' : N = 0 := hav
      subst hav'
      exact lim_done q _ _ n m w hB
theorem Rd.full {te : TypeId} {w : World} {r : Value} {ps : List Nat} {d : Nat} {Ns : List Nat} {l : List UInt8} (h : Rd w r ps d Ns l) (hl : Small l.length) (n m g o : Nat) (cur : List Value)
    (hn : 0 < n) (hnm : n ≤ m) (hm : Small m) (hg : Blk w g cur.toArray te) (hfit : o + n ≤ cur.length) (hgp : g ∉ ps) (hgd : g ≠ d) (hav : n ≤ avail Ns l) :
    Calls Tryz.prog 56 #[r, .slice (some ⟨g, o, none⟩) n m] w fun e w' => e = .returned (.tuple #[.int .i64 (n : Int), .nilIface]) ∧ Gave te r ps d Ns l g o cur n w w' := by
  have hd : Kept [] w w.drew := (Kept.refl [] w).drew
  obtain ⟨t, f, a, rfl, hf, hrd⟩ := Rd.read (h.kept hd (by simp) (by simp)) hl
  have hc := (hrd te n m g o cur hn hnm hm (hg.kept hd (by simp)) hfit hgp hgd).1 (by omega) n (by omega)
  have fin : ∀ w', Gave te (.iface t (.pointer (some a))) ps d Ns l g o cur n w.drew w' → Gave te (.iface t (.pointer (some a))) ps d Ns l g o cur n w w' :=
    fun w' hG => ⟨hG.1, hG.2.1, (hd.mono (by simp)).trans hG.2.2 (fun x hx => .inl hx)⟩
  cases h with
  | buf b d l hb hne =>
    cases hf
    exact (full_one_buf b g o n m w hn _ hnm hm hc).mono fun e w' h => ⟨h.1, fin w' h.2⟩
  | lim R ps d Ns l q N hR hq hqd hB hN =>
    cases hf
    exact (full_one_lim q g o n m w hn _ hnm hm hc).mono fun e w' h => ⟨h.1, fin w' h.2⟩
theorem Rd.full_end {te : TypeId} {w : World} {r : Value} {ps : List Nat} {d : Nat} {Ns : List Nat} {l : List UInt8} (h : Rd w r ps d Ns l) (hl : Small l.length) (n m g o : Nat) (cur : List Value)
    (hn : 0 < n) (hnm : n ≤ m) (hm : Small m) (hg : Blk w g cur.toArray te) (hfit : o + n ≤ cur.length) (hgp : g ∉ ps) (hgd : g ≠ d) (hav : avail Ns l = 0) :
    Calls Tryz.prog 56 #[r, .slice (some ⟨g, o, none⟩) n m] w fun e w' => e = .returned (.tuple #[.int .i64 0, EOFV]) ∧ w.drew = w' := by
  have hd : Kept [] w w.drew := (Kept.refl [] w).drew
  obtain ⟨t, f, a, rfl, hf, hrd⟩ := Rd.read (h.kept hd (by simp) (by simp)) hl
  have hc := (hrd te n m g o cur hn hnm hm (hg.kept hd (by simp)) hfit hgp hgd).2 hav
  cases h with
  | buf b d l hb hne =>
    cases hf
    exact (full_end_buf b g o n m w hn (fun w' => w.drew = w') hnm hm hc).mono fun e w' h => h
  | lim R ps d Ns l q N hR hq hqd hB hN =>
    cases hf
    exact (full_end_lim q g o n m w hn (fun w' => w.drew = w') hnm hm hc).mono fun e w' h => h
theorem zeroCells_one (z : Value) (n : Nat) : (Builtin.zeroCells #[z] n).toList = List.replicate n z := by
  simp only [Builtin.zeroCells]
  apply List.ext_getElem
  · simp
  · intro i h1 h2; simp [Nat.mod_one]
theorem run_append_zeros {P : Program} (w : World) (t tn ty e : TypeId) (i : TypeInfo) (z : Value) (k kn : IntKind) (ht : P.underlying t = some (.slice e)) (htn : P.underlying tn = some (.int kn)) (hi : P.info? e = some i) (hz : i.zero = some z)
    (hs : i.size = 1) (hz1 : z.cells = #[z]) (h1 : z.oneCell' = true) (g n c : Nat) (cur : List Value) (hg : Blk w g cur.toArray e) (h0 : 0 < n) (hc : n ≤ c) (hfit : n ≤ cur.length) (h63 : (n : Int) ≤ 9223372036854775807) (h48 : n * i.bytes ≤ 281474976710656) :
    (Builtin.append_ #[t, tn] ty #[.slice (some ⟨g, 0, none⟩) 0 c, .int k n]).run P w =
      .ok (.slice (some ⟨g, 0, none⟩) n c) (w.setRow g (List.replicate n z ++ cur.drop n).toArray) := by
  have hn : n ≠ 0 := by omega
  have hw : IntKind.i64.wrap (n : Int) = n := by rw [IntKind.wrap_i64]; omega
  have h48i : ¬ (281474976710656 < (n : Int) * (i.bytes : Int)) := by
    rw [← Int.natCast_mul]
    omega
  have hneg : ¬ ((n : Int) < 0) := by omega
  have hst := run_storeCells_at P g 0 e (List.replicate n z) 0 cur.toArray w hg (by simpa using hfit) (by intro v hv; rw [List.eq_of_mem_replicate hv]; exact h1)
  simp only [Nat.add_zero, Nat.zero_add, List.take_zero, List.nil_append, List.length_replicate] at hst
  simp [Builtin.append_, run_underlying ht, run_underlying htn, sizeOf, typeInfo, zeroValue, hi, hz, asInt, asIntOf, hw, hn, hneg, hs, hc, h48i, hz1, zeroCells_one, hst, Addr.add]
end Go.Proofs.YtkcdakohmfodjaaGreat
