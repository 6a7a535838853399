/-
  Lemmas on the way to the statement of YtkcdakohmfodjaaGreatHeader, joined out of these texts: Lim, Rd, Zeros, Arg, Bytes, Wfn, Short, Rf, Parse. No condition.
-/
import Derived.Deep.Draws
import Derived.Lib.AppendZeros
import Derived.Lib.Endian
import Derived.Lib.EndianBits
import Derived.RegionTactic
import Derived.Test.YtkcdakohmfodjaaGreatNConvV
import Derived.Test.YtkcdakohmfodjaaGreatNFull
import Derived.Test.YtkcdakohmfodjaaGreatNOwn
import Derived.Test.YtkcdakohmfodjaaGreatNValLaw
namespace Go.Proofs.YtkcdakohmfodjaaGreat
open Go.RowKit
set_option linter.unusedVariables false
set_option linter.unusedSimpArgs false
set_option maxHeartbeats 400000 in
theorem lim_done (q : Nat) (R : Value) (ao : Option Addr) (n m : Nat) (w : World) (hq : Blk w q #[R, .int .i64 0] 368) :
    Calls Tryz.prog 435 #[.pointer (some ⟨q, 0, none⟩), .slice ao n m] w fun e w' => e = .returned (.tuple #[.int .i64 0, EOFV]) ∧ w = w' := by
  have h1 : w.cell? ⟨q, 1, none⟩ = some (.int .i64 0) := hq.cell 1
  clear hq
  go_enter Tryz.func435, Tryz.ntmps435
  go_wp2
  go_ret2
  exact ⟨rfl, rfl⟩
set_option maxHeartbeats 400000 in
theorem lim_all_buf (q g o n m N : Nat) (a : Addr) (w : World) (hN : n ≤ N) (hn : 0 < n) (hb : N ≤ 4611686018427387904) (hmm : m ≤ 4611686018427387904)
    (hq : Blk w q #[.iface 111 (.pointer (some a)), .int .i64 (N : Int)] 368) (R : World → Prop)
    (hR : ∀ w', R w' → Blk w' q #[.iface 111 (.pointer (some a)), .int .i64 (N : Int)] 368)
    (hc : Calls Tryz.prog 237 #[.pointer (some a), .slice (some ⟨g, o, none⟩) n m] w fun e w' => e = .returned (.tuple #[.int .i64 (n : Int), .nilIface]) ∧ R w') :
    Calls Tryz.prog 435 #[.pointer (some ⟨q, 0, none⟩), .slice (some ⟨g, o, none⟩) n m] w fun e w' => e = .returned (.tuple #[.int .i64 (n : Int), .nilIface]) ∧
      ∃ w1, R w1 ∧ w' = w1.setCell ⟨q, 1, none⟩ (.int .i64 ((N : Int) - n)) := by
  have h0 : w.cell? ⟨q, 0, none⟩ = some (.iface 111 (.pointer (some a))) := hq.cell 0
  have h1 : w.cell? ⟨q, 1, none⟩ = some (.int .i64 (N : Int)) := hq.cell 1
  have hlt : (0 : Int) < N := by omega
  have hle : (n : Int) ≤ N := by omega
  have hm1 := method_buf
  have hm2 := nilAhead_buf
  clear hq
  go_enter Tryz.func435, Tryz.ntmps435
  go_wp2_with (go_at_call 237; refine hc.mono ?_; rintro e w1 ⟨rfl, hR1⟩; have g1 : w1.cell? ⟨q, 1, none⟩ = some (.int .i64 (N : Int)) := (hR _ hR1).cell 1; have f1 := (hR _ hR1).free 1)
  go_ret2
  exact ⟨rfl, _, by assumption, rfl⟩
set_option maxHeartbeats 400000 in
theorem lim_cut_buf (q g o n m N : Nat) (a : Addr) (w : World) (hN : N < n) (hn : 0 < N) (hnm : n ≤ m) (hmm : m ≤ 4611686018427387904)
    (hq : Blk w q #[.iface 111 (.pointer (some a)), .int .i64 (N : Int)] 368) (R : World → Prop)
    (hR : ∀ w', R w' → Blk w' q #[.iface 111 (.pointer (some a)), .int .i64 (N : Int)] 368)
    (hc : Calls Tryz.prog 237 #[.pointer (some a), .slice (some ⟨g, o, none⟩) N m] w fun e w' => e = .returned (.tuple #[.int .i64 (N : Int), .nilIface]) ∧ R w') :
    Calls Tryz.prog 435 #[.pointer (some ⟨q, 0, none⟩), .slice (some ⟨g, o, none⟩) n m] w fun e w' => e = .returned (.tuple #[.int .i64 (N : Int), .nilIface]) ∧
      ∃ w1, R w1 ∧ w' = w1.setCell ⟨q, 1, none⟩ (.int .i64 0) := by
  have h0 : w.cell? ⟨q, 0, none⟩ = some (.iface 111 (.pointer (some a))) := hq.cell 0
  have h1 : w.cell? ⟨q, 1, none⟩ = some (.int .i64 (N : Int)) := hq.cell 1
  have hlt : (0 : Int) < N := by omega
  have hle : (N : Int) < n := by omega
  have hle2 : (N : Int) ≤ m := by omega
  have hm1 := method_buf
  have hm2 := nilAhead_buf
  clear hq
  go_enter Tryz.func435, Tryz.ntmps435
  go_wp2_with (go_at_call 237; refine hc.mono ?_; rintro e w1 ⟨rfl, hR1⟩; have g1 : w1.cell? ⟨q, 1, none⟩ = some (.int .i64 (N : Int)) := (hR _ hR1).cell 1; have f1 := (hR _ hR1).free 1)
  go_ret2
  exact ⟨rfl, _, by assumption, rfl⟩
set_option maxHeartbeats 400000 in
theorem lim_all_lim (q g o n m N : Nat) (a : Addr) (w : World) (hN : n ≤ N) (hn : 0 < n) (hb : N ≤ 4611686018427387904) (hmm : m ≤ 4611686018427387904)
    (hq : Blk w q #[.iface 366 (.pointer (some a)), .int .i64 (N : Int)] 368) (R : World → Prop)
    (hR : ∀ w', R w' → Blk w' q #[.iface 366 (.pointer (some a)), .int .i64 (N : Int)] 368)
    (hc : Calls Tryz.prog 435 #[.pointer (some a), .slice (some ⟨g, o, none⟩) n m] w fun e w' => e = .returned (.tuple #[.int .i64 (n : Int), .nilIface]) ∧ R w') :
    Calls Tryz.prog 435 #[.pointer (some ⟨q, 0, none⟩), .slice (some ⟨g, o, none⟩) n m] w fun e w' => e = .returned (.tuple #[.int .i64 (n : Int), .nilIface]) ∧
      ∃ w1, R w1 ∧ w' = w1.setCell ⟨q, 1, none⟩ (.int .i64 ((N : Int) - n)) := by
  have h0 : w.cell? ⟨q, 0, none⟩ = some (.iface 366 (.pointer (some a))) := hq.cell 0
  have h1 : w.cell? ⟨q, 1, none⟩ = some (.int .i64 (N : Int)) := hq.cell 1
  have hlt : (0 : Int) < N := by omega
  have hle : (n : Int) ≤ N := by omega
  have hm1 := method_lim
  have hm2 := nilAhead_lim
  clear hq
  go_enter Tryz.func435, Tryz.ntmps435
  go_wp2_with (go_at_call 435; refine hc.mono ?_; rintro e w1 ⟨rfl, hR1⟩; have g1 : w1.cell? ⟨q, 1, none⟩ = some (.int .i64 (N : Int)) := (hR _ hR1).cell 1; have f1 := (hR _ hR1).free 1)
  go_ret2
  exact ⟨rfl, _, by assumption, rfl⟩
set_option maxHeartbeats 400000 in
theorem lim_cut_lim (q g o n m N : Nat) (a : Addr) (w : World) (hN : N < n) (hn : 0 < N) (hnm : n ≤ m) (hmm : m ≤ 4611686018427387904)
    (hq : Blk w q #[.iface 366 (.pointer (some a)), .int .i64 (N : Int)] 368) (R : World → Prop)
    (hR : ∀ w', R w' → Blk w' q #[.iface 366 (.pointer (some a)), .int .i64 (N : Int)] 368)
    (hc : Calls Tryz.prog 435 #[.pointer (some a), .slice (some ⟨g, o, none⟩) N m] w fun e w' => e = .returned (.tuple #[.int .i64 (N : Int), .nilIface]) ∧ R w') :
    Calls Tryz.prog 435 #[.pointer (some ⟨q, 0, none⟩), .slice (some ⟨g, o, none⟩) n m] w fun e w' => e = .returned (.tuple #[.int .i64 (N : Int), .nilIface]) ∧
      ∃ w1, R w1 ∧ w' = w1.setCell ⟨q, 1, none⟩ (.int .i64 0) := by
  have h0 : w.cell? ⟨q, 0, none⟩ = some (.iface 366 (.pointer (some a))) := hq.cell 0
  have h1 : w.cell? ⟨q, 1, none⟩ = some (.int .i64 (N : Int)) := hq.cell 1
  have hlt : (0 : Int) < N := by omega
  have hle : (N : Int) < n := by omega
  have hle2 : (N : Int) ≤ m := by omega
  have hm1 := method_lim
  have hm2 := nilAhead_lim
  clear hq
  go_enter Tryz.func435, Tryz.ntmps435
  go_wp2_with (go_at_call 435; refine hc.mono ?_; rintro e w1 ⟨rfl, hR1⟩; have g1 : w1.cell? ⟨q, 1, none⟩ = some (.int .i64 (N : Int)) := (hR _ hR1).cell 1; have f1 := (hR _ hR1).free 1)
  go_ret2
  exact ⟨rfl, _, by assumption, rfl⟩
def avail (Ns : List Nat) (l : List UInt8) : Nat := match Ns with | [] => l.length | N :: _ => N
/-- r reads out of the bytes l (which lie in block d), within the limits Ns, the nearest first; its own variables are the blocks ps. -/
inductive Rd (w : World) : Value → List Nat → Nat → List Nat → List UInt8 → Prop
  | buf (b d : Nat) (l : List UInt8) : Buf w b d l → b ≠ d → Rd w (.iface 111 (.pointer (some ⟨b, 0, none⟩))) [b] d [] l
  | lim (R : Value) (ps : List Nat) (d : Nat) (Ns : List Nat) (l : List UInt8) (q N : Nat) : Rd w R ps d Ns l → q ∉ ps → q ≠ d →
      Blk w q #[R, .int .i64 (N : Int)] 368 → N ≤ avail Ns l → Rd w (.iface 366 (.pointer (some ⟨q, 0, none⟩))) (q :: ps) d (N :: Ns) l
theorem Rd.kept {S : List Nat} {w w' : World} {r : Value} {ps : List Nat} {d : Nat} {Ns : List Nat} {l : List UInt8} (h : Rd w r ps d Ns l) (hk : Kept S w w') (hs : ∀ p ∈ ps, p ∉ S) (hd : d ∉ S) : Rd w' r ps d Ns l := by
  induction h with
  | buf b d l hb hne => exact .buf b d l (hb.kept hk (hs b (by simp)) hd) hne
  | lim R ps d Ns l q N _ hq hqd hB hN ih =>
    exact .lim R ps d Ns l q N (ih (fun p hp => hs p (by simp [hp])) hd) hq hqd (hB.kept hk (hs q (by simp))) hN
theorem Rd.avail_le {w : World} {r : Value} {ps : List Nat} {d : Nat} {Ns : List Nat} {l : List UInt8} (h : Rd w r ps d Ns l) : avail Ns l ≤ l.length := by
  induction h with
  | buf b d l _ _ => exact Nat.le_refl _
  | lim R ps d Ns l q N _ _ _ _ hN ih => exact Nat.le_trans hN ih
theorem Rd.mem_lt {w : World} {r : Value} {ps : List Nat} {d : Nat} {Ns : List Nat} {l : List UInt8} (h : Rd w r ps d Ns l) : ∀ p ∈ ps, p < w.heap.size := by
  induction h with
  | buf b d l hb _ => intro p hp; obtain ⟨_, _, h1, _⟩ := hb; simp at hp; subst hp; exact h1.lt
  | lim R ps d Ns l q N _ _ _ hB _ ih => intro p hp; simp at hp; rcases hp with rfl | hp; exact hB.lt; exact ih p hp
/-- What a Read of n bytes into row g at o does: it gives k of them. -/
def Gave (te : TypeId) (r : Value) (ps : List Nat) (d : Nat) (Ns : List Nat) (l : List UInt8) (g o : Nat) (cur : List Value) (k : Nat) (w w' : World) : Prop :=
  Rd w' r ps d (Ns.map (· - k)) (l.drop k) ∧ Blk w' g (splice cur o (u8s (l.take k))).toArray te ∧ Kept (g :: ps) w w'
/-- The function and the receiver that a reader's Read comes to. -/
inductive RdFn : TypeId → FuncId → Prop
  | buf : RdFn 111 237
  | lim : RdFn 366 435
def Small (n : Nat) : Prop := n ≤ 4611686018427387904
theorem Rd.read {w : World} {r : Value} {ps : List Nat} {d : Nat} {Ns : List Nat} {l : List UInt8} (h : Rd w r ps d Ns l) (hl : Small l.length) :
    ∃ t f a, r = .iface t (.pointer (some a)) ∧ RdFn t f ∧ ∀ (te : TypeId) (n m g o : Nat) (cur : List Value), 0 < n → n ≤ m → Small m → Blk w g cur.toArray te → o + n ≤ cur.length → g ∉ ps → g ≠ d →
      (0 < avail Ns l → ∀ k, k = min n (avail Ns l) → Calls Tryz.prog f #[.pointer (some a), .slice (some ⟨g, o, none⟩) n m] w fun e w' => e = .returned (.tuple #[.int .i64 (k : Int), .nilIface]) ∧ Gave te r ps d Ns l g o cur k w w') ∧
      (avail Ns l = 0 → Calls Tryz.prog f #[.pointer (some a), .slice (some ⟨g, o, none⟩) n m] w fun e w' => e = .returned (.tuple #[.int .i64 0, EOFV]) ∧ w = w') := by
  induction h with
  | buf b d l hb hne =>
    refine ⟨_, _, _, rfl, .buf, fun te n m g o cur hn hnm hm hg hfit hgp hgd => ⟨fun hav k hk => ?_, fun hav => ?_⟩⟩
    · have hgb : b ≠ g := by simp at hgp; exact fun e => hgp e.symm
      have hl0 : l ≠ [] := by intro e; subst e; simp [avail] at hav
      refine (read_any b d g o n m l cur w hb hl0 hg hfit hgb hne (Ne.symm hgd) k (by simp [avail] at hk; omega)).mono fun e w' h => ?_
      obtain ⟨h1, h2, h3, h4⟩ := h
      exact ⟨h1, .buf b d _ h2 hne, h3, h4.mono (by simp)⟩
    · have hl0 : l = [] := List.eq_nil_of_length_eq_zero hav
      subst hl0
      exact read_none b d n m _ w hb hn
  | lim R ps d Ns l q N hR hq hqd hB hN ih =>
    obtain ⟨t, f, a, rfl, hf, hrd⟩ := ih hl
    refine ⟨_, _, _, rfl, .lim, fun te n m g o cur hn hnm hm hg hfit hgp hgd => ⟨fun hav k hk => ?_, fun hav => ?_⟩⟩
    · have hav' : 0 < N := hav
      have hNs : N ≤ 4611686018427387904 := Nat.le_trans hN (Nat.le_trans hR.avail_le hl)
      have hav1 : 0 < avail Ns l := Nat.lt_of_lt_of_le hav' hN
      have hgp' : g ∉ ps := fun hm => hgp (by simp [hm])
      have hqg : q ≠ g := fun e => hgp (by simp [e])
      have key : ∀ w', Gave te (.iface t (.pointer (some a))) ps d Ns l g o cur k w w' → Blk w' q #[.iface t (.pointer (some a)), .int .i64 (N : Int)] 368 :=
        fun w' hG => hB.kept hG.2.2 (by simp [hqg, hq])
      have fin : ∀ w1, Gave te (.iface t (.pointer (some a))) ps d Ns l g o cur k w w1 → ∀ u, u = ((N - k : Nat) : Int) →
          Gave te (.iface 366 (.pointer (some ⟨q, 0, none⟩))) (q :: ps) d (N :: Ns) l g o cur k w (w1.setCell ⟨q, 1, none⟩ (.int .i64 u)) := by
        intro w1 hG u hu
        have hb1 := key w1 hG
        obtain ⟨g1, g2, g3⟩ := hG
        have hkept : Kept [q] w1 (w1.setCell ⟨q, 1, none⟩ (.int .i64 u)) := (Kept.refl [q] w1).setCell (by simp) _
        refine ⟨.lim _ _ _ _ _ q (N - k) (g1.kept hkept (fun p hp => by simp; rintro rfl; exact hq hp) (by simp [Ne.symm hqd])) hq hqd ?_ ?_, g2.kept hkept (by simp [Ne.symm hqg]), (g3.mono (by simp; intro x hx; simp [hx])).trans hkept (by simp)⟩
        · have := hb1.setCell 1 (.int .i64 u)
          simpa [hu] using this
        · have : k ≤ N := by simp [avail] at hk; omega
          cases Ns with
          | nil => simp only [avail, List.map_nil, List.length_drop] at *; omega
          | cons M Ms => simp only [avail, List.map_cons] at *; omega
      by_cases hnN : n ≤ N
      · have hk' : k = n := by simp [avail] at hk; omega
        subst hk'
        have hc := (hrd te k m g o cur hn hnm hm hg hfit hgp' hgd).1 hav1 k (by omega)
        cases hf with
        | buf =>
          refine (lim_all_buf q g o k m N a w hnN hn hNs hm hB _ key hc).mono fun e w' h => ?_
          obtain ⟨h1, w1, h2, rfl⟩ := h
          exact ⟨h1, fin w1 h2 _ (by omega)⟩
        | lim =>
          refine (lim_all_lim q g o k m N a w hnN hn hNs hm hB _ key hc).mono fun e w' h => ?_
          obtain ⟨h1, w1, h2, rfl⟩ := h
          exact ⟨h1, fin w1 h2 _ (by omega)⟩
      · have hk' : k = N := by simp [avail] at hk; omega
        subst hk'
        have hc := (hrd te k m g o cur hav' (by omega) hm hg (by omega) hgp' hgd).1 hav1 k (by omega)
        cases hf with
        | buf =>
          refine (lim_cut_buf q g o n m k a w (by omega) hav' hnm hm hB _ key hc).mono fun e w' h => ?_
          obtain ⟨h1, w1, h2, rfl⟩ := h
          exact ⟨h1, fin w1 h2 _ (by omega)⟩
        | lim =>
          refine (lim_cut_lim q g o n m k a w (by omega) hav' hnm hm hB _ key hc).mono fun e w' h => ?_
          obtain ⟨h1, w1, h2, rfl⟩ := h
          exact ⟨h1, fin w1 h2 _ (by omega)⟩
    · have hav' : N = 0 := hav
      subst hav'
      exact lim_done q _ _ n m w hB
theorem Rd.full {te : TypeId} {w : World} {r : Value} {ps : List Nat} {d : Nat} {Ns : List Nat} {l : List UInt8} (h : Rd w r ps d Ns l) (hl : Small l.length) (n m g o : Nat) (cur : List Value)
    (hn : 0 < n) (hnm : n ≤ m) (hm : Small m) (hg : Blk w g cur.toArray te) (hfit : o + n ≤ cur.length) (hgp : g ∉ ps) (hgd : g ≠ d) (hav : n ≤ avail Ns l) :
    Calls Tryz.prog 56 #[r, .slice (some ⟨g, o, none⟩) n m] w fun e w' => e = .returned (.tuple #[.int .i64 (n : Int), .nilIface]) ∧ Gave te r ps d Ns l g o cur n w w' := by
  have hd : Kept [] w w.drew := (Kept.refl [] w).drew
  obtain ⟨t, f, a, rfl, hf, hrd⟩ := Rd.read (h.kept hd (by simp) (by simp)) hl
  have hc := (hrd te n m g o cur hn hnm hm (hg.kept hd (by simp)) hfit hgp hgd).1 (by omega) n (by omega)
  have fin : ∀ w', Gave te (.iface t (.pointer (some a))) ps d Ns l g o cur n w.drew w' → Gave te (.iface t (.pointer (some a))) ps d Ns l g o cur n w w' :=
    fun w' hG => ⟨hG.1, hG.2.1, (hd.mono (by simp)).trans hG.2.2 (fun x hx => .inl hx)⟩
  cases h with
  | buf b d l hb hne =>
    cases hf
    exact (full_one_buf b g o n m w hn _ hnm hm hc).mono fun e w' h => ⟨h.1, fin w' h.2⟩
  | lim R ps d Ns l q N hR hq hqd hB hN =>
    cases hf
    exact (full_one_lim q g o n m w hn _ hnm hm hc).mono fun e w' h => ⟨h.1, fin w' h.2⟩
theorem Rd.full_end {te : TypeId} {w : World} {r : Value} {ps : List Nat} {d : Nat} {Ns : List Nat} {l : List UInt8} (h : Rd w r ps d Ns l) (hl : Small l.length) (n m g o : Nat) (cur : List Value)
    (hn : 0 < n) (hnm : n ≤ m) (hm : Small m) (hg : Blk w g cur.toArray te) (hfit : o + n ≤ cur.length) (hgp : g ∉ ps) (hgd : g ≠ d) (hav : avail Ns l = 0) :
    Calls Tryz.prog 56 #[r, .slice (some ⟨g, o, none⟩) n m] w fun e w' => e = .returned (.tuple #[.int .i64 0, EOFV]) ∧ w.drew = w' := by
  have hd : Kept [] w w.drew := (Kept.refl [] w).drew
  obtain ⟨t, f, a, rfl, hf, hrd⟩ := Rd.read (h.kept hd (by simp) (by simp)) hl
  have hc := (hrd te n m g o cur hn hnm hm (hg.kept hd (by simp)) hfit hgp hgd).2 hav
  cases h with
  | buf b d l hb hne =>
    cases hf
    exact (full_end_buf b g o n m w hn (fun w' => w.drew = w') hnm hm hc).mono fun e w' h => h
  | lim R ps d Ns l q N hR hq hqd hB hN =>
    cases hf
    exact (full_end_lim q g o n m w hn (fun w' => w.drew = w') hnm hm hc).mono fun e w' h => h
theorem zeroCells_one (z : Value) (n : Nat) : (Builtin.zeroCells #[z] n).toList = List.replicate n z := by
  simp only [Builtin.zeroCells]
  apply List.ext_getElem
  · simp
  · intro i h1 h2; simp [Nat.mod_one]
theorem run_append_zeros {P : Program} (w : World) (t tn ty e : TypeId) (i : TypeInfo) (z : Value) (k kn : IntKind) (ht : P.underlying t = some (.slice e)) (htn : P.underlying tn = some (.int kn)) (hi : P.info? e = some i) (hz : i.zero = some z)
    (hs : i.size = 1) (hz1 : z.cells = #[z]) (h1 : z.oneCell' = true) (g n c : Nat) (cur : List Value) (hg : Blk w g cur.toArray e) (h0 : 0 < n) (hc : n ≤ c) (hfit : n ≤ cur.length) (h63 : (n : Int) ≤ 9223372036854775807) (h48 : n * i.bytes ≤ 281474976710656) :
    (Builtin.append_ #[t, tn] ty #[.slice (some ⟨g, 0, none⟩) 0 c, .int k n]).run P w =
      .ok (.slice (some ⟨g, 0, none⟩) n c) (w.setRow g (List.replicate n z ++ cur.drop n).toArray) := by
  have hn : n ≠ 0 := by omega
  have hw : IntKind.i64.wrap (n : Int) = n := by rw [IntKind.wrap_i64]; omega
  have h48i : ¬ (281474976710656 < (n : Int) * (i.bytes : Int)) := by
    rw [← Int.natCast_mul]
    omega
  have hneg : ¬ ((n : Int) < 0) := by omega
  have hst := run_storeCells_at P g 0 e (List.replicate n z) 0 cur.toArray w hg (by simpa using hfit) (by intro v hv; rw [List.eq_of_mem_replicate hv]; exact h1)
  simp only [Nat.add_zero, Nat.zero_add, List.take_zero, List.nil_append, List.length_replicate] at hst
  simp [Builtin.append_, run_underlying ht, run_underlying htn, sizeOf, typeInfo, zeroValue, hi, hz, asInt, asIntOf, hw, hn, hneg, hs, hc, h48i, hz1, zeroCells_one, hst, Addr.add]
/-- The four cells of an argument. -/
def AHeld (B : Nat → Prop) (w : World) (cs : List Value) (a : MArg) : Prop := ∃ tv, cs = [.int .i64 a.kind, .int .u64 (a.n : Int), .string (bstr a.text), tv] ∧ FSl B w tv a.tab
theorem FSl.one {B : Nat → Prop} {w : World} {s : Value} {l : List Fld} (h : FSl B w s l) : s.oneCell' = true := by obtain ⟨fa, fc, rfl, _⟩ := h; rfl
theorem bears_arg : Bears 4 AHeld := ⟨fun ⟨tv, h1, h2⟩ hk hB => ⟨tv, h1, h2.kept hk hB⟩, fun ⟨tv, h1, h2⟩ hB => ⟨tv, h1, h2.mono hB⟩, fun ⟨tv, h1, _⟩ => by rw [h1]; rfl,
  fun ⟨tv, h1, h2⟩ u hu => by
    rw [h1] at hu
    simp only [List.mem_cons, List.mem_nil_iff, or_false] at hu
    rcases hu with rfl | rfl | rfl | rfl
    · rfl
    · rfl
    · rfl
    · exact h2.one⟩
/-- A slice of arguments. -/
def ASl (B : Nat → Prop) (w : World) (s : Value) (l : List MArg) : Prop :=
  ∃ (aa : Option Addr) (ac : Nat), s = .slice aa l.length ac ∧ l.length ≤ ac ∧ ∀ i a, l[i]? = some a → ∃ ad cs, aa = some ad ∧ CellsAt B w (ad.add (i * 4)) cs ∧ AHeld B w cs a
theorem ASl.kept {B : Nat → Prop} {S : List Nat} {w w' : World} {s : Value} {l : List MArg} (h : ASl B w s l) (hk : Kept S w w') (hB : ∀ b, B b → b ∉ S) : ASl B w' s l := by
  obtain ⟨aa, ac, h1, h2, h3⟩ := h
  refine ⟨aa, ac, h1, h2, fun i a hi => ?_⟩
  obtain ⟨ad, cs, e1, e2, e3⟩ := h3 i a hi
  exact ⟨ad, cs, e1, e2.kept hk hB, bears_arg.kept e3 hk hB⟩
theorem ASl.mono {B B' : Nat → Prop} {w : World} {s : Value} {l : List MArg} (h : ASl B w s l) (hB : ∀ b, B b → b < w.heap.size → B' b) : ASl B' w s l := by
  obtain ⟨aa, ac, h1, h2, h3⟩ := h
  refine ⟨aa, ac, h1, h2, fun i a hi => ?_⟩
  obtain ⟨ad, cs, e1, e2, e3⟩ := h3 i a hi
  refine ⟨ad, cs, e1, ⟨hB _ e2.1 (e2.lt (by obtain ⟨tv, e, _⟩ := e3; rw [e]; simp)), e2.2⟩, bears_arg.mono e3 hB⟩
theorem ASl.one {B : Nat → Prop} {w : World} {s : Value} {l : List MArg} (h : ASl B w s l) : s.oneCell' = true := by obtain ⟨aa, ac, rfl, _⟩ := h; rfl
theorem info_u8 : (Tryz.prog.info? 5).map (fun i => (i.zero, i.size, i.bytes)) = some (some (.int .u8 0), 1, 1) := by kernel_rfl
theorem madeCells_one (z : Value) (n : Nat) : madeCells #[z] n = (List.replicate n z).toArray := by
  apply Array.ext'
  simp only [madeCells]
  apply List.ext_getElem
  · simp
  · intro i h1 h2; simp [Nat.mod_one]
theorem make_u8 (l c : Nat) (hlc : l ≤ c) (hb : c ≤ 281474976710656) (w : World) : (Instr.makeSlice 22 (.int .i64 l) (.int .i64 c)).run Tryz.prog w =
    .ok (.slice (some ⟨w.heap.size, 0, none⟩) l c) (w.alloc (.cells (List.replicate c (.int .u8 0)).toArray 5)) := by
  obtain ⟨i, hi, hz0, hz1, hz2⟩ := info_parts info_u8
  rw [run_make w 22 5 i _ Tryz.underlying22 hi hz0 .i64 .i64 l c (by omega) (by omega) (by rw [hz2]; omega) (by omega)]
  simp only [Int.toNat_natCast, hz1, Nat.mul_one, Value.cells]
  rw [madeCells_one]
set_option maxHeartbeats 400000 in
theorem min64_any (a b : Int) (w : World) : Calls Tryz.prog 160 #[.int .i64 a, .int .i64 b] w fun e w' => e = .returned (.int .i64 (if a < b then a else b)) ∧ w = w' := by
  by_cases h : a < b
  · rw [if_pos h]
    go_enter Tryz.func160, Tryz.ntmps160
    go_wp2
    go_ret
    exact ⟨rfl, rfl⟩
  · rw [if_neg h]
    go_enter Tryz.func160, Tryz.ntmps160
    go_wp2
    go_ret
    exact ⟨rfl, rfl⟩
theorem min64_le (a : Nat) (ha : a ≤ 65536) (w : World) : Calls Tryz.prog 160 #[.int .i64 (a : Int), .int .i64 65536] w fun e w' => e = .returned (.int .i64 (a : Int)) ∧ w = w' :=
  (min64_any a 65536 w).mono fun e w' h => ⟨by
    rw [h.1]
    have e1 : (if (a : Int) < 65536 then (a : Int) else 65536) = a := by
      by_cases h : (a : Int) < 65536
      · rw [if_pos h]
      · rw [if_neg h]; omega
    rw [e1], h.2⟩
theorem append_zeros_u8 (w : World) (ty : TypeId) (g n c : Nat) (cur : List Value) (hg : Blk w g cur.toArray 5) (h0 : 0 < n) (hc : n ≤ c) (hfit : n ≤ cur.length) (h48 : n ≤ 281474976710656) :
    (Builtin.append_ #[22, 3] ty #[.slice (some ⟨g, 0, none⟩) 0 c, .int .i64 n]).run Tryz.prog w =
      .ok (.slice (some ⟨g, 0, none⟩) n c) (w.setRow g (List.replicate n (Value.int .u8 0) ++ cur.drop n).toArray) := by
  obtain ⟨i, hi, hz0, hz1, hz2⟩ := info_parts info_u8
  exact run_append_zeros w _ _ ty _ i _ .i64 .i64 Tryz.underlying22 Tryz.underlying3 hi hz0 hz1 rfl rfl g n c cur hg h0 hc hfit (by omega) (by rw [hz2]; omega)
theorem splice_all (n : Nat) (z : Value) (cs : List Value) (h : cs.length = n) : splice (List.replicate n z) 0 cs = cs := by
  simp [splice, h]
set_option maxHeartbeats 400000 in
theorem readBytes_any {w : World} {r : Value} {ps : List Nat} {d : Nat} {Ns : List Nat} {l : List UInt8} (h : Rd w r ps d Ns l) (hl : Small l.length) (n : Nat) (hn : n ≤ 65536) (h0 : 0 < n) (hav : n ≤ avail Ns l) (hd : d < w.heap.size) :
    Calls Tryz.prog 148 #[r, .int .i64 (n : Int)] w fun e w' => ∃ g, e = .returned (.tuple #[.slice (some ⟨g, 0, none⟩) n n, .nilIface]) ∧ w.heap.size ≤ g ∧
      Blk w' g (u8s (l.take n)).toArray 5 ∧ Rd w' r ps d (Ns.map (· - n)) (l.drop n) ∧ Kept ps w w' := by
  have hmk := make_u8 0 n (Nat.zero_le _) (by omega)
  simp only [Int.natCast_zero] at hmk
  have hn0 : ¬ ((n : Int) < 0) := by omega
  have hlt : (0 : Int) < n := by omega
  have hn2 : (n : Int) ≤ 65536 := by omega
  have H := Lib.hid h; have HL := Lib.hid hl; have HA := Lib.hid hav; have HD := Lib.hid hd
  clear h hl hav hd
  go_enter Tryz.func148, Tryz.ntmps148
  go_wp2_with (go_at_call 160; refine (min64_le n hn _).mono ?_; rintro e w' ⟨rfl, rfl⟩)
  have hblk : Blk (w.alloc (.cells (Array.replicate n (.int .u8 0)) 5)) w.heap.size (List.replicate n (Value.int .u8 0)).toArray 5 := by
    rw [List.toArray_replicate]; exact Blk.new w _ _
  have hkp : Kept [] w (w.alloc (.cells (Array.replicate n (.int .u8 0)) 5)) := (Kept.refl [] w).alloc _
  generalize w.alloc (.cells (Array.replicate n (Value.int .u8 0)) 5) = wa at hblk hkp ⊢
  have hz := append_zeros_u8 wa 22 w.heap.size n n _ hblk h0 (Nat.le_refl _) (by simp) (by omega)
  rw [show List.replicate n (Value.int .u8 0) ++ (List.replicate n (Value.int .u8 0)).drop n = List.replicate n (Value.int .u8 0) by simp] at hz
  have hself : wa.setRow w.heap.size (List.replicate n (Value.int .u8 0)).toArray = wa := setRow_self wa _ _ _ (0, 0) hblk
  rw [hself] at hz
  have hrd : Rd wa r ps d Ns l := H.out.kept hkp (by simp) (by simp)
  have hfull := hrd.full HL.out n n w.heap.size 0 _ h0 (Nat.le_refl _) (by unfold Small; omega) hblk (by simp) (fun hm => by have := H.out.mem_lt _ hm; omega) (by have := HD.out; omega) HA.out
  generalize hg : w.heap.size = g at *
  have HF := Lib.hid hfull; have HZ := Lib.hid hz; have HK := Lib.hid hkp; have HG := Lib.hid hg
  clear hfull hz hkp hblk hrd hself hg hmk
  refine wp_loop_rounds 2 ?_
  rw [rounds_succ]
  go_wp2_with (first
    | (go_at_call 160; refine (min64_le n hn _).mono ?_; rintro e w' ⟨rfl, rfl⟩)
    | (at_builtin; refine Lib.wpList_append_run _ rfl _ _ 22 3 rfl _ _ rfl rfl _ _ HZ.out ?_)
    | (go_at_call 56; refine HF.out.mono ?_; rintro e w' ⟨rfl, hG⟩))
  rw [rounds_succ]
  go_wp2
  go_ret2
  obtain ⟨hG1, hG2, hG3⟩ := hG
  refine ⟨g, rfl, ?_, ?_, hG1, ?_⟩
  · exact Nat.le_of_eq HG.out
  · have hle := H.out.avail_le
    have hA := HA.out
    rwa [splice_all n _ _ (by simp; omega)] at hG2
  · exact (HK.out.mono (by simp)).trans hG3 (fun x hx => by
      simp only [List.mem_cons] at hx
      rcases hx with rfl | hx
      · exact .inr (Nat.le_of_eq HG.out)
      · exact .inl hx)
end Go.Proofs.YtkcdakohmfodjaaGreat
namespace Go.Proofs.YtkcdakohmfodjaaGreat
set_option linter.unusedVariables false
set_option linter.unusedSimpArgs false
theorem normL_len (l : List Val) : (normL l).length = l.length := by
  induction l with
  | nil => rfl
  | cons x l ih => simp [normL, ih]
theorem normFs_len (l : List Fld) : (normFs l).length = l.length := by
  induction l with
  | nil => rfl
  | cons x l ih => cases x with | mk name v => simp [normFs, ih]
mutual
theorem wf_normV (v : Val) (h : WfV v) : WfV (normV v) := by
  cases v with
  | mk k n f sc text kids flds =>
    unfold WfV at h
    obtain ⟨h1, h2, h3, h4, h5, h6, h7, h8⟩ := h
    have i1 := wf_normL kids h4
    have i2 := wf_normFs flds h5
    have e1 := normL_len kids
    have e2 := normFs_len flds
    unfold normV
    split
    · unfold WfV; exact ⟨by simp, by omega, by simp, i1, by unfold WfFs; trivial, by omega, by omega, by omega⟩
    split
    · unfold WfV; exact ⟨by simp, by simp, by omega, by unfold WfL; trivial, i2, by omega, by omega, by omega⟩
    split
    · unfold WfV; exact ⟨h1, by simp, by simp, by unfold WfL; trivial, by unfold WfFs; trivial, by omega, by omega, by omega⟩
    split
    · unfold WfV; exact ⟨by simp, by simp, by simp, by unfold WfL; trivial, by unfold WfFs; trivial, by omega, by omega, h8⟩
    split
    · unfold WfV; exact ⟨by simp, by simp, by simp, by unfold WfL; trivial, by unfold WfFs; trivial, h6, h7, by omega⟩
    split
    · unfold WfV; exact ⟨by simp, by simp, by simp, by unfold WfL; trivial, by unfold WfFs; trivial, by omega, by omega, by omega⟩
    · unfold WfV; exact ⟨by simp, by simp, by simp, by unfold WfL; trivial, by unfold WfFs; trivial, h6, h7, by omega⟩
theorem wf_normL (l : List Val) (h : WfL l) : WfL (normL l) := by
  cases l with
  | nil => unfold normL WfL; trivial
  | cons v l => unfold WfL at h; unfold normL WfL; exact ⟨wf_normV v h.1, wf_normL l h.2⟩
theorem wf_normFs (l : List Fld) (h : WfFs l) : WfFs (normFs l) := by
  cases l with
  | nil => unfold normFs WfFs; trivial
  | cons x l => cases x with | mk name v => unfold WfFs at h; unfold normFs WfFs; exact ⟨h.1, wf_normV v h.2.1, wf_normFs l h.2.2⟩
end
theorem wf_zero : WfV Val.zero := by unfold Val.zero WfV WfL WfFs; simp
theorem wf_zeroF : WfFs [Fld.zero] := by unfold Fld.zero WfFs WfFs; exact ⟨by simp, wf_zero, trivial⟩
mutual
theorem wf_convV (v : Val) (h : WfV v) (d : Nat) (r : Int) : WfV (convV v d r).1 := by
  cases v with
  | mk k n f sc text kids flds =>
    unfold WfV at h
    obtain ⟨h1, h2, h3, h4, h5, h6, h7, h8⟩ := h
    have i2 := wf_convFs flds h5 (d - 1) (r - (1 + text.length))
    have i1 := wf_convL kids h4 (d - 1) (convFs flds (d - 1) (r - (1 + text.length))).2
    unfold convV
    split
    · exact wf_zero
    · split
      · exact wf_zero
      · rename_i ks r' hk
        rw [hk] at i1
        obtain ⟨j1, j2⟩ := i1 ks rfl
        have j3 : WfFs ((convFs flds (d - 1) (r - (1 + text.length))).1.getD [Fld.zero]) ∧ ((convFs flds (d - 1) (r - (1 + text.length))).1.getD [Fld.zero]).length ≤ 140737488355328 := by
          cases hf : (convFs flds (d - 1) (r - (1 + text.length))).1 with
          | none => exact ⟨wf_zeroF, by simp⟩
          | some l' => have := i2 l' hf; exact ⟨this.1, by simp only [Option.getD_some]; omega⟩
        unfold WfV
        exact ⟨h1, by omega, j3.2, j1, j3.1, h6, h7, h8⟩
theorem wf_convL (l : List Val) (h : WfL l) (d : Nat) (r : Int) : ∀ l', (convL l d r).1 = some l' → WfL l' ∧ l'.length = l.length := by
  cases l with
  | nil => intro l' e; unfold convL at e; simp only [Option.some.injEq] at e; subst e; exact ⟨by unfold WfL; trivial, rfl⟩
  | cons v l =>
    intro l' e
    unfold WfL at h
    have i1 := wf_convV v h.1 d r
    have i2 := wf_convL l h.2 d (convV v d r).2
    unfold convL at e
    split at e
    · cases e
    · split at e
      · cases e
      · rename_i xs r' hx
        rw [hx] at i2
        obtain ⟨j1, j2⟩ := i2 xs rfl
        simp only [Option.some.injEq] at e
        subst e
        exact ⟨by unfold WfL; exact ⟨i1, j1⟩, by simp [j2]⟩
theorem wf_convFs (l : List Fld) (h : WfFs l) (d : Nat) (r : Int) : ∀ l', (convFs l d r).1 = some l' → WfFs l' ∧ l'.length = l.length := by
  cases l with
  | nil => intro l' e; unfold convFs at e; simp only [Option.some.injEq] at e; subst e; exact ⟨by unfold WfFs; trivial, rfl⟩
  | cons x l =>
    cases x with
    | mk name v =>
      intro l' e
      unfold WfFs at h
      have i1 := wf_convV v h.2.1 d (r - name.length)
      have i2 := wf_convFs l h.2.2 d (convV v d (r - name.length)).2
      unfold convFs at e
      split at e
      · cases e
      · split at e
        · cases e
        · rename_i xs r' hx
          rw [hx] at i2
          obtain ⟨j1, j2⟩ := i2 xs rfl
          simp only [Option.some.injEq] at e
          subst e
          exact ⟨by unfold WfFs; exact ⟨h.1, i1, j1⟩, by simp [j2]⟩
end
theorem wf_convT (l : List Fld) (h : WfFs l) (hl : l.length ≤ 140737488355328) : WfFs (convT l) ∧ (convT l).length ≤ 140737488355328 := by
  have i := wf_convFs l h 10 4000
  unfold convT
  cases hf : (convFs l 10 4000).1 with
  | none => exact ⟨wf_zeroF, by simp⟩
  | some l' => have := i l' hf; exact ⟨this.1, by simp only [Option.getD_some]; omega⟩
end Go.Proofs.YtkcdakohmfodjaaGreat
namespace Go.Proofs.YtkcdakohmfodjaaGreat
open Go.RowKit
set_option linter.unusedVariables false
set_option linter.unusedSimpArgs false
/-- At block b there is a buffer. -/
def HasB (w : World) (b : Nat) : Prop := ∃ (ao : Option Addr) (n c : Nat), Blk w b #[.slice ao n c] 113
theorem HasB.kept {S : List Nat} {w w' : World} {b : Nat} (h : HasB w b) (hk : Kept S w w') (hb : b ∉ S) : HasB w' b := by
  obtain ⟨ao, n, c, h1⟩ := h
  exact ⟨ao, n, c, h1.kept hk hb⟩
theorem Buf.has {w : World} {b d : Nat} {l : List UInt8} (h : Buf w b d l) : HasB w b := by
  obtain ⟨ao, c, h1, _, _⟩ := h
  exact ⟨ao, _, c, h1⟩
/-- An error that is there. -/
def Err (v : Value) : Prop := v = EOFV ∨ v = UEOFV
theorem Buf.short {te : TypeId} {w : World} {b d : Nat} {l : List UInt8} (hb : Buf w b d l) (hbd : b ≠ d) (g o n m : Nat) (cur : List Value) (hl : l.length < n) (hnm : n ≤ m) (hm : Small m)
    (hg : Blk w g cur.toArray te) (hfit : o + n ≤ cur.length) (hbg : b ≠ g) (hdg : d ≠ g) :
    Calls Tryz.prog 56 #[.iface 111 (.pointer (some ⟨b, 0, none⟩)), .slice (some ⟨g, o, none⟩) n m] w fun e w' =>
      ∃ v, Err v ∧ e = .returned (.tuple #[.int .i64 (l.length : Int), v]) ∧ Kept [b, g] w w' ∧ Buf w' b d [] := by
  have hd : Kept [] w w.drew := (Kept.refl [] w).drew
  by_cases h0 : l = []
  · subst h0
    refine (full_end_buf b g o n m w (by simpa using hl) (fun w' => w.drew = w') hnm hm (read_none b d n m _ w.drew (hb.kept hd (by simp) (by simp)) (by simpa using hl))).mono fun e w' h => ?_
    obtain ⟨rfl, rfl⟩ := h
    exact ⟨_, .inl rfl, rfl, hd.mono (by simp), hb.kept hd (by simp) (by simp)⟩
  · have hpos : 0 < l.length := List.length_pos_iff.2 h0
    refine (full_part_buf b g o n m l.length w hpos hl (fun w' => Kept [b, g] w w' ∧ Buf w' b d []) (fun w' => Kept [b, g] w w' ∧ Buf w' b d []) hnm hm ?_ ?_).mono fun e w' h => ⟨_, .inr rfl, h.1, h.2⟩
    · refine (read_any b d g o n m l cur w.drew (hb.kept hd (by simp) (by simp)) h0 (hg.kept hd (by simp)) hfit hbg hbd hdg l.length (by omega)).mono fun e w' h => ?_
      obtain ⟨rfl, h2, h3, h4⟩ := h
      rw [List.drop_of_length_le (Nat.le_refl _)] at h2
      exact ⟨rfl, (hd.mono (by simp)).trans h4 (fun x hx => .inl hx), h2⟩
    · rintro w' ⟨hk, hb'⟩
      have hd' : Kept [] w' w'.drew := (Kept.refl [] w').drew
      refine (read_none b d (n - l.length) (m - l.length) _ w'.drew (hb'.kept hd' (by simp) (by simp)) (by omega)).mono fun e w2 h => ?_
      obtain ⟨rfl, rfl⟩ := h
      exact ⟨rfl, hk.trans (hd'.mono (by simp)) (fun x hx => .inl hx), hb'.kept hd' (by simp) (by simp)⟩
set_option maxHeartbeats 400000 in
theorem readBytes_zero (r : Value) (w : World) :
    Calls Tryz.prog 148 #[r, .int .i64 0] w fun e w' => e = .returned (.tuple #[.slice (some ⟨w.heap.size, 0, none⟩) 0 0, .nilIface]) ∧ w.alloc (.cells #[] 5) = w' := by
  have hmk := make_u8 0 0 (Nat.zero_le _) (by omega)
  simp only [Int.natCast_zero] at hmk
  have h0 := min64_le 0 (by omega)
  simp only [Int.natCast_zero] at h0
  go_enter Tryz.func148, Tryz.ntmps148
  go_wp2_with (go_at_call 160; refine (h0 _).mono ?_; rintro e w' ⟨rfl, rfl⟩)
  refine wp_loop_rounds 1 ?_
  rw [rounds_succ]
  go_wp2
  go_ret2
  exact ⟨rfl, rfl⟩
set_option maxHeartbeats 1000000 in
set_option maxRecDepth 100000 in
theorem be64_any (g o n c : Nat) (b0 b1 b2 b3 b4 b5 b6 b7 : UInt8) (w : World) (hn : 8 ≤ n) (hnc : n ≤ c)
    (c0 : w.cell? ⟨g, o, none⟩ = some (.int .u8 b0.toNat)) (c1 : w.cell? ⟨g, o + 1, none⟩ = some (.int .u8 b1.toNat)) (c2 : w.cell? ⟨g, o + 2, none⟩ = some (.int .u8 b2.toNat)) (c3 : w.cell? ⟨g, o + 3, none⟩ = some (.int .u8 b3.toNat))
    (c4 : w.cell? ⟨g, o + 4, none⟩ = some (.int .u8 b4.toNat)) (c5 : w.cell? ⟨g, o + 5, none⟩ = some (.int .u8 b5.toNat)) (c6 : w.cell? ⟨g, o + 6, none⟩ = some (.int .u8 b6.toNat)) (c7 : w.cell? ⟨g, o + 7, none⟩ = some (.int .u8 b7.toNat)) :
    Calls Tryz.prog 155 #[.slice (some ⟨g, o, none⟩) n c] w fun e w' => e = .returned (.int .u64 (Lib.beNat [b0, b1, b2, b3, b4, b5, b6, b7] : Nat)) ∧ ∃ k, w' = w.drewN k := by
  have h0 := b0.toNat_lt
  have h1 := b1.toNat_lt
  have h2 := b2.toNat_lt
  have h3 := b3.toNat_lt
  have h4 := b4.toNat_lt
  have h5 := b5.toNat_lt
  have h6 := b6.toNat_lt
  have h7 := b7.toNat_lt
  have n7 : (7 : Int) < n := by omega
  have n4 : (4 : Int) ≤ n := by omega
  have nc : (n : Int) ≤ c := by omega
  have c4n : ¬ c = 4 := by omega
  have hA : ∀ w' : World, (∃ k, w' = w.drewN k) → Calls Tryz.prog 58 #[.slice (some ⟨g, o, none⟩) n c] w' fun e w'' => e = .returned (.int .u32 (Lib.beNat [b0, b1, b2, b3] : Nat)) ∧ ∃ k, w'' = w'.drewN k := fun w' ⟨k, hk⟩ => by
    subst hk
    exact be32_any g o n c b0 b1 b2 b3 _ (by omega) (by simpa using c0) (by simpa using c1) (by simpa using c2) (by simpa using c3)
  have hB : ∀ w' : World, (∃ k, w' = w.drewN k) → Calls Tryz.prog 58 #[.slice (some ⟨g, o + 4, none⟩) (n - 4) (c - 4)] w' fun e w'' => e = .returned (.int .u32 (Lib.beNat [b4, b5, b6, b7] : Nat)) ∧ ∃ k, w'' = w'.drewN k := fun w' ⟨k, hk⟩ => by
    subst hk
    exact be32_any g (o + 4) (n - 4) (c - 4) b4 b5 b6 b7 _ (by omega) (by simpa using c4) (by simpa [Nat.add_assoc] using c5) (by simpa [Nat.add_assoc] using c6) (by simpa [Nat.add_assoc] using c7)
  have ha : Lib.beNat [b0, b1, b2, b3] < 4294967296 := by simp only [Lib.beNat, Lib.beFrom]; omega
  have hb : Lib.beNat [b4, b5, b6, b7] < 4294967296 := by simp only [Lib.beNat, Lib.beFrom]; omega
  have hv : (Lib.beNat [b0, b1, b2, b3, b4, b5, b6, b7] : Nat) = Lib.beNat [b4, b5, b6, b7] + Lib.beNat [b0, b1, b2, b3] * 4294967296 := by
    simp only [Lib.beNat, Lib.beFrom]
    omega
  generalize Lib.beNat [b0, b1, b2, b3] = A at *
  generalize Lib.beNat [b4, b5, b6, b7] = Bn at *
  have HV := Lib.hid hv
  have HA := Lib.hid hA; have HB := Lib.hid hB
  clear hv hA hB c0 c1 c2 c3 c4 c5 c6 h0 h1 h2 h3 h4 h5 h6 h7
  have hA' : (A : Int) < 4294967296 := by omega
  have hB' : (Bn : Int) < 4294967296 := by omega
  go_enter Tryz.func155, Tryz.ntmps155
  go_wp2
  go_quiet ((go_at_call 58; first | (with_reducible exact Calls.quiet_of (HA.out _ ⟨_, rfl⟩)) | (with_reducible exact Calls.quiet_of (HB.out _ ⟨_, rfl⟩))))
  go_wp2
  go_ret
  refine ⟨?_, _, rfl⟩
  have hj := bits_join .u64 64 (by decide) wraps_u64 32 ((A : Int) * 4294967296) Bn (by omega) (by omega) (by omega) (by omega) (by omega) (by omega)
  have hj : bits .or .u64 ((A : Int) * 4294967296) Bn = ((Lib.beNat [b0, b1, b2, b3, b4, b5, b6, b7] : Nat) : Int) := by rw [hj, HV.out]; omega
  exact congrArg (fun x => Ending.returned (Value.int .u64 x)) hj
set_option maxHeartbeats 1000000 in
set_option maxRecDepth 100000 in
theorem writeString_new (nb : Nat) (l : List UInt8) (w : World) (hb : Blk w nb #[.slice none 0 0] 113) (hl : l.length ≤ 1000000000) :
    Calls Tryz.prog 164 #[.pointer (some ⟨nb, 0, none⟩), .string ⟨l.toArray⟩] w fun e w' => e = .returned (.tuple #[.int .i64 (l.length : Int), .nilIface]) ∧
      ∃ d, w.heap.size ≤ d ∧ (l ≠ [] → d < w'.heap.size) ∧ Buf w' nb d l ∧ Kept [nb] w w' := by
  obtain ⟨i, i1, i2, i3, i4⟩ := u8Info
  have HI := Lib.hid (And.intro i1 (And.intro i2 (And.intro i3 i4))); clear i1 i2 i3 i4
  have c0 := hb.cell0
  have HB := Lib.hid hb; clear hb
  go_enter Tryz.func164, Tryz.ntmps164
  go_wp2_with (refine wpList_append2_string _ rfl (.tmp 10) (.tmp 11) 22 9 rfl 5 i Tryz.underlying22 Tryz.underlying9 HI.out.1 HI.out.2.1 HI.out.2.2.1 HI.out.2.2.2 (.slice none 0 0) 0 [] rfl (World.ownsRow_nil _ _ _ _) ⟨l.toArray⟩ rfl (by simp [ByteArray.size]; omega) ?_; intro v' w2 g1 g2 g3; rw [strCells_bstr] at g1; have g1 : w2.ownsRow 0 5 1 v' (0 + l.length) ([] ++ u8s l) := g1; rw [Nat.zero_add, List.nil_append] at g1; obtain ⟨ao, cc, rfl, hcc, hca⟩ := own_slice g1; have hk2 : Kept [] w w2 := (Kept.refl [] w).grown g2 (by simp [Value.ownBlock]); have hb2 := HB.out.kept hk2 (by simp); have c2 := hb2.cell0; have f2 := hb2.free 0; have H2 := Lib.hid (And.intro g1 (And.intro hk2 (And.intro hb2 (And.intro hcc (And.intro hca g3))))); clear g1 g2 g3 hk2 hb2 hcc hca)
  go_ret2
  have hks : Kept [nb] w2 (w2.setCell ⟨nb, 0, none⟩ (.slice ao l.length cc)) := (Kept.refl _ w2).setCell (by simp) _
  have hkw : Kept [nb] w (w2.setCell ⟨nb, 0, none⟩ (.slice ao l.length cc)) := (H2.out.2.1.mono (by simp)).trans hks (fun x hx => .inl hx)
  have hbf : Blk (w2.setCell ⟨nb, 0, none⟩ (.slice ao l.length cc)) nb #[.slice ao l.length cc] 113 := H2.out.2.2.1.setCell 0 _
  rcases H2.out.2.2.2.2.1 with ⟨h0, rfl, rfl, _⟩ | ⟨g, rfl, hg, hcell⟩
  · have h0 : l = [] := List.eq_nil_of_length_eq_zero h0
    subst h0
    exact ⟨rfl, w.heap.size, Nat.le_refl _, fun h => absurd rfl h, ⟨none, 0, hbf, Nat.le_refl _, fun h => absurd rfl h⟩, hkw⟩
  · have hgd : g = w.heap.size := by
      rcases H2.out.2.2.2.2.2 with h | h
      · rw [hg] at h; simp [Value.ownBlock] at h
      · rw [hg] at h; simpa using h
    have hgn : g ≠ nb := by have := HB.out.lt; omega
    have hgl : g < w2.heap.size := own_lt H2.out.1 hg
    refine ⟨rfl, g, by omega, fun _ => Nat.lt_of_lt_of_le hgl hks.size, ⟨some ⟨g, 0, none⟩, cc, hbf, H2.out.2.2.2.1, fun _ => ⟨0, rfl, fun j v hj => ?_⟩⟩, hkw⟩
    exact hks.cell (hcell j v hj) (by simpa using hgn)
/-- The reader at block rr: over the buffer at b (bytes in d), its limit at mb, which is 0: none. -/
structure RS (w : World) (rr mb b d : Nat) (l : List UInt8) : Prop where
  blk : Blk w rr #[.iface 111 (.pointer (some ⟨b, 0, none⟩)), .pointer (some ⟨mb, 0, none⟩)] 119
  max : Blk w mb #[.int .u32 0] 70
  buf : Buf w b d l
  bd : b ≠ d
  rb : rr ≠ b
  mb' : mb ≠ b
  dlt : d < w.heap.size
theorem RS.kept {S : List Nat} {w w' : World} {rr mb b d : Nat} {l : List UInt8} (h : RS w rr mb b d l) (hk : Kept S w w') (h1 : rr ∉ S) (h2 : mb ∉ S) (h3 : b ∉ S) (h4 : d ∉ S) : RS w' rr mb b d l :=
  ⟨h.blk.kept hk h1, h.max.kept hk h2, h.buf.kept hk h3 h4, h.bd, h.rb, h.mb', Nat.lt_of_lt_of_le h.dlt hk.size⟩
theorem RS.step {S : List Nat} {w w' : World} {rr mb b d : Nat} {l l' : List UInt8} (h : RS w rr mb b d l) (hk : Kept S w w') (h1 : rr ∉ S) (h2 : mb ∉ S) (hb : Buf w' b d l') : RS w' rr mb b d l' :=
  ⟨h.blk.kept hk h1, h.max.kept hk h2, hb, h.bd, h.rb, h.mb', Nat.lt_of_lt_of_le h.dlt hk.size⟩
theorem RS.blt {w : World} {rr mb b d : Nat} {l : List UInt8} (h : RS w rr mb b d l) : b < w.heap.size := by
  obtain ⟨_, _, h1, _⟩ := h.buf; exact h1.lt
theorem Rd.buf_inv {w : World} {b d : Nat} {l : List UInt8} {ps Ns} (h : Rd w (.iface 111 (.pointer (some ⟨b, 0, none⟩))) ps d Ns l) : Buf w b d l := by
  generalize hr : (Value.iface 111 (.pointer (some ⟨b, 0, none⟩))) = r at h
  cases h with
  | buf b' d l hb hne => simp at hr; subst hr; exact hb
  | lim R ps d Ns l q N => simp at hr
end Go.Proofs.YtkcdakohmfodjaaGreat
