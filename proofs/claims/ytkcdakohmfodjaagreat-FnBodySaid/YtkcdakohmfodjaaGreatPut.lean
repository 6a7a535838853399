/-
  The reference's writer: a number's bytes, the highest one first.
-/
import Derived.Test.YtkcdakohmfodjaaGreatApp
import Derived.Test.YtkcdakohmfodjaaGreatProg
import Derived.Lib.Endian
import Derived.Lib.EndianBits
import Derived.RegionTactic
import Derived.Deep.RegionLaw
import Derived.Deep.LoopGhost
namespace Go.Proofs.YtkcdakohmfodjaaGreat
open Go.RowKit
set_option linter.unusedVariables false
set_option linter.unusedSimpArgs false

theorem infoPut : (Tryz.prog.info? 5).map (fun i => (i.zero, i.size, i.bytes)) = some (some (.int .u8 0), 1, 1) := by kernel_rfl

/-- The writer at block q holds the bytes l; its row is the block of bs, if it has one. -/
def Wr (T : TypeId) (w : World) (q : Nat) (bs : List Nat) (l : List UInt8) : Prop :=
  ∃ v, Blk w q #[v] T ∧ w.ownsRow 0 5 1 v l.length (u8s l) ∧ bs = v.ownBlock.toList ∧ q ∉ bs

theorem ownsRow_kept {S : List Nat} {w w' : World} {e : TypeId} {size : Nat} {v : Value} {n : Nat} {xs : List Value} (h : w.ownsRow 0 e size v n xs) (hk : Kept S w w') (hn : ∀ b, v.ownBlock = some b → b ∉ S) : w'.ownsRow 0 e size v n xs := by
  refine ⟨h.1, ?_⟩
  rcases h.2 with h2 | ⟨g, cap, cur, rfl, h3, h4, h5⟩
  · exact .inl h2
  · exact .inr ⟨g, cap, cur, rfl, h3, hk.heap h4 (hn g rfl), h5⟩

theorem Wr.kept {T : TypeId} {S : List Nat} {w w' : World} {q : Nat} {bs : List Nat} {l : List UInt8} (h : Wr T w q bs l) (hk : Kept S w w') (hq : q ∉ S) (hn : ∀ b ∈ bs, b ∉ S) : Wr T w' q bs l := by
  obtain ⟨v, h1, h2, rfl, h4⟩ := h
  exact ⟨v, h1.kept hk hq, ownsRow_kept h2 hk (fun b hb => hn b (by simp [hb])), rfl, h4⟩

theorem Wr.lt {T : TypeId} {w : World} {q : Nat} {bs : List Nat} {l : List UInt8} (h : Wr T w q bs l) : q < w.heap.size := by
  obtain ⟨v, h1, _⟩ := h; exact h1.lt

theorem Wr.blt {T : TypeId} {w : World} {q : Nat} {bs : List Nat} {l : List UInt8} (h : Wr T w q bs l) : ∀ b ∈ bs, b < w.heap.size := by
  obtain ⟨v, h1, h2, rfl, _⟩ := h
  intro b hb
  exact (World.ownsRow.lt h2 b (by simpa using hb)).2

/-- From w to w' the writer at q, whose row was bs, has written; its row is bs' now. -/
structure Adv (q : Nat) (bs bs' : List Nat) (w w' : World) : Prop where
  kept : Kept (q :: bs) w w'
  own : ∀ b ∈ bs', b ∈ bs ∨ w.heap.size ≤ b

theorem Adv.refl (q : Nat) (bs : List Nat) (w : World) : Adv q bs bs w w := ⟨Kept.refl _ _, fun _ h => .inl h⟩
theorem Adv.trans {q : Nat} {bs bs1 bs2 : List Nat} {w w1 w2 : World} (h : Adv q bs bs1 w w1) (k : Adv q bs1 bs2 w1 w2) : Adv q bs bs2 w w2 := by
  refine ⟨h.kept.trans k.kept (fun x hx => ?_), fun b hb => ?_⟩
  · simp only [List.mem_cons] at hx ⊢
    rcases hx with rfl | hx
    · exact .inl (.inl rfl)
    · rcases h.own x hx with h1 | h1
      · exact .inl (.inr h1)
      · exact .inr h1
  · rcases k.own b hb with h1 | h1
    · exact h.own b h1
    · exact .inr (Nat.le_trans h.kept.size h1)

theorem beBytes_get (bytes n k : Nat) (hk : k < bytes) : (Lib.beBytes bytes n)[k]? = some (UInt8.ofNat (n / 256 ^ (bytes - 1 - k))) := by
  have key : ∀ (m n j : Nat), j < m → (Lib.leBytes m n)[j]? = some (UInt8.ofNat (n / 256 ^ j)) := by
    intro m
    induction m with
    | zero => intro n j h; omega
    | succ m ih =>
      intro n j h
      cases j with
      | zero =>
        simp only [Lib.leBytes, List.getElem?_cons_zero, Nat.pow_zero, Nat.div_one, Nat.toUInt8]
        congr 1
        apply UInt8.toNat_inj.1
        simp
      | succ j =>
        simp only [Lib.leBytes, List.getElem?_cons_succ]
        rw [ih (n / 256) j (by omega), Nat.div_div_eq_div_mul, ← Nat.pow_succ']
  have hl : (Lib.leBytes bytes n).length = bytes := Lib.leBytes_length bytes n
  rw [Lib.beBytes, List.getElem?_reverse (by omega), hl, key bytes n (bytes - 1 - k) (by omega)]

theorem put_byte (n e : Nat) : (UInt8.ofNat (n / 256 ^ e)).toNat = n / 256 ^ e % 256 := by simp

theorem shift_byte (n e : Nat) : IntKind.u8.wrap ((n : Int) / 2 ^ (8 * (e : Int)).toNat) = ((UInt8.ofNat (n / 256 ^ e)).toNat : Int) := by
  have h : (2 : Int) ^ (8 * (e : Int)).toNat = ((256 ^ e : Nat) : Int) := by
    rw [show (8 * (e : Int)).toNat = 8 * e by omega, show (256 : Nat) = 2 ^ 8 from rfl, ← Nat.pow_mul]
    simp
  rw [h, put_byte]
  simp [IntKind.wrap, IntKind.bits, IntKind.signed]

theorem own_form {w : World} {e : TypeId} {v : Value} {n : Nat} {xs : List Value} (h : w.ownsRow 0 e 1 v n xs) (hn : 0 < n) : ∃ g c, v = .slice (some ⟨g, 0, none⟩) n c ∧ n ≤ c ∧ v.ownBlock = some g := by
  rcases h.2 with ⟨_, h0⟩ | ⟨g, cap, cur, rfl, _, _, hc, _⟩
  · omega
  · exact ⟨g, cap, rfl, hc, rfl⟩

/-- One byte more: what an append into the writer's row and the store of the row's new value leave. -/
theorem wr_push {T : TypeId} {wr wa w1 : World} {q gb gc : Nat} {bs : List Nat} {v : Value} {l : List UInt8} {x : UInt8} (hq : q < wr.heap.size) (hbs : bs = v.ownBlock.toList) (hne : ∀ b, v.ownBlock = some b → b ≠ q) (hka : Kept [] wr wa)
    (h1 : w1.ownsRow 0 5 1 (.slice (some ⟨gb, 0, none⟩) (l.length + 1) gc) (l.length + 1) (u8s l ++ [.int .u8 (x.toNat : Int)])) (h2 : wa.grownBy w1 v.ownBlock)
    (h3 : (Value.slice (some ⟨gb, 0, none⟩) (l.length + 1) gc).ownBlock = v.ownBlock ∨ (Value.slice (some ⟨gb, 0, none⟩) (l.length + 1) gc).ownBlock = some wa.heap.size)
    (hk : Blk w1 q #[v] T) :
    Wr T (w1.setCell ⟨q, 0, none⟩ (.slice (some ⟨gb, 0, none⟩) (l.length + 1) gc)) q [gb] (l ++ [x]) ∧ Adv q bs [gb] wr (w1.setCell ⟨q, 0, none⟩ (.slice (some ⟨gb, 0, none⟩) (l.length + 1) gc)) := by
  have hg : gb ≠ q := by
    rcases h3 with h | h
    · exact hne gb h.symm
    · have := hka.size; simp [Value.ownBlock] at h; omega
  refine ⟨⟨_, hk.setCell 0 _, ?_, rfl, by simpa using Ne.symm hg⟩, ⟨?_, ?_⟩⟩
  · have := ownsRow_kept (S := [q]) h1 ((Kept.refl [q] w1).setCell (p := ⟨q, 0, none⟩) (by simp) (.slice (some ⟨gb, 0, none⟩) (l.length + 1) gc)) (fun b hb => by simp [Value.ownBlock] at hb; subst hb; simpa using hg)
    simpa [u8s_append] using this
  · refine Kept.setCell (Kept.grown (hka.mono (by simp)) h2 (fun k hk => .inl (by simp [hbs, hk]))) (by simp) _
  · intro b hb
    simp at hb; subst hb
    rcases h3 with h | h
    · exact .inl (by rw [hbs, ← h]; simp [Value.ownBlock])
    · have := hka.size; simp [Value.ownBlock] at h; exact .inr (by omega)

theorem take_step (bytes n e : Nat) (h : e + 1 ≤ bytes) : (Lib.beBytes bytes n).take (bytes - e) = (Lib.beBytes bytes n).take (bytes - (e + 1)) ++ [UInt8.ofNat (n / 256 ^ e)] := by
  rw [show bytes - e = (bytes - (e + 1)) + 1 by omega]
  have hg := beBytes_get bytes n (bytes - (e + 1)) (by omega)
  rw [show bytes - 1 - (bytes - (e + 1)) = e by omega] at hg
  rw [List.take_add_one, hg]
  rfl

set_option maxHeartbeats 1000000 in
set_option maxRecDepth 100000 in
theorem put_any (q n bytes : Nat) (bs : List Nat) (l : List UInt8) (w : World) (hw : Wr 61 w q bs l) (hn : n < 18446744073709551616) (hb : bytes ≤ 8) (hl : l.length ≤ 70368744177664) :
    Calls Tryz.prog 21 #[.pointer (some ⟨q, 0, none⟩), .int .u64 (n : Int), .int .i64 (bytes : Int)] w fun e w' => e = .returned (.tuple #[]) ∧
      ∃ bs', Wr 61 w' q bs' (l ++ Lib.beBytes bytes n) ∧ Adv q bs bs' w w' := by
  have HW := Lib.hid hw; have HN := Lib.hid hn
  have hb' : (bytes : Int) ≤ 8 := by omega
  obtain ⟨i, hi, hz0, hz1, hz2⟩ := info_parts infoPut
  have HI := Lib.hid (And.intro hi (And.intro hz0 (And.intro hz1 hz2)))
  clear hw hn hi hz0 hz1 hz2
  go_enter Tryz.func21, Tryz.ntmps21
  go_wp2
  go_loopw [6] (fun iv wr => ∃ e bs1, e ≤ bytes ∧ iv = .int .i64 ((e : Int) - 1) ∧ Wr 61 wr q bs1 (l ++ (Lib.beBytes bytes n).take (bytes - e)) ∧ Adv q bs bs1 w wr)
    (fun iv _ => (intOf iv + 1).toNat)
  case atStart => exact ⟨bytes, bs, Nat.le_refl _, rfl, by simpa using HW.out, Adv.refl _ _ _⟩
  case round =>
    obtain ⟨e, bs1, he, rfl, hwr, hadv⟩ := hrel
    have HR := Lib.hid (And.intro hwr hadv); clear hwr hadv
    cases e with
    | zero =>
      go_wp2
      go_end0
      refine ⟨rfl, bs1, ?_, HR.out.2⟩
      have := HR.out.1
      rwa [Nat.sub_zero, List.take_of_length_le (by simp [Lib.beBytes_length])] at this
    | succ e =>
      have h0 : (0 : Int) ≤ (e : Int) := by omega
      have he8 : (e : Int) ≤ 7 := by omega
      rw [show (((e + 1 : Nat) : Int) - 1) = (e : Int) by omega]
      obtain ⟨v, q1, q2, q3, q4⟩ := HR.out.1
      have c0 := q1.cell0
      have hqs : q < wr.heap.size := q1.lt
      have hm : IntKind.i64.wrap (8 * (e : Int)) = 8 * (e : Int) := by rw [IntKind.wrap_i64]; omega
      obtain ⟨x, hx, hxe⟩ : ∃ x : UInt8, IntKind.u8.wrap ((n : Int) / 2 ^ (8 * (e : Int)).toNat) = (x.toNat : Int) ∧ x = UInt8.ofNat (n / 256 ^ e) := ⟨_, shift_byte n e, rfl⟩
      have hka : Kept [] wr (wr.alloc (.cells #[.int .u8 (x.toNat : Int)] 5)).drew := ((Kept.refl [] wr).alloc _).drew
      have hown : (wr.alloc (.cells #[.int .u8 (x.toNat : Int)] 5)).drew.ownsRow 0 5 1 v _ _ := ownsRow_kept q2 hka (by simp)
      have hnew : ∀ j u, [Value.int .u8 (x.toNat : Int)][j]? = some u → (wr.alloc (.cells #[.int .u8 (x.toNat : Int)] 5)).drew.cell? ((⟨wr.heap.size, 0, none⟩ : Addr).add j) = some u := cell_one_new _ _ _
      have hone : ∀ u ∈ [Value.int .u8 (x.toNat : Int)], u.oneCell' = true := by simp [Value.oneCell']
      have hlen : (l ++ (Lib.beBytes bytes n).take (bytes - (e + 1))).length + 1 ≤ 140737488355328 := by simp; omega
      have hlen' : ((l ++ (Lib.beBytes bytes n).take (bytes - (e + 1))).length + 1) * 1 ≤ 140737488355328 := by omega
      have hne : ∀ b, v.ownBlock = some b → b ≠ q := fun b hb e => q4 (by rw [q3, hb, e]; simp)
      have HQ := Lib.hid (And.intro q1 (And.intro hka (And.intro hown (And.intro hnew (And.intro hlen' (And.intro hlen hne))))))
      have HX := Lib.hid hxe; have HB := Lib.hid (And.intro q2 (And.intro q3 q4))
      clear q1 q2 q3 q4 hka hown hnew hlen hlen' hne hxe
      go_wp2
      go_region_law (refine step_append2 _ rfl (.tmp 16) (.tmp 22) 61 rfl 5 i (.int .u8 0) 1 1 Tryz.underlying61 HI.out.1 HI.out.2.1 HI.out.2.2.1 HI.out.2.2.2 rfl (by decide) v _ _ (by simp [Act.eval, Act.put]) HQ.out.2.2.1 ⟨wr.heap.size, 0, none⟩ 1 1 [.int .u8 (x.toNat : Int)] (by simp [Act.eval, Act.put]) rfl HQ.out.2.2.2.1 hone HQ.out.2.2.2.2.1 HQ.out.2.2.2.2.2.1 ?_; intro v' w1 g1 g2 g3; obtain ⟨gb, gc, rfl, g4, g5⟩ := own_form g1 (Nat.succ_pos _); have k1 : Blk w1 q #[v] 61 := (HQ.out.1.kept HQ.out.2.1 (by simp)).kept ((Kept.refl v.ownBlock.toList _).grown g2 (fun k hk => .inl (by simp [hk]))) (fun hm => HQ.out.2.2.2.2.2.2 q (by simpa using hm) rfl); have c1 := k1.cell0; have f1 := k1.free 0; have HG := Lib.hid (And.intro g1 (And.intro g2 (And.intro g3 (And.intro g4 (And.intro g5 k1))))); clear g1 g2 g3 g4 g5 k1)
      all_goals
        go_wp2
        go_roundw
        case rel =>
          obtain ⟨s1, s2⟩ := wr_push hqs HB.out.2.1 HQ.out.2.2.2.2.2.2 HQ.out.2.1 HG.out.1 HG.out.2.1 HG.out.2.2.1 HG.out.2.2.2.2.2
          simp only [List.length_append, List.length_take] at s1 s2
          refine ⟨e, [gb], by omega, rfl, ?_, HR.out.2.trans s2⟩
          rw [take_step bytes n e he, ← HX.out, ← List.append_assoc]
          exact s1
        case measure => simp [intOf]

end Go.Proofs.YtkcdakohmfodjaaGreat
