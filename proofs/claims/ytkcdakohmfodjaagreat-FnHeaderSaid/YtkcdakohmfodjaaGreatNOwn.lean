/-
  Lemmas on the way to the statement of YtkcdakohmfodjaaGreatHeader, joined out of these texts: Own, Buf, Put, SpW, Fb. No condition.
-/
import Derived.Deep.Cut
import Derived.Deep.LoopGhost
import Derived.Deep.RegionLaw
import Derived.Lib.AppendStr
import Derived.Lib.Endian
import Derived.Lib.EndianBits
import Derived.Lib.Hide
import Derived.RegionTactic
import Derived.StillTailTactics
import Derived.Test.YtkcdakohmfodjaaGreatNValLaw
import Derived.Test.YtkcdakohmfodjaaGreatProg
namespace Go.Proofs.YtkcdakohmfodjaaGreat
open Go.RowKit
set_option linter.unusedVariables false
set_option linter.unusedSimpArgs false
/-- The cells are those of the elements, one after the other, n each. -/
def ECells {α : Type} (n : Nat) (R : List Value → α → Prop) (cells : List Value) : List α → Prop
  | [] => cells = []
  | x :: l => ∃ cs rest, cells = cs ++ rest ∧ cs.length = n ∧ R cs x ∧ ECells n R rest l
section
variable {α : Type} {n : Nat} {R R' : List Value → α → Prop}
theorem ECells.imp {cells : List Value} {l : List α} (h : ECells n R cells l) (hi : ∀ cs x, R cs x → R' cs x) : ECells n R' cells l := by
  induction l generalizing cells with
  | nil => exact h
  | cons x l ih =>
    obtain ⟨cs, rest, h1, h2, h3, h4⟩ := h
    exact ⟨cs, rest, h1, h2, hi _ _ h3, ih h4⟩
theorem ECells.length {cells : List Value} {l : List α} (h : ECells n R cells l) : cells.length = l.length * n := by
  induction l generalizing cells with
  | nil => have h : cells = [] := h; subst h; simp
  | cons x l ih =>
    obtain ⟨cs, rest, rfl, h2, h3, h4⟩ := h
    rw [List.length_append, h2, ih h4, List.length_cons, Nat.add_mul]; omega
theorem ECells.snoc {cells cs : List Value} {l : List α} {x : α} (h : ECells n R cells l) (hl : cs.length = n) (hx : R cs x) : ECells n R (cells ++ cs) (l ++ [x]) := by
  induction l generalizing cells with
  | nil => have h : cells = [] := h; subst h; exact ⟨cs, [], by simp, hl, hx, rfl⟩
  | cons y l ih =>
    obtain ⟨cs', rest, rfl, h2, h3, h4⟩ := h
    exact ⟨cs', rest ++ cs, by simp, h2, h3, ih h4⟩
theorem ECells.get {cells : List Value} {l : List α} (h : ECells n R cells l) (i : Nat) (x : α) (hi : l[i]? = some x) : ∃ cs, cs.length = n ∧ R cs x ∧ ∀ j u, cs[j]? = some u → cells[i * n + j]? = some u := by
  induction l generalizing cells i with
  | nil => simp at hi
  | cons y l ih =>
    obtain ⟨cs', rest, rfl, h2, h3, h4⟩ := h
    cases i with
    | zero =>
      simp only [List.getElem?_cons_zero, Option.some.injEq] at hi
      subst hi
      refine ⟨cs', h2, h3, fun j u hj => ?_⟩
      have : j < cs'.length := by
        rcases Nat.lt_or_ge j cs'.length with h | h
        · exact h
        · rw [List.getElem?_eq_none h] at hj; cases hj
      rw [Nat.zero_mul, Nat.zero_add, List.getElem?_append_left this]; exact hj
    | succ i =>
      obtain ⟨cs, a, b, c⟩ := ih h4 i (by simpa using hi)
      refine ⟨cs, a, b, fun j u hj => ?_⟩
      rw [List.getElem?_append_right (by rw [h2, Nat.add_mul]; omega), show (i + 1) * n + j - cs'.length = i * n + j by rw [h2, Nat.add_mul]; omega]
      exact c j u hj
end
/-- A field's cells: its name and its value's. -/
def FHeld (B : Nat → Prop) (w : World) (cs : List Value) (x : Fld) : Prop := ∃ cs', cs = .string (bstr x.name) :: cs' ∧ VHeld B w cs' x.val
/-- What a predicate on cells bears: blocks elsewhere may be written. -/
structure Bears {α : Type} (n : Nat) (R : (Nat → Prop) → World → List Value → α → Prop) : Prop where
  kept : ∀ {B : Nat → Prop} {S : List Nat} {w w' : World} {cs : List Value} {x : α}, R B w cs x → Kept S w w' → (∀ b, B b → b ∉ S) → R B w' cs x
  mono : ∀ {B B' : Nat → Prop} {w : World} {cs : List Value} {x : α}, R B w cs x → (∀ b, B b → b < w.heap.size → B' b) → R B' w cs x
  len : ∀ {B : Nat → Prop} {w : World} {cs : List Value} {x : α}, R B w cs x → cs.length = n
  one : ∀ {B : Nat → Prop} {w : World} {cs : List Value} {x : α}, R B w cs x → ∀ u ∈ cs, u.oneCell' = true
theorem VHeld.one {B : Nat → Prop} {w : World} {cs : List Value} {v : Val} (h : VHeld B w cs v) : ∀ u ∈ cs, u.oneCell' = true := by
  cases v with
  | mk k n f sc text kids flds => unfold VHeld at h; obtain ⟨ka, kc, fa, fc, rfl, _⟩ := h; simp [Value.oneCell']
theorem bears_val : Bears 7 VHeld := ⟨fun h hk hB => VHeld.kept hk hB _ h, fun h hB => VHeld.mono hB _ h, fun h => h.ne, fun h => h.one⟩
theorem bears_fld : Bears 8 FHeld := ⟨fun ⟨cs, h1, h2⟩ hk hB => ⟨cs, h1, VHeld.kept hk hB _ h2⟩, fun ⟨cs, h1, h2⟩ hB => ⟨cs, h1, VHeld.mono hB _ h2⟩, fun ⟨cs, h1, h2⟩ => by rw [h1, List.length_cons, h2.ne],
  fun ⟨cs, h1, h2⟩ u hu => by rw [h1] at hu; rcases List.mem_cons.1 hu with rfl | hu; rfl; exact h2.one u hu⟩
/-- A slice that the program itself has made: its elements, whose own data lie in other blocks, from base on. -/
def OwnE {α : Type} (T : TypeId) (n : Nat) (R : (Nat → Prop) → World → List Value → α → Prop) (base : Nat) (w : World) (out : Value) (xs : List α) : Prop :=
  ∃ cells, w.ownsRow 0 T n out xs.length cells ∧ ECells n (R (fun b => base ≤ b ∧ out.ownBlock ≠ some b) w) cells xs ∧ (∀ g, out.ownBlock = some g → base ≤ g)
section
variable {α : Type} {T : TypeId} {n : Nat} {R : (Nat → Prop) → World → List Value → α → Prop} {base : Nat} {w w' : World} {out : Value} {xs : List α}
theorem OwnE.nil (T : TypeId) (n : Nat) (R : (Nat → Prop) → World → List Value → α → Prop) (base : Nat) (w : World) : OwnE T n R base w (.slice none 0 0) [] :=
  ⟨[], World.ownsRow_nil _ _ _ _, rfl, fun g hg => by simp [Value.ownBlock] at hg⟩
theorem ownsRow_kept' {S : List Nat} {e : TypeId} {size : Nat} {v : Value} {k : Nat} {xs : List Value} (h : w.ownsRow 0 e size v k xs) (hk : Kept S w w') (hn : ∀ b, v.ownBlock = some b → b ∉ S) : w'.ownsRow 0 e size v k xs := by
  refine ⟨h.1, ?_⟩
  rcases h.2 with h2 | ⟨g, cap, cur, rfl, h3, h4, h5⟩
  · exact .inl h2
  · exact .inr ⟨g, cap, cur, rfl, h3, hk.heap h4 (hn g rfl), h5⟩
theorem OwnE.kept {S : List Nat} (h : OwnE T n R base w out xs) (hR : Bears n R) (hk : Kept S w w') (hS : ∀ b, base ≤ b → b ∉ S) : OwnE T n R base w' out xs := by
  obtain ⟨cells, h1, h2, h3⟩ := h
  exact ⟨cells, ownsRow_kept' h1 hk (fun b hb => hS b (h3 b hb)), h2.imp fun cs x hx => hR.kept hx hk (fun b hb => hS b hb.1), h3⟩
/-- The elements' data stay, but the row itself is being written. -/
theorem OwnE.push {wa : World} {v' : Value} {cells cs : List Value} {x : α} (hR : Bears n R) (h2 : ECells n (R (fun b => base ≤ b ∧ out.ownBlock ≠ some b) wa) cells xs) (h3 : ∀ g, out.ownBlock = some g → base ≤ g) (hb : base ≤ wa.heap.size)
    (hx : R (fun b => base ≤ b ∧ out.ownBlock ≠ some b) wa cs x) (g1 : w'.ownsRow 0 T n v' (xs.length + 1) (cells ++ cs)) (g2 : wa.grownBy w' out.ownBlock) (g3 : v'.ownBlock = out.ownBlock ∨ v'.ownBlock = some wa.heap.size) :
    OwnE T n R base w' v' (xs ++ [x]) ∧ Kept out.ownBlock.toList wa w' := by
  have hk : Kept out.ownBlock.toList wa w' := (Kept.refl _ wa).grown g2 (fun k hk => .inl (by simp [hk]))
  have step : ∀ cs x, R (fun b => base ≤ b ∧ out.ownBlock ≠ some b) wa cs x → R (fun b => base ≤ b ∧ v'.ownBlock ≠ some b) w' cs x := fun cs x hx => by
    have a1 := hR.mono (B' := fun b => base ≤ b ∧ out.ownBlock ≠ some b ∧ b < wa.heap.size) hx (fun b hb hl => ⟨hb.1, hb.2, hl⟩)
    have a2 := hR.kept a1 hk (fun b hb hm => hb.2.1 (by simpa using hm))
    refine hR.mono a2 (fun b hb _ => ⟨hb.1, ?_⟩)
    rcases g3 with g3 | g3
    · rw [g3]; exact hb.2.1
    · rw [g3]; intro e; simp at e; omega
  refine ⟨⟨cells ++ cs, by simpa using g1, (h2.imp step).snoc (hR.len hx) (step _ _ hx), fun g hg => ?_⟩, hk⟩
  rcases g3 with g3 | g3
  · exact h3 g (by rw [← g3]; exact hg)
  · rw [g3] at hg; simp at hg; omega
end
theorem own_lt {w : World} {e : TypeId} {size : Nat} {v : Value} {k : Nat} {xs : List Value} (h : w.ownsRow 0 e size v k xs) {g : Nat} (hg : v.ownBlock = some g) : g < w.heap.size := by
  rcases h.2 with ⟨rfl, _⟩ | ⟨g', cap, cur, rfl, h3, h4, _⟩
  · simp [Value.ownBlock] at hg
  · simp only [Value.ownBlock, Option.some.injEq] at hg
    subst hg
    exact lt_of_block h4
theorem own_move {α : Type} {T : TypeId} {n : Nat} {R : (Nat → Prop) → World → List Value → α → Prop} {base : Nat} {w w' : World} {out : Value} {xs : List α} {cells : List Value} {S : List Nat} (hR : Bears n R)
    (o1 : w.ownsRow 0 T n out xs.length cells) (o2 : ECells n (R (fun b => base ≤ b ∧ out.ownBlock ≠ some b) w) cells xs) (o3 : ∀ g, out.ownBlock = some g → base ≤ g) (hS : ∀ b, base ≤ b → b ∉ S) (hk : Kept S w w') :
    w'.ownsRow 0 T n out xs.length cells ∧ ECells n (R (fun b => base ≤ b ∧ out.ownBlock ≠ some b) w') cells xs :=
  ⟨ownsRow_kept' o1 hk (fun b hb => hS b (o3 b hb)), o2.imp fun cs x hx => hR.kept hx hk (fun b hb => hS b hb.1)⟩
theorem fat_of {B : Nat → Prop} {w : World} {g : Nat} (hB : B g) : ∀ (l : List Fld) (o : Nat) (cells : List Value), ECells 8 (FHeld B w) cells l → (∀ j u, cells[j]? = some u → w.cell? ⟨g, o + j, none⟩ = some u) → FAt B w ⟨g, o, none⟩ l := by
  intro l
  induction l with
  | nil => intro o cells h hc; unfold FAt; trivial
  | cons x l ih =>
    intro o cells h hc
    obtain ⟨cs, rest, rfl, h2, ⟨cs', h3, h4⟩, h5⟩ := h
    cases x with
    | mk name v =>
      unfold FAt
      refine ⟨cs', ⟨hB, fun j u hj => ?_⟩, h4, ?_⟩
      · rw [addr_add]
        have h3 : cs = .string (bstr name) :: cs' := h3
        rw [← h3] at hj
        refine hc j u ?_
        have : j < cs.length := by
          rcases Nat.lt_or_ge j cs.length with h | h
          · exact h
          · rw [List.getElem?_eq_none h] at hj; cases hj
        rw [List.getElem?_append_left this]; exact hj
      · rw [addr_add]
        refine ih (o + 8) rest h5 fun j u hj => ?_
        have := hc (8 + j) u (by rw [List.getElem?_append_right (by omega), show 8 + j - cs.length = j by omega]; exact hj)
        rw [← Nat.add_assoc] at this
        exact this
theorem kat_of {B : Nat → Prop} {w : World} {g : Nat} (hB : B g) : ∀ (l : List Val) (o : Nat) (cells : List Value), ECells 7 (VHeld B w) cells l → (∀ j u, cells[j]? = some u → w.cell? ⟨g, o + j, none⟩ = some u) → KAt B w ⟨g, o, none⟩ l := by
  intro l
  induction l with
  | nil => intro o cells h hc; unfold KAt; trivial
  | cons x l ih =>
    intro o cells h hc
    obtain ⟨cs, rest, rfl, h2, h4, h5⟩ := h
    unfold KAt
    refine ⟨cs, ⟨hB, fun j u hj => ?_⟩, h4, ?_⟩
    · rw [addr_add]
      refine hc j u ?_
      have : j < cs.length := by
        rcases Nat.lt_or_ge j cs.length with h | h
        · exact h
        · rw [List.getElem?_eq_none h] at hj; cases hj
      rw [List.getElem?_append_left this]; exact hj
    · rw [addr_add]
      refine ih (o + 7) rest h5 fun j u hj => ?_
      have := hc (7 + j) u (by rw [List.getElem?_append_right (by omega), show 7 + j - cs.length = j by omega]; exact hj)
      rw [← Nat.add_assoc] at this
      exact this
theorem own_slice {w : World} {e : TypeId} {size : Nat} {v : Value} {k : Nat} {xs : List Value} (h : w.ownsRow 0 e size v k xs) : ∃ ao c, v = .slice ao k c ∧ k ≤ c ∧ ((k = 0 ∧ ao = none ∧ c = 0 ∧ v.ownBlock = none) ∨ ∃ g, ao = some ⟨g, 0, none⟩ ∧ v.ownBlock = some g ∧ ∀ j u, xs[j]? = some u → w.cell? ⟨g, 0 + j, none⟩ = some u) := by
  have hc := fun g (hg : v.ownBlock = some g) => h.cells (g := g) hg
  rcases h.2 with ⟨rfl, hn⟩ | ⟨g, cap, cur, rfl, h3, h4, h5, h6⟩
  · subst hn; exact ⟨none, 0, rfl, Nat.le_refl _, .inl ⟨rfl, rfl, rfl, rfl⟩⟩
  · refine ⟨some ⟨g, 0, none⟩, cap, rfl, h5, .inr ⟨g, rfl, rfl, fun j u hj => ?_⟩⟩
    have := hc g rfl j u hj
    rwa [addr_add] at this
theorem OwnE.fsl {T : TypeId} {base : Nat} {w : World} {out : Value} {xs : List Fld} (h : OwnE T 8 FHeld base w out xs) : FSl (fun b => base ≤ b) w out xs := by
  obtain ⟨cells, h1, h2, h3⟩ := h
  obtain ⟨ao, c, rfl, hc, hh⟩ := own_slice h1
  refine ⟨ao, c, rfl, hc, fun hne => ?_, ?_⟩
  · rcases hh with ⟨h0, _⟩ | ⟨g, rfl, _⟩
    · exact absurd (List.eq_nil_of_length_eq_zero h0) hne
    · rfl
  · rcases hh with ⟨h0, _⟩ | ⟨g, rfl, hg, hcell⟩
    · rw [List.eq_nil_of_length_eq_zero h0]; unfold FAt; trivial
    · exact fat_of (h3 g hg) xs 0 cells (h2.imp fun cs x hx => bears_fld.mono hx fun b hb _ => hb.1) hcell
theorem OwnE.ksl {T : TypeId} {base : Nat} {w : World} {out : Value} {xs : List Val} (h : OwnE T 7 VHeld base w out xs) : KSl (fun b => base ≤ b) w out xs := by
  obtain ⟨cells, h1, h2, h3⟩ := h
  obtain ⟨ao, c, rfl, hc, hh⟩ := own_slice h1
  refine ⟨ao, c, rfl, hc, fun hne => ?_, ?_⟩
  · rcases hh with ⟨h0, _⟩ | ⟨g, rfl, _⟩
    · exact absurd (List.eq_nil_of_length_eq_zero h0) hne
    · rfl
  · rcases hh with ⟨h0, _⟩ | ⟨g, rfl, hg, hcell⟩
    · rw [List.eq_nil_of_length_eq_zero h0]; unfold KAt; trivial
    · exact kat_of (h3 g hg) xs 0 cells (h2.imp fun cs x hx => bears_val.mono hx fun b hb _ => hb.1) hcell
set_option maxHeartbeats 400000 in
theorem len_any (b : Nat) (ao : Option Addr) (n c : Nat) (w : World) (h0 : w.cell? ⟨b, 0, none⟩ = some (.slice ao n c)) :
    Calls Tryz.prog 44 #[.pointer (some ⟨b, 0, none⟩)] w fun e w' => e = .returned (.int .i64 n) ∧ w = w' := by
  go_enter Tryz.func44, Tryz.ntmps44
  go_wp2
  go_ret
  exact ⟨rfl, rfl⟩
set_option maxHeartbeats 400000 in
theorem bytes_any (b : Nat) (v : Value) (w : World) (h0 : w.cell? ⟨b, 0, none⟩ = some v) :
    Calls Tryz.prog 75 #[.pointer (some ⟨b, 0, none⟩)] w fun e w' => e = .returned v ∧ w = w' := by
  go_enter Tryz.func75, Tryz.ntmps75
  go_wp2
  go_ret
  exact ⟨rfl, rfl⟩
set_option maxHeartbeats 400000 in
theorem read_end (b : Nat) (ao bo : Option Addr) (c n m : Nat) (w : World) (h0 : w.cell? ⟨b, 0, none⟩ = some (.slice ao 0 c)) (hn : ((n : Int) == 0) = false) :
    Calls Tryz.prog 237 #[.pointer (some ⟨b, 0, none⟩), .slice bo n m] w fun e w' =>
      e = .returned (.tuple #[.int .i64 0, .iface 194 (.string ⟨#[69, 79, 70]⟩)]) ∧ w = w' := by
  go_enter Tryz.func237, Tryz.ntmps237
  go_wp2
  go_ret2
  exact ⟨rfl, rfl⟩
/-- The buffer at block b, whose bytes lie in block d, is about to give l. -/
def Buf (w : World) (b d : Nat) (l : List UInt8) : Prop :=
  ∃ ao c, Blk w b #[.slice ao l.length c] 113 ∧ l.length ≤ c ∧
    (l ≠ [] → ∃ off, ao = some ⟨d, off, none⟩ ∧ ∀ j v, (u8s l)[j]? = some v → w.cell? ⟨d, off + j, none⟩ = some v)
theorem Buf.kept {S : List Nat} {w w' : World} {b d : Nat} {l : List UInt8} (h : Buf w b d l) (hk : Kept S w w') (hb : b ∉ S) (hd : d ∉ S) : Buf w' b d l := by
  obtain ⟨ao, c, h1, h2, h3⟩ := h
  refine ⟨ao, c, h1.kept hk hb, h2, fun hl => ?_⟩
  obtain ⟨off, h4, h5⟩ := h3 hl
  exact ⟨off, h4, fun j v hj => hk.cell (h5 j v hj) hd⟩
set_option maxHeartbeats 400000 in
theorem read_some {te : TypeId} (b d off c g o n m : Nat) (l : List UInt8) (cur : List Value) (w : World) (hb : Blk w b #[.slice (some ⟨d, off, none⟩) l.length c] 113) (hc : l.length ≤ c)
    (hs : ∀ j v, (u8s l)[j]? = some v → w.cell? ⟨d, off + j, none⟩ = some v) (hl : 0 < l.length) (hg : Blk w g cur.toArray te) (hfit : o + n ≤ cur.length) (hbg : b ≠ g) (k : Nat) (hk : k = min l.length n) :
    Calls Tryz.prog 237 #[.pointer (some ⟨b, 0, none⟩), .slice (some ⟨g, o, none⟩) n m] w fun e w' => e = .returned (.tuple #[.int .i64 (k : Int), .nilIface]) ∧
      ∃ w1, Blk w1 g (splice cur o (u8s (l.take k))).toArray te ∧ Kept [g] w w1 ∧
        w' = w1.setCell ⟨b, 0, none⟩ (.slice (if c = k then some ⟨d, off, none⟩ else some ⟨d, off + k, none⟩) (l.length - k) (c - k)) := by
  have h0 := hb.cell0
  have hne : ((l.length : Int) == 0) = false := by simp only [beq_eq_false_iff_ne]; omega
  have hk1 : (k : Int) ≤ l.length := by omega
  have hk2 : (l.length : Int) ≤ c := by omega
  have hs' : ∀ j v, (u8s (l.take k))[j]? = some v → w.cell? ((⟨d, off, none⟩ : Addr).add j) = some v := fun j v hj => by
    rw [addr_add]
    apply hs
    rw [u8s_get] at hj ⊢
    rw [List.getElem?_take] at hj
    split at hj
    · exact hj
    · simp at hj
  have HS := Lib.hid hs'
  have HK := Lib.hid hk; clear hk hs'
  go_enter Tryz.func237, Tryz.ntmps237
  go_wp2_with (with_reducible refine wpList_copy2 rfl (.tmp 17) (.tmp 21) 22 22 rfl 5 Tryz.underlying22 (by kernel_rfl) g o n m ⟨d, off, none⟩ l.length c rfl rfl cur te hg (u8s (l.take k)) k ?hn HK.out ?hsrc ?hfit (u8s_one _) ?_)
  case hn => simp; omega
  case hsrc => exact HS.out
  case hfit => have := HK.out; omega
  intro w1 hg1 hk1
  have hb1 := hb.kept hk1 (by simp [hbg])
  have h0 := hb1.cell0
  have hf := hb1.free 0
  have HP := Lib.hid (And.intro hg1 hk1)
  clear hg1 hk1 hs hb hg hne hb1
  go_wp2
  all_goals
    go_ret2
    exact ⟨rfl, w1, HP.out.1, HP.out.2, rfl⟩
theorem u8s_drop_get {l : List UInt8} {k j : Nat} {v : Value} (h : (u8s (l.drop k))[j]? = some v) : (u8s l)[k + j]? = some v := by
  rw [u8s_get] at h ⊢
  rw [List.getElem?_drop] at h
  exact h
/-- A read out of a buffer that is not empty: as many bytes as there are, or as there is room for. -/
theorem read_any {te : TypeId} (b d g o n m : Nat) (l : List UInt8) (cur : List Value) (w : World) (hb : Buf w b d l) (hl : l ≠ []) (hg : Blk w g cur.toArray te) (hfit : o + n ≤ cur.length)
    (hbg : b ≠ g) (hbd : b ≠ d) (hdg : d ≠ g) (k : Nat) (hk : k = min l.length n) :
    Calls Tryz.prog 237 #[.pointer (some ⟨b, 0, none⟩), .slice (some ⟨g, o, none⟩) n m] w fun e w' => e = .returned (.tuple #[.int .i64 (k : Int), .nilIface]) ∧
      Buf w' b d (l.drop k) ∧ Blk w' g (splice cur o (u8s (l.take k))).toArray te ∧ Kept [b, g] w w' := by
  obtain ⟨ao, c, h1, h2, h3⟩ := hb
  obtain ⟨off, rfl, h5⟩ := h3 hl
  refine (read_some b d off c g o n m l cur w h1 h2 h5 (List.length_pos_iff.2 hl) hg hfit hbg k hk).mono fun e w' h => ?_
  obtain ⟨rfl, w1, hg1, hk1, rfl⟩ := h
  have hb1 : Blk w1 b #[.slice (some ⟨d, off, none⟩) l.length c] 113 := h1.kept hk1 (by simp [hbg])
  refine ⟨rfl, ⟨if c = k then some ⟨d, off, none⟩ else some ⟨d, off + k, none⟩, c - k, ?_, by simp; omega, fun hne => ?_⟩, hg1.setCell_other (by simpa using Ne.symm hbg) _, ?_⟩
  · have := hb1.setCell 0 (.slice (if c = k then some ⟨d, off, none⟩ else some ⟨d, off + k, none⟩) (l.length - k) (c - k))
    simpa using this
  · have hlt : k < l.length := by
      have : 0 < (l.drop k).length := List.length_pos_iff.2 hne
      simp at this; omega
    refine ⟨off + k, by rw [if_neg (by omega)], fun j v hj => ?_⟩
    have hc := hk1.cell (h5 (k + j) v (u8s_drop_get hj)) (by simp [hdg])
    rw [World.cell?_of_block (Below.heap_setCell _ _ _ _ (by simpa using Ne.symm hbd))]
    rw [Nat.add_assoc]; exact hc
  · exact (hk1.mono (by simp)).setCell (by simp) _
theorem read_none (b d n m : Nat) (bo : Option Addr) (w : World) (hb : Buf w b d []) (hn : 0 < n) :
    Calls Tryz.prog 237 #[.pointer (some ⟨b, 0, none⟩), .slice bo n m] w fun e w' =>
      e = .returned (.tuple #[.int .i64 0, .iface 194 (.string ⟨#[69, 79, 70]⟩)]) ∧ w = w' := by
  obtain ⟨ao, c, h1, _, _⟩ := hb
  exact read_end b ao bo c n m w h1.cell0 (by simp only [beq_eq_false_iff_ne]; omega)
theorem blen_any (b d : Nat) (l : List UInt8) (w : World) (hb : Buf w b d l) :
    Calls Tryz.prog 44 #[.pointer (some ⟨b, 0, none⟩)] w fun e w' => e = .returned (.int .i64 (l.length : Int)) ∧ w = w' := by
  obtain ⟨ao, c, h1, _, _⟩ := hb
  exact len_any b ao l.length c w h1.cell0
theorem infoPut : (Tryz.prog.info? 5).map (fun i => (i.zero, i.size, i.bytes)) = some (some (.int .u8 0), 1, 1) := by kernel_rfl
/-- The writer at block q holds the bytes l; its row is the block of bs, if it has one. -/
def Wr (T : TypeId) (w : World) (q : Nat) (bs : List Nat) (l : List UInt8) : Prop :=
  ∃ v, Blk w q #[v] T ∧ w.ownsRow 0 5 1 v l.length (u8s l) ∧ bs = v.ownBlock.toList ∧ q ∉ bs
theorem ownsRow_kept {S : List Nat} {w w' : World} {e : TypeId} {size : Nat} {v : Value} {n : Nat} {xs : List Value} (h : w.ownsRow 0 e size v n xs) (hk : Kept S w w') (hn : ∀ b, v.ownBlock = some b → b ∉ S) : w'.ownsRow 0 e size v n xs := by
  refine ⟨h.1, ?_⟩
  rcases h.2 with h2 | ⟨g, cap, cur, rfl, h3, h4, h5⟩
  · exact .inl h2
  · exact .inr ⟨g, cap, cur, rfl, h3, hk.heap h4 (hn g rfl), h5⟩
theorem Wr.kept {T : TypeId} {S : List Nat} {w w' : World} {q : Nat} {bs : List Nat} {l : List UInt8} (h : Wr T w q bs l) (hk : Kept S w w') (hq : q ∉ S) (hn : ∀ b ∈ bs, b ∉ S) : Wr T w' q bs l := by
  obtain ⟨v, h1, h2, rfl, h4⟩ := h
  exact ⟨v, h1.kept hk hq, ownsRow_kept h2 hk (fun b hb => hn b (by simp [hb])), rfl, h4⟩
theorem Wr.lt {T : TypeId} {w : World} {q : Nat} {bs : List Nat} {l : List UInt8} (h : Wr T w q bs l) : q < w.heap.size := by
  obtain ⟨v, h1, _⟩ := h; exact h1.lt
theorem Wr.blt {T : TypeId} {w : World} {q : Nat} {bs : List Nat} {l : List UInt8} (h : Wr T w q bs l) : ∀ b ∈ bs, b < w.heap.size := by
  obtain ⟨v, h1, h2, rfl, _⟩ := h
  intro b hb
  exact (World.ownsRow.lt h2 b (by simpa using hb)).2
/-- From w to w' the writer at q, whose row was bs, has written; its row is bs' now. -/
structure Adv (q : Nat) (bs bs' : List Nat) (w w' : World) : Prop where
  kept : Kept (q :: bs) w w'
  own : ∀ b ∈ bs', b ∈ bs ∨ w.heap.size ≤ b
theorem Adv.refl (q : Nat) (bs : List Nat) (w : World) : Adv q bs bs w w := ⟨Kept.refl _ _, fun _ h => .inl h⟩
theorem Adv.trans {q : Nat} {bs bs1 bs2 : List Nat} {w w1 w2 : World} (h : Adv q bs bs1 w w1) (k : Adv q bs1 bs2 w1 w2) : Adv q bs bs2 w w2 := by
  refine ⟨h.kept.trans k.kept (fun x hx => ?_), fun b hb => ?_⟩
  · simp only [List.mem_cons] at hx ⊢
    rcases hx with rfl | hx
    · exact .inl (.inl rfl)
    · rcases h.own x hx with h1 | h1
      · exact .inl (.inr h1)
      · exact .inr h1
  · rcases k.own b hb with h1 | h1
    · exact h.own b h1
    · exact .inr (Nat.le_trans h.kept.size h1)
theorem beBytes_get (bytes n k : Nat) (hk : k < bytes) : (Lib.beBytes bytes n)[k]? = some (UInt8.ofNat (n / 256 ^ (bytes - 1 - k))) := by
  have key : ∀ (m n j : Nat), j < m → (Lib.leBytes m n)[j]? = some (UInt8.ofNat (n / 256 ^ j)) := by
    intro m
    induction m with
    | zero => intro n j h; omega
    | succ m ih =>
      intro n j h
      cases j with
      | zero =>
        simp only [Lib.leBytes, List.getElem?_cons_zero, Nat.pow_zero, Nat.div_one, Nat.toUInt8]
        congr 1
        apply UInt8.toNat_inj.1
        simp
      | succ j =>
        simp only [Lib.leBytes, List.getElem?_cons_succ]
        rw [ih (n / 256) j (by omega), Nat.div_div_eq_div_mul, ← Nat.pow_succ']
  have hl : (Lib.leBytes bytes n).length = bytes := Lib.leBytes_length bytes n
  rw [Lib.beBytes, List.getElem?_reverse (by omega), hl, key bytes n (bytes - 1 - k) (by omega)]
theorem put_byte (n e : Nat) : (UInt8.ofNat (n / 256 ^ e)).toNat = n / 256 ^ e % 256 := by simp
theorem shift_byte (n e : Nat) : IntKind.u8.wrap ((n : Int) / 2 ^ (8 * (e : Int)).toNat) = ((UInt8.ofNat (n / 256 ^ e)).toNat : Int) := by
  have h : (2 : Int) ^ (8 * (e : Int)).toNat = ((256 ^ e : Nat) : Int) := by
    rw [show (8 * (e : Int)).toNat = 8 * e by omega, show (256 : Nat) = 2 ^ 8 from rfl, ← Nat.pow_mul]
    simp
  rw [h, put_byte]
  simp [IntKind.wrap, IntKind.bits, IntKind.signed]
theorem own_form {w : World} {e : TypeId} {v : Value} {n : Nat} {xs : List Value} (h : w.ownsRow 0 e 1 v n xs) (hn : 0 < n) : ∃ g c, v = .slice (some ⟨g, 0, none⟩) n c ∧ n ≤ c ∧ v.ownBlock = some g := by
  rcases h.2 with ⟨_, h0⟩ | ⟨g, cap, cur, rfl, _, _, hc, _⟩
  · omega
  · exact ⟨g, cap, rfl, hc, rfl⟩
/-- One byte more: what an append into the writer's row and the store of the row's new value leave. -/
theorem wr_push {T : TypeId} {wr wa w1 : World} {q gb gc : Nat} {bs : List Nat} {v : Value} {l : List UInt8} {x : UInt8} (hq : q < wr.heap.size) (hbs : bs = v.ownBlock.toList) (hne : ∀ b, v.ownBlock = some b → b ≠ q) (hka : Kept [] wr wa)
    (h1 : w1.ownsRow 0 5 1 (.slice (some ⟨gb, 0, none⟩) (l.length + 1) gc) (l.length + 1) (u8s l ++ [.int .u8 (x.toNat : Int)])) (h2 : wa.grownBy w1 v.ownBlock)
    (h3 : (Value.slice (some ⟨gb, 0, none⟩) (l.length + 1) gc).ownBlock = v.ownBlock ∨ (Value.slice (some ⟨gb, 0, none⟩) (l.length + 1) gc).ownBlock = some wa.heap.size)
    (hk : Blk w1 q #[v] T) :
    Wr T (w1.setCell ⟨q, 0, none⟩ (.slice (some ⟨gb, 0, none⟩) (l.length + 1) gc)) q [gb] (l ++ [x]) ∧ Adv q bs [gb] wr (w1.setCell ⟨q, 0, none⟩ (.slice (some ⟨gb, 0, none⟩) (l.length + 1) gc)) := by
  have hg : gb ≠ q := by
    rcases h3 with h | h
    · exact hne gb h.symm
    · have := hka.size; simp [Value.ownBlock] at h; omega
  refine ⟨⟨_, hk.setCell 0 _, ?_, rfl, by simpa using Ne.symm hg⟩, ⟨?_, ?_⟩⟩
  · have := ownsRow_kept (S := [q]) h1 ((Kept.refl [q] w1).setCell (p := ⟨q, 0, none⟩) (by simp) (.slice (some ⟨gb, 0, none⟩) (l.length + 1) gc)) (fun b hb => by simp [Value.ownBlock] at hb; subst hb; simpa using hg)
    simpa [u8s_append] using this
  · refine Kept.setCell (Kept.grown (hka.mono (by simp)) h2 (fun k hk => .inl (by simp [hbs, hk]))) (by simp) _
  · intro b hb
    simp at hb; subst hb
    rcases h3 with h | h
    · exact .inl (by rw [hbs, ← h]; simp [Value.ownBlock])
    · have := hka.size; simp [Value.ownBlock] at h; exact .inr (by omega)
theorem take_step (bytes n e : Nat) (h : e + 1 ≤ bytes) : (Lib.beBytes bytes n).take (bytes - e) = (Lib.beBytes bytes n).take (bytes - (e + 1)) ++ [UInt8.ofNat (n / 256 ^ e)] := by
  rw [show bytes - e = (bytes - (e + 1)) + 1 by omega]
  have hg := beBytes_get bytes n (bytes - (e + 1)) (by omega)
  rw [show bytes - 1 - (bytes - (e + 1)) = e by omega] at hg
  rw [List.take_add_one, hg]
  rfl
set_option maxHeartbeats 1000000 in
set_option maxRecDepth 100000 in
theorem put_any (q n bytes : Nat) (bs : List Nat) (l : List UInt8) (w : World) (hw : Wr 61 w q bs l) (hn : n < 18446744073709551616) (hb : bytes ≤ 8) (hl : l.length ≤ 70368744177664) :
    Calls Tryz.prog 21 #[.pointer (some ⟨q, 0, none⟩), .int .u64 (n : Int), .int .i64 (bytes : Int)] w fun e w' => e = .returned (.tuple #[]) ∧
      ∃ bs', Wr 61 w' q bs' (l ++ Lib.beBytes bytes n) ∧ Adv q bs bs' w w' := by
  have HW := Lib.hid hw; have HN := Lib.hid hn
  have hb' : (bytes : Int) ≤ 8 := by omega
  obtain ⟨i, hi, hz0, hz1, hz2⟩ := info_parts infoPut
  have HI := Lib.hid (And.intro hi (And.intro hz0 (And.intro hz1 hz2)))
  clear hw hn hi hz0 hz1 hz2
  go_enter Tryz.func21, Tryz.ntmps21
  go_wp2
  go_loopw [6] (fun iv wr => ∃ e bs1, e ≤ bytes ∧ iv = .int .i64 ((e : Int) - 1) ∧ Wr 61 wr q bs1 (l ++ (Lib.beBytes bytes n).take (bytes - e)) ∧ Adv q bs bs1 w wr)
    (fun iv _ => (intOf iv + 1).toNat)
  case atStart => exact ⟨bytes, bs, Nat.le_refl _, rfl, by simpa using HW.out, Adv.refl _ _ _⟩
  case round =>
    obtain ⟨e, bs1, he, rfl, hwr, hadv⟩ := hrel
    have HR := Lib.hid (And.intro hwr hadv); clear hwr hadv
    cases e with
    | zero =>
      go_wp2
      go_end0
      refine ⟨rfl, bs1, ?_, HR.out.2⟩
      have := HR.out.1
      rwa [Nat.sub_zero, List.take_of_length_le (by simp [Lib.beBytes_length])] at this
    | succ e =>
      have h0 : (0 : Int) ≤ (e : Int) := by omega
      have he8 : (e : Int) ≤ 7 := by omega
      rw [show (((e + 1 : Nat) : Int) - 1) = (e : Int) by omega]
      obtain ⟨v, q1, q2, q3, q4⟩ := HR.out.1
      have c0 := q1.cell0
      have hqs : q < wr.heap.size := q1.lt
      have hm : IntKind.i64.wrap (8 * (e : Int)) = 8 * (e : Int) := by rw [IntKind.wrap_i64]; omega
      obtain ⟨x, hx, hxe⟩ : ∃ x : UInt8, IntKind.u8.wrap ((n : Int) / 2 ^ (8 * (e : Int)).toNat) = (x.toNat : Int) ∧ x = UInt8.ofNat (n / 256 ^ e) := ⟨_, shift_byte n e, rfl⟩
      have hka : Kept [] wr (wr.alloc (.cells #[.int .u8 (x.toNat : Int)] 5)).drew := ((Kept.refl [] wr).alloc _).drew
      have hown : (wr.alloc (.cells #[.int .u8 (x.toNat : Int)] 5)).drew.ownsRow 0 5 1 v _ _ := ownsRow_kept q2 hka (by simp)
      have hnew : ∀ j u, [Value.int .u8 (x.toNat : Int)][j]? = some u → (wr.alloc (.cells #[.int .u8 (x.toNat : Int)] 5)).drew.cell? ((⟨wr.heap.size, 0, none⟩ : Addr).add j) = some u := cell_one_new _ _ _
      have hone : ∀ u ∈ [Value.int .u8 (x.toNat : Int)], u.oneCell' = true := by simp [Value.oneCell']
      have hlen : (l ++ (Lib.beBytes bytes n).take (bytes - (e + 1))).length + 1 ≤ 140737488355328 := by simp; omega
      have hlen' : ((l ++ (Lib.beBytes bytes n).take (bytes - (e + 1))).length + 1) * 1 ≤ 140737488355328 := by omega
      have hne : ∀ b, v.ownBlock = some b → b ≠ q := fun b hb e => q4 (by rw [q3, hb, e]; simp)
      have HQ := Lib.hid (And.intro q1 (And.intro hka (And.intro hown (And.intro hnew (And.intro hlen' (And.intro hlen hne))))))
      have HX := Lib.hid hxe; have HB := Lib.hid (And.intro q2 (And.intro q3 q4))
      clear q1 q2 q3 q4 hka hown hnew hlen hlen' hne hxe
      go_wp2
      go_region_law (refine step_append2 _ rfl (.tmp 16) (.tmp 22) 61 rfl 5 i (.int .u8 0) 1 1 Tryz.underlying61 HI.out.1 HI.out.2.1 HI.out.2.2.1 HI.out.2.2.2 rfl (by decide) v _ _ (by simp [Act.eval, Act.put]) HQ.out.2.2.1 ⟨wr.heap.size, 0, none⟩ 1 1 [.int .u8 (x.toNat : Int)] (by simp [Act.eval, Act.put]) rfl HQ.out.2.2.2.1 hone HQ.out.2.2.2.2.1 HQ.out.2.2.2.2.2.1 ?_; intro v' w1 g1 g2 g3; obtain ⟨gb, gc, rfl, g4, g5⟩ := own_form g1 (Nat.succ_pos _); have k1 : Blk w1 q #[v] 61 := (HQ.out.1.kept HQ.out.2.1 (by simp)).kept ((Kept.refl v.ownBlock.toList _).grown g2 (fun k hk => .inl (by simp [hk]))) (fun hm => HQ.out.2.2.2.2.2.2 q (by simpa using hm) rfl); have c1 := k1.cell0; have f1 := k1.free 0; have HG := Lib.hid (And.intro g1 (And.intro g2 (And.intro g3 (And.intro g4 (And.intro g5 k1))))); clear g1 g2 g3 g4 g5 k1)
      all_goals
        go_wp2
        go_roundw
        case rel =>
          obtain ⟨s1, s2⟩ := wr_push hqs HB.out.2.1 HQ.out.2.2.2.2.2.2 HQ.out.2.1 HG.out.1 HG.out.2.1 HG.out.2.2.1 HG.out.2.2.2.2.2
          simp only [List.length_append, List.length_take] at s1 s2
          refine ⟨e, [gb], by omega, rfl, ?_, HR.out.2.trans s2⟩
          rw [take_step bytes n e he, ← HX.out, ← List.append_assoc]
          exact s1
        case measure => simp [intOf]
section
variable {P : Program} (w : World)
/-- An append of a string's bytes, with word of where the new slice lies. -/
theorem run_append2_string (t u ty e : TypeId) (i : TypeInfo) (ht : P.underlying t = some (.slice e)) (hu : P.underlying u = some .string) (hi : P.info? e = some i) (hz : i.zero = some (.int .u8 0)) (hsize : i.size = 1) (hby : i.bytes = 1)
    (v : Value) (n : Nat) (xs : List Value) (hown : w.ownsRow 0 e 1 v n xs) (s : ByteArray) (hb : n + s.size ≤ 140737488355328) :
    ∃ v' w', (Builtin.append_ #[t, u] ty #[v, .string s]).run P w = .ok v' w' ∧ w'.ownsRow 0 e 1 v' (n + s.size) (xs ++ Lib.strCells s) ∧ w.grownBy w' v.ownBlock ∧
      (v'.ownBlock = v.ownBlock ∨ v'.ownBlock = some w.heap.size) := by
  have hmax : n + s.size ≤ maxLen := by unfold maxLen; omega
  obtain ⟨v', w', hr, h2, h3, h4⟩ := Lib.run_append_own_string (P := P) w 0 t u ty e i ht hu hi hz hsize hby v n xs hown s hmax hb (Nat.zero_le _)
  refine ⟨v', w', hr, h2, h3, ?_⟩
  rcases hown.2 with ⟨hv, hn0⟩ | ⟨g, cap, cur, hv, hg0, hg, hnc, hcm, hcs, htake⟩
  · by_cases hm : s.size = 0
    · have : v' = .slice none 0 0 := h4.2 ⟨hv, hm⟩
      exact .inl (by rw [this, hv])
    · subst hv hn0
      have hr' := run_append_nil_string (P := P) w t u ty e i (.int .u8 0) ht hu hi hz s (by omega) (by omega) (by rw [hby]; omega)
      rw [hr'] at hr
      simp only [Result.ok.injEq] at hr
      rw [← hr.1]
      exact .inr rfl
  · subst hv
    by_cases hroom : n + s.size ≤ cap
    · have hcs' : cur.size = cap := by simpa using hcs
      have hr' := Lib.run_append_room_string (P := P) w t u ty e i ht hu hi hsize g n cap cur hg s hroom (by omega)
      rw [hr'] at hr
      simp only [Result.ok.injEq] at hr
      rw [← hr.1]
      exact .inl rfl
    · have hxl : xs.length = n := by simpa using hown.1
      have holds : ∀ j u, xs[j]? = some u → w.cell? ((⟨g, 0, none⟩ : Addr).add j) = some u := hown.cells (g := g) rfl
      have hr' := Lib.run_append_grow_string (P := P) w t u ty e i (.int .u8 0) ht hu hi hz ⟨g, 0, none⟩ n cap xs (by rw [hsize]; simpa using hxl) holds s (by omega) (by omega) (by rw [hby]; exact growslice_fits (by omega) (by omega))
      rw [hr'] at hr
      simp only [Result.ok.injEq] at hr
      rw [← hr.1]
      exact .inr rfl
theorem wpList_append2_string {ops : Array Oper} {rest : List Oper} {o : Oper} {a : Act} {Q : Exit → Act → World → Prop} (hgd : o.guard = none) (sl x : Operand) (t u : TypeId)
    (ho : o.op = .call { callee := .builtin .append, args := #[sl, x], argTypes := #[t, u] })
    (e : TypeId) (i : TypeInfo) (ht : P.underlying t = some (.slice e)) (hu : P.underlying u = some .string) (hi : P.info? e = some i) (hz : i.zero = some (.int .u8 0)) (hsize : i.size = 1) (hby : i.bytes = 1)
    (v : Value) (n : Nat) (xs : List Value) (hs : a.eval sl = v) (hown : w.ownsRow 0 e 1 v n xs) (s : ByteArray) (hx : a.eval x = .string s) (hb : n + s.size ≤ 140737488355328)
    (h : ∀ v' w', w'.ownsRow 0 e 1 v' (n + s.size) (xs ++ Lib.strCells s) → w.grownBy w' v.ownBlock → (v'.ownBlock = v.ownBlock ∨ v'.ownBlock = some w.heap.size) → wpList P ops Q rest (a.put o.dst v') w') : wpList P ops Q (o :: rest) a w := by
  refine wpList_plain hgd fun K hK => ?_
  obtain ⟨v', w', hr, h2, h3, h4⟩ := run_append2_string (P := P) w t u o.type e i ht hu hi hz hsize hby v n xs hown s hb
  unfold Oper.wp execOp
  simp only [ho, resolve, invoke, builtin, Sem.run_bind, Sem.run_pure, Result.andThen_ok, List.map_toArray, List.map_cons, List.map_nil, hs, hx, hr]
  exact hK _ _ (h v' w' h2 h3 h4)
end
theorem strCells_bstr (l : List UInt8) : Lib.strCells ⟨l.toArray⟩ = u8s l := by simp [Lib.strCells, u8s]
theorem ownBlock_slice {w : World} {e : TypeId} {v : Value} {n : Nat} {xs : List Value} (h : w.ownsRow 0 e 1 v n xs) : ∃ ao k c, v = .slice ao k c := by
  rcases h.2 with ⟨hv, hn⟩ | ⟨g, cap, cur, hv, _⟩
  · exact ⟨none, 0, 0, hv⟩
  · exact ⟨_, _, _, hv⟩
/-- What an append of bytes and the store of the new value leave of a writer. -/
theorem wr_more {T : TypeId} {w w1 : World} {q : Nat} {bs : List Nat} {v v' : Value} {l m : List UInt8} (hw : Blk w q #[v] T) (hbs : bs = v.ownBlock.toList) (hne : q ∉ bs) (g1 : w1.ownsRow 0 5 1 v' (l.length + m.length) (u8s l ++ u8s m))
    (g2 : w.grownBy w1 v.ownBlock) (g3 : v'.ownBlock = v.ownBlock ∨ v'.ownBlock = some w.heap.size) :
    Blk w1 q #[v] T ∧ ∃ bs', Wr T (w1.setCell ⟨q, 0, none⟩ v') q bs' (l ++ m) ∧ Adv q bs bs' w (w1.setCell ⟨q, 0, none⟩ v') := by
  have hk1 : Kept bs w w1 := (Kept.refl bs w).grown g2 (fun k hk => .inl (by rw [hbs, hk]; simp))
  have hb1 := hw.kept hk1 hne
  have hq : q ∉ v'.ownBlock.toList := by
    rcases g3 with h | h
    · rw [h, ← hbs]; exact hne
    · rw [h]; have := hw.lt; simp; omega
  have hks : Kept [q] w1 (w1.setCell ⟨q, 0, none⟩ v') := (Kept.refl _ w1).setCell (by simp) _
  refine ⟨hb1, v'.ownBlock.toList, ⟨v', hb1.setCell 0 v', ?_, rfl, hq⟩, ⟨?_, ?_⟩⟩
  · have := ownsRow_kept g1 hks (fun b hb e => hq (by simp at e; subst e; simp [hb]))
    simpa [u8s_append] using this
  · exact (hk1.mono (fun x hx => .inl (by simp [hx]))).trans hks (fun x hx => .inl (by simp at hx; simp [hx]))
  · intro b hb
    rcases g3 with h | h
    · exact .inl (by rw [hbs, ← h]; exact hb)
    · rw [h] at hb; simp at hb; exact .inr (by omega)
theorem u8Info : ∃ i, Tryz.prog.info? 5 = some i ∧ i.zero = some (.int .u8 0) ∧ i.size = 1 ∧ i.bytes = 1 := info_parts infoPut
set_option maxHeartbeats 1000000 in
set_option maxRecDepth 100000 in
theorem short_any (q : Nat) (s : List UInt8) (bs : List Nat) (l : List UInt8) (w : World) (hw : Wr 61 w q bs l) (hs : s.length ≤ 1000000000) (hl : l.length ≤ 1000000000) :
    Calls Tryz.prog 30 #[.pointer (some ⟨q, 0, none⟩), .string ⟨s.toArray⟩] w fun e w' => e = .returned (.tuple #[]) ∧
      ∃ bs', Wr 61 w' q bs' (l ++ (Lib.beBytes 1 s.length ++ s)) ∧ Adv q bs bs' w w' := by
  have HW := Lib.hid hw
  have hwu : IntKind.u64.wrap (s.length : Int) = s.length := by rw [IntKind.wrap_u64]; omega
  obtain ⟨i, i1, i2, i3, i4⟩ := u8Info
  have HI := Lib.hid (And.intro i1 (And.intro i2 (And.intro i3 i4))); clear hw i1 i2 i3 i4
  go_enter Tryz.func30, Tryz.ntmps30
  go_upto_region 1 with (go_at_call 21; refine (put_any q s.length 1 bs l w HW.out (by omega) (by omega) (by omega)).mono ?_; rintro e w1 ⟨rfl, bs1, hw1, ha1⟩)
  obtain ⟨v, q1, q2, q3, q4⟩ := hw1
  have c0 := q1.cell0
  have H1 := Lib.hid (And.intro q1 (And.intro q2 (And.intro q3 (And.intro q4 ha1)))); clear q1 q2 q3 q4 ha1
  go_wp2_with (refine wpList_append2_string _ rfl (.tmp 12) (.tmp 13) 61 9 rfl 5 i Tryz.underlying61 Tryz.underlying9 HI.out.1 HI.out.2.1 HI.out.2.2.1 HI.out.2.2.2 v _ _ rfl H1.out.2.1 ⟨s.toArray⟩ rfl (by simp [ByteArray.size, Lib.beBytes_length]; omega) ?_; intro v' w2 g1 g2 g3; obtain ⟨ao, kk, c, rfl⟩ := ownBlock_slice g1; rw [strCells_bstr] at g1; have g1 : w2.ownsRow 0 5 1 (.slice ao kk c) ((l ++ Lib.beBytes 1 s.length).length + s.length) (u8s (l ++ Lib.beBytes 1 s.length) ++ u8s s) := g1; obtain ⟨h1, h2⟩ := wr_more H1.out.1 H1.out.2.2.1 H1.out.2.2.2.1 g1 g2 g3; have c2 := h1.cell0; have f2 := h1.free 0; have H2 := Lib.hid h2; clear g1 g2 g3 h1 h2)
  go_end0
  obtain ⟨bs2, k1, k2⟩ := H2.out
  rw [List.append_assoc] at k1
  exact ⟨rfl, bs2, k1, H1.out.2.2.2.2.trans k2⟩
set_option maxHeartbeats 1000000 in
set_option maxRecDepth 100000 in
theorem long_any (q : Nat) (s : List UInt8) (bs : List Nat) (l : List UInt8) (w : World) (hw : Wr 61 w q bs l) (hs : s.length ≤ 1000000000) (hl : l.length ≤ 1000000000) :
    Calls Tryz.prog 31 #[.pointer (some ⟨q, 0, none⟩), .string ⟨s.toArray⟩] w fun e w' => e = .returned (.tuple #[]) ∧
      ∃ bs', Wr 61 w' q bs' (l ++ (Lib.beBytes 4 s.length ++ s)) ∧ Adv q bs bs' w w' := by
  have HW := Lib.hid hw
  have hwu : IntKind.u64.wrap (s.length : Int) = s.length := by rw [IntKind.wrap_u64]; omega
  obtain ⟨i, i1, i2, i3, i4⟩ := u8Info
  have HI := Lib.hid (And.intro i1 (And.intro i2 (And.intro i3 i4))); clear hw i1 i2 i3 i4
  go_enter Tryz.func31, Tryz.ntmps31
  go_upto_region 1 with (go_at_call 21; refine (put_any q s.length 4 bs l w HW.out (by omega) (by omega) (by omega)).mono ?_; rintro e w1 ⟨rfl, bs1, hw1, ha1⟩)
  obtain ⟨v, q1, q2, q3, q4⟩ := hw1
  have c0 := q1.cell0
  have H1 := Lib.hid (And.intro q1 (And.intro q2 (And.intro q3 (And.intro q4 ha1)))); clear q1 q2 q3 q4 ha1
  go_wp2_with (refine wpList_append2_string _ rfl (.tmp 12) (.tmp 13) 61 9 rfl 5 i Tryz.underlying61 Tryz.underlying9 HI.out.1 HI.out.2.1 HI.out.2.2.1 HI.out.2.2.2 v _ _ rfl H1.out.2.1 ⟨s.toArray⟩ rfl (by simp [ByteArray.size, Lib.beBytes_length]; omega) ?_; intro v' w2 g1 g2 g3; obtain ⟨ao, kk, c, rfl⟩ := ownBlock_slice g1; rw [strCells_bstr] at g1; have g1 : w2.ownsRow 0 5 1 (.slice ao kk c) ((l ++ Lib.beBytes 4 s.length).length + s.length) (u8s (l ++ Lib.beBytes 4 s.length) ++ u8s s) := g1; obtain ⟨h1, h2⟩ := wr_more H1.out.1 H1.out.2.2.1 H1.out.2.2.2.1 g1 g2 g3; have c2 := h1.cell0; have f2 := h1.free 0; have H2 := Lib.hid h2; clear g1 g2 g3 h1 h2)
  go_end0
  obtain ⟨bs2, k1, k2⟩ := H2.out
  rw [List.append_assoc] at k1
  exact ⟨rfl, bs2, k1, H1.out.2.2.2.2.trans k2⟩
def frameB (kind channel : Nat) (l : List UInt8) : List UInt8 := Lib.beBytes 1 kind ++ Lib.beBytes 2 channel ++ Lib.beBytes 4 l.length ++ l ++ [206]
theorem frameB_length (kind channel : Nat) (l : List UInt8) : (frameB kind channel l).length = l.length + 8 := by
  simp [frameB, Lib.beBytes_length]; omega
/-- s is a slice with the bytes l in block d; or it is empty, wherever it lies. -/
def Src (w : World) (s : Value) (d : Nat) (l : List UInt8) : Prop :=
  (l = [] ∧ ∃ (ao : Option Addr) (c : Nat), s = .slice ao 0 c) ∨ ∃ ad c, ad.block = d ∧ s = .slice (some ad) l.length c ∧ ∀ j v, (u8s l)[j]? = some v → w.cell? (ad.add j) = some v
/-- The bytes l in a row of their own, as a slice. -/
def Row (w : World) (s : Value) (g : Nat) (l : List UInt8) : Prop :=
  ∃ c, s = .slice (some ⟨g, 0, none⟩) l.length c ∧ w.ownsRow 0 5 1 s l.length (u8s l)
theorem Row.kept {S : List Nat} {w w' : World} {s : Value} {g : Nat} {l : List UInt8} (h : Row w s g l) (hk : Kept S w w') (hg : g ∉ S) : Row w' s g l := by
  obtain ⟨c, rfl, h2⟩ := h
  exact ⟨c, rfl, ownsRow_kept h2 hk (fun b hb => by simp [Value.ownBlock] at hb; subst hb; exact hg)⟩
theorem addr_block (a : Addr) (j : Nat) : (a.add j).block = a.block := by unfold Addr.add; split <;> rfl
theorem Src.kept {S : List Nat} {w w' : World} {s : Value} {d : Nat} {l : List UInt8} (h : Src w s d l) (hk : Kept S w w') (hd : d ∉ S) : Src w' s d l := by
  rcases h with h | ⟨ad, c, rfl, rfl, h2⟩
  · exact .inl h
  · exact .inr ⟨ad, c, rfl, rfl, fun j v hj => hk.cell (h2 j v hj) (by rw [addr_block]; exact hd)⟩
/-- An append of bytes that may be none, onto a row of the program's own. -/
theorem wpList_append_src {w : World} {ops : Array Oper} {rest : List Oper} {o : Oper} {a : Act} {Q : Exit → Act → World → Prop} (hgd : o.guard = none) (s x : Operand) (t t' : TypeId)
    (ho : o.op = .call { callee := .builtin .append, args := #[s, x], argTypes := #[t, t'] }) (ht : Tryz.prog.underlying t = some (.slice 5)) (ht' : Tryz.prog.underlying t' = some (.slice 5))
    (v sv : Value) (l m : List UInt8) (n k : Nat) (hln : l.length = n) (hmk : m.length = k) (g0 c0 : Nat) (hv : v = .slice (some ⟨g0, 0, none⟩) n c0) (hs : a.eval s = v) (hx : a.eval x = sv) (hown : w.ownsRow 0 5 1 v n (u8s l)) (d : Nat) (hsrc : Src w sv d m) (hlen : n + k ≤ 140737488355328)
    (h : ∀ g c w', w'.ownsRow 0 5 1 (.slice (some ⟨g, 0, none⟩) (n + k) c) (n + k) (u8s (l ++ m)) → n + k ≤ c → Kept [g0] w w' → (g = g0 ∨ g = w.heap.size) →
      wpList Tryz.prog ops Q rest (a.put o.dst (.slice (some ⟨g, 0, none⟩) (n + k) c)) w') : wpList Tryz.prog ops Q (o :: rest) a w := by
  obtain ⟨i, hi, hz0, hz1, hz2⟩ := info_parts infoPut
  subst hln hmk hv
  have hcap : l.length ≤ c0 := by
    rcases hown.2 with ⟨h, _⟩ | ⟨g, cap, cur, h, _, _, hc, _⟩
    · cases h
    · cases h; exact hc
  rcases hsrc with ⟨rfl, ao, c, rfl⟩ | ⟨ad, c, _, rfl, hcell⟩
  · refine wpList_append_zero w hgd s x t t' ho 5 5 ht' i ht hi (some ⟨g0, 0, none⟩) l.length c0 hs hcap ao c hx ?_
    have := h g0 c0 w (by simpa using hown) (by simpa using hcap) (Kept.refl _ w) (.inl rfl)
    simpa using this
  · refine wpList_append2 w hgd s x t t' ho 5 5 ht' i (.int .u8 0) 1 1 ht hi hz0 hz1 hz2 rfl (by decide) _ _ _ hs hown ad m.length c (u8s m) hx (by simp) hcell (u8s_one m) (by omega) hlen ?_
    intro v' w' h1 h2 h3
    have hown' := h1
    rcases h1.2 with ⟨hv, hn⟩ | ⟨g, cap, cur, hv, _, _, hc, _⟩
    · have hm : m = [] := List.eq_nil_of_length_eq_zero (by omega)
      have hl : l = [] := List.eq_nil_of_length_eq_zero (by omega)
      subst hm hl
      subst hv
      rcases h3 with h3 | h3 <;> simp [Value.ownBlock] at h3
    · subst hv
      rw [u8s_append] at h
      refine h g cap w' hown' hc ((Kept.refl _ w).grown h2 (fun k hk => .inl (by simp [Value.ownBlock] at hk; simp [hk]))) ?_
      rcases h3 with h3 | h3
      · exact .inl (by simpa [Value.ownBlock] using h3)
      · exact .inr (by simpa [Value.ownBlock] using h3)
/-- An append of bytes onto a row of the program's own, which may be none yet. -/
theorem wpList_append_bytes {w : World} {ops : Array Oper} {rest : List Oper} {o : Oper} {a : Act} {Q : Exit → Act → World → Prop} (hgd : o.guard = none) (s x : Operand) (t t' : TypeId)
    (ho : o.op = .call { callee := .builtin .append, args := #[s, x], argTypes := #[t, t'] }) (ht : Tryz.prog.underlying t = some (.slice 5)) (ht' : Tryz.prog.underlying t' = some (.slice 5))
    (v sv : Value) (l m : List UInt8) (n k : Nat) (hln : l.length = n) (hmk : m.length = k) (hs : a.eval s = v) (hx : a.eval x = sv) (hown : w.ownsRow 0 5 1 v n (u8s l)) (d : Nat) (hsrc : Src w sv d m) (hlen : n + k ≤ 140737488355328)
    (h : ∀ ao c w', w'.ownsRow 0 5 1 (.slice ao (n + k) c) (n + k) (u8s (l ++ m)) → Kept v.ownBlock.toList w w' → ((Value.slice ao (n + k) c).ownBlock = v.ownBlock ∨ (Value.slice ao (n + k) c).ownBlock = some w.heap.size) →
      wpList Tryz.prog ops Q rest (a.put o.dst (.slice ao (n + k) c)) w') : wpList Tryz.prog ops Q (o :: rest) a w := by
  obtain ⟨i, hi, hz0, hz1, hz2⟩ := info_parts infoPut
  rcases hown.2 with ⟨hv, hn0⟩ | ⟨g, cap, cur, hv, _, _, hc, _⟩
  · subst hv
    have hl0 : l = [] := List.eq_nil_of_length_eq_zero (by omega)
    subst hl0
    subst hln hmk
    rcases hsrc with ⟨rfl, ao, c, rfl⟩ | ⟨ad, c, _, rfl, hcell⟩
    · refine wpList_append_zero w hgd s x t t' ho 5 5 ht' i ht hi none 0 0 hs (Nat.le_refl _) ao c hx ?_
      exact h none 0 w (World.ownsRow_nil _ _ _ _) (Kept.refl _ w) (.inl rfl)
    · refine wpList_append2 w hgd s x t t' ho 5 5 ht' i (.int .u8 0) 1 1 ht hi hz0 hz1 hz2 rfl (by decide) _ _ _ hs hown ad m.length c (u8s m) hx (by simp) hcell (u8s_one m) (by simpa using hlen) (by simpa using hlen) ?_
      intro v' w' h1 h2 h3
      have hform : ∃ ao c, v' = .slice ao (0 + m.length) c := by
        rcases h1.2 with ⟨hv, hn⟩ | ⟨g, cap, cur, hv, _⟩
        · simp only [List.length_nil] at hn; rw [hn]; exact ⟨none, 0, hv⟩
        · exact ⟨_, _, hv⟩
      obtain ⟨ao, c', rfl⟩ := hform
      exact h ao c' w' h1 ((Kept.refl _ w).grown h2 (by simp [Value.ownBlock])) h3
  · subst hv
    refine wpList_append_src hgd s x t t' ho ht ht' _ sv l m n k hln hmk g cap rfl hs hx hown d hsrc hlen ?_
    intro g' c w' h1 _ h3 h4
    refine h (some ⟨g', 0, none⟩) c w' h1 (by simpa [Value.ownBlock] using h3) ?_
    rcases h4 with h4 | h4
    · exact .inl (by simp [Value.ownBlock, h4])
    · exact .inr (by simp [Value.ownBlock, h4])
theorem wrap_u64 (n : Nat) (h : n < 18446744073709551616) : IntKind.u64.wrap (n : Int) = n := by rw [IntKind.wrap_u64]; omega
set_option maxHeartbeats 1000000 in
set_option maxRecDepth 100000 in
theorem frameBytes_any (kind channel : Nat) (s : Value) (l : List UInt8) (w : World) (hk : kind ≤ 255) (hch : channel ≤ 65535) (d : Nat) (hs : Src w s d l) (hl : l.length ≤ 1000000) (hsl : ∃ ao c, s = .slice ao l.length c) :
    Calls Tryz.prog 8 #[.int .i64 (kind : Int), .int .i64 (channel : Int), s] w fun e w' => ∃ v g, e = .returned v ∧ Row w' v g (frameB kind channel l) ∧ w.heap.size ≤ g ∧ Kept [] w w' := by
  have e1 := wrap_u64 kind (by omega)
  have e2 := wrap_u64 channel (by omega)
  have e3 := wrap_u64 l.length (by omega)
  obtain ⟨ao, c, rfl⟩ := hsl
  have HS := Lib.hid hs; have HL := Lib.hid (And.intro hk (And.intro hch hl))
  clear hs hk hch hl
  obtain ⟨wa, hwa⟩ : ∃ wa, wa = (w.alloc (.cells #[] 5)).alloc (.cells #[.slice (some ⟨w.heap.size, 0, none⟩) 0 0] 61) := ⟨_, rfl⟩
  have hka : Kept [] w wa := by subst hwa; exact ((Kept.refl [] w).alloc _).alloc _
  have hwr : Wr 61 wa (w.heap.size + 1) [w.heap.size] [] := by
    subst hwa
    refine ⟨.slice (some ⟨w.heap.size, 0, none⟩) 0 0, Blk.new_at (by simp), ⟨rfl, .inr ⟨w.heap.size, 0, #[], rfl, Nat.zero_le _, ?_, Nat.le_refl _, by unfold maxLen; omega, rfl, rfl⟩⟩, rfl, by simp⟩
    exact (Blk.new w #[] 5).alloc _
  have HA := Lib.hid (And.intro hka (And.intro hwr hwa)); clear hka hwr hwa
  go_enter Tryz.func8, Tryz.ntmps8
  go_wp2_with fail
  rw [← HA.out.2.2]
  refine (put_any (w.heap.size + 1) kind 1 _ _ wa HA.out.2.1 (by have := HL.out.1; omega) (by omega) (by simp)).mono ?_
  rintro e w1 ⟨rfl, bs1, hw1, ha1⟩
  have H1 := Lib.hid (And.intro hw1 ha1); clear hw1 ha1
  go_wp2_with fail
  refine (put_any (w.heap.size + 1) channel 2 _ _ w1 H1.out.1 (by have := HL.out.2.1; omega) (by omega) (by simp [Lib.beBytes_length])).mono ?_
  rintro e w2 ⟨rfl, bs2, hw2, ha2⟩
  have H2 := Lib.hid (And.intro hw2 (H1.out.2.trans ha2)); clear hw2 ha2
  go_wp2_with fail
  refine (put_any (w.heap.size + 1) l.length 4 _ _ w2 H2.out.1 (by have := HL.out.2.2; omega) (by omega) (by simp [Lib.beBytes_length])).mono ?_
  rintro e w3 ⟨rfl, bs3, hw3, ha3⟩
  have ha := H2.out.2.trans ha3
  have hk3 : Kept [] w w3 := HA.out.1.trans ha.kept (by simp)
  have hs3 := HS.out.kept hk3 (by simp)
  obtain ⟨v3, p1, p2, p3, p4⟩ := hw3
  obtain ⟨g3, c3, rfl, hc3, ho3⟩ := own_form p2 (by simp [Lib.beBytes_length])
  have c0 := p1.cell0
  have hn3 : w.heap.size ≤ g3 := by
    rcases ha.own g3 (by rw [p3, ho3]; simp) with h | h
    · simp at h; omega
    · exact Nat.le_trans HA.out.1.size h
  have hg3 : g3 ≠ w.heap.size + 1 := fun e => p4 (by rw [p3, ho3, e]; simp)
  obtain ⟨h7, hh, hl7⟩ : ∃ h7 : List UInt8, h7 = [] ++ Lib.beBytes 1 kind ++ Lib.beBytes 2 channel ++ Lib.beBytes 4 l.length ∧ h7.length = 7 := ⟨_, rfl, by simp [Lib.beBytes_length]⟩
  rw [← hh] at c0 p2
  rw [hl7] at c0 p2
  have H3 := Lib.hid (And.intro p2 (And.intro hk3 (And.intro hs3 (And.intro hn3 hg3)))); clear p1 p2 p3 p4 hs3 hk3 ha ha3 hn3 ho3 hg3
  have HH := Lib.hid hh; have HL7 := Lib.hid hl7; clear hh hl7
  have hb7 : 7 + l.length ≤ 140737488355328 := by have := HL.out.2.2; omega
  have hb8 : 7 + l.length + 1 ≤ 140737488355328 := by have := HL.out.2.2; omega
  go_wp2_with (refine wpList_append_src rfl (.tmp 25) (.tmp 26) 61 22 rfl Tryz.underlying61 Tryz.underlying22 _ _ h7 l 7 l.length HL7.out rfl g3 c3 rfl rfl rfl H3.out.1 d H3.out.2.2.1 hb7 ?_)
  intro g4 c4 w4 k1 k2 k3 k4
  have hk4 : Kept [] w w4 := H3.out.2.1.trans k3 (by simp; exact H3.out.2.2.2.1)
  have hn4 : w.heap.size ≤ g4 := by
    rcases k4 with h | h
    · rw [h]; exact H3.out.2.2.2.1
    · rw [h]; exact H3.out.2.1.size
  have hka : Kept [] w4 (w4.alloc (.cells #[.int .u8 206] 5)) := (Kept.refl [] w4).alloc _
  have k5 := ownsRow_kept k1 hka (by simp)
  have hsrc : Src (w4.alloc (.cells #[.int .u8 206] 5)) (.slice (some ⟨w4.heap.size, 0, none⟩) 1 1) w4.heap.size [206] := .inr ⟨⟨w4.heap.size, 0, none⟩, 1, rfl, rfl, cell_one_new _ _ _⟩
  have H4 := Lib.hid (And.intro k5 (And.intro (hk4.trans hka (by simp)) (And.intro hn4 (And.intro hsrc hk4.size)))); clear k1 k2 k3 k4 k5 hk4 hn4 hka hsrc
  go_wp2_with (refine wpList_append_src rfl (.tmp 27) (.tmp 28) 61 61 rfl Tryz.underlying61 Tryz.underlying61 _ _ (h7 ++ l) [206] (7 + l.length) 1 (by rw [List.length_append, HL7.out]) rfl g4 c4 rfl rfl rfl H4.out.1 w4.heap.size H4.out.2.2.2.1 hb8 ?_)
  intro g5 c5 w5 k1 k2 k3 k4
  have hk5 : Kept [] w w5 := H4.out.2.1.trans k3 (by simp; exact H4.out.2.2.1)
  have hn5 : w.heap.size ≤ g5 := by
    rcases k4 with h | h
    · rw [h]; exact H4.out.2.2.1
    · rw [h]; have := H4.out.2.2.2.2; omega
  have H5 := Lib.hid (And.intro k1 (And.intro hk5 hn5)); clear k1 k2 k3 k4 hk5 hn5
  go_wp2
  go_ret
  have hfin : h7 ++ (l ++ [206]) = frameB kind channel l := by rw [HH.out]; simp [frameB]
  have hle : 7 + l.length + 1 = (frameB kind channel l).length := by rw [frameB_length]; omega
  have hown := H5.out.1
  rw [hfin, hle] at hown
  have hrow : Row w5 (.slice (some ⟨g5, 0, none⟩) (7 + l.length + 1) c5) g5 (frameB kind channel l) := ⟨c5, congrArg (fun n => Value.slice (some ⟨g5, 0, none⟩) n c5) hle, by rw [hle]; exact hown⟩
  exact ⟨_, g5, rfl, hrow, H5.out.2.2, H5.out.2.1⟩
end Go.Proofs.YtkcdakohmfodjaaGreat
