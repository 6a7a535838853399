/-
  Small laws on worlds, blocks and bytes, over any program: 'Kept' (what a call leaves alone), bytes as values, blocks known whole.
-/
import Derived.WalkKit
import Derived.WalkSpells
import Derived.WalkLawsBesides
import Derived.Lib.Hide
import Derived.Laws.CopyOwn
namespace Go.Proofs.YtkcdakohmfodjaaGreat
open Go.RowKit
set_option linter.unusedVariables false
set_option linter.unusedSimpArgs false

/-- Of the blocks that are there, w' has all but those of S as w has them. -/
structure Kept (S : List Nat) (w w' : World) : Prop where
  os : w'.os = w.os
  tape : w'.tape = w.tape
  output : w'.output = w.output
  size : w.heap.size ≤ w'.heap.size
  block : ∀ k, k < w.heap.size → k ∉ S → w'.heap[k]? = w.heap[k]?

theorem Kept.refl (S : List Nat) (w : World) : Kept S w w := ⟨rfl, rfl, rfl, Nat.le_refl _, fun _ _ _ => rfl⟩

theorem Kept.trans {S S' : List Nat} {a b c : World} (h : Kept S a b) (k : Kept S' b c) (hs : ∀ x, x ∈ S' → x ∈ S ∨ a.heap.size ≤ x) : Kept S a c :=
  ⟨k.os.trans h.os, k.tape.trans h.tape, k.output.trans h.output, Nat.le_trans h.size k.size, fun i hi hn => by
    rw [k.block i (Nat.lt_of_lt_of_le hi h.size) (fun hm => by rcases hs i hm with h1 | h1; exact hn h1; omega)]
    exact h.block i hi hn⟩

theorem Kept.mono {S S' : List Nat} {a b : World} (h : Kept S a b) (hs : ∀ x, x ∈ S → x ∈ S' ∨ a.heap.size ≤ x) : Kept S' a b :=
  ⟨h.os, h.tape, h.output, h.size, fun i hi hn => h.block i hi (fun hm => by rcases hs i hm with h1 | h1; exact hn h1; omega)⟩

theorem Kept.below {a b : World} (h : Kept [] a b) : Below a.heap.size a b :=
  ⟨h.os, h.tape, h.output, h.size, fun k hk => h.block k hk (by simp)⟩

theorem Below.kept {a b : World} (h : Below a.heap.size a b) (S : List Nat) : Kept S a b :=
  ⟨h.os, h.tape, h.output, h.size, fun k hk _ => h.block k hk⟩

theorem Kept.drew {S : List Nat} {a w : World} (h : Kept S a w) : Kept S a w.drew := ⟨h.os, h.tape, h.output, h.size, h.block⟩

theorem Kept.alloc {S : List Nat} {a w : World} (h : Kept S a w) (o : Obj) : Kept S a (w.alloc o) :=
  h.trans (S' := []) ⟨rfl, rfl, rfl, by simp, fun k hk _ => Below.heap_alloc _ _ _ hk⟩ (by simp)

theorem Kept.setCell {S : List Nat} {a w : World} (h : Kept S a w) {p : Addr} (hp : p.block ∈ S ∨ a.heap.size ≤ p.block) (u : Value) : Kept S a (w.setCell p u) :=
  h.trans (S' := [p.block]) ⟨rfl, rfl, rfl, by simp [World.setCell], fun k _ hn => Below.heap_setCell _ _ _ _ (by simpa using hn)⟩ (by simpa using hp)

theorem Kept.setRow {S : List Nat} {a w : World} (h : Kept S a w) {g : Nat} (hp : g ∈ S ∨ a.heap.size ≤ g) (cs : Array Value) : Kept S a (w.setRow g cs) :=
  h.trans (S' := [g]) ⟨rfl, rfl, rfl, by simp [World.setRow], fun k _ hn => setRow_other w g k cs (by simpa using hn)⟩ (by simpa using hp)

theorem Kept.grown {S : List Nat} {a w w' : World} {row : Option Nat} (h : Kept S a w) (hg : w.grownBy w' row) (hr : ∀ k, row = some k → k ∈ S ∨ a.heap.size ≤ k) : Kept S a w' :=
  h.trans (S' := row.toList) ⟨hg.os, hg.tape, hg.output, hg.size, fun k hk hn => hg.block k hk (fun e => hn (by simp [← e]))⟩ (fun x hx => hr x (by cases row <;> simp_all))

theorem Kept.heap {S : List Nat} {a b : World} (h : Kept S a b) {k : Nat} {o : Obj} (hk : a.heap[k]? = some o) (hn : k ∉ S) : b.heap[k]? = some o := by
  rw [h.block k (lt_of_block hk) hn]; exact hk

theorem Kept.cell {S : List Nat} {a b : World} (h : Kept S a b) {p : Addr} {v : Value} (hp : a.cell? p = some v) (hn : p.block ∉ S) : b.cell? p = some v := by
  rw [World.cell?_of_block (h.block _ (World.block_lt_of_cell? a p hp) hn)]; exact hp

theorem Kept.frozen {S : List Nat} {a b : World} (h : Kept S a b) {p : Addr} (hp : p.block < a.heap.size) (hn : p.block ∉ S) : b.frozen? p = a.frozen? p :=
  World.frozen?_of_block (h.block _ hp hn)

/-- A block that is a row of cells, none of them frozen. -/
def Blk (w : World) (b : Nat) (cs : Array Value) (t : TypeId) : Prop := w.heap[b]? = some (.cells cs t (0, 0))

section
variable {w : World} {b : Nat} {cs : Array Value} {t : TypeId}
theorem Blk.lt (h : Blk w b cs t) : b < w.heap.size := lt_of_block h
theorem Blk.cell (h : Blk w b cs t) (i : Nat) : w.cell? ⟨b, i, none⟩ = cs[i]? := by unfold Blk at h; simp [World.cell?, h]
theorem Blk.cell0 {v : Value} (h : Blk w b #[v] t) : w.cell? ⟨b, 0, none⟩ = some v := h.cell 0
theorem Blk.free (h : Blk w b cs t) (i : Nat) : w.frozen? ⟨b, i, none⟩ = false := by unfold Blk at h; simp [World.frozen?, h]
theorem Blk.alloc (h : Blk w b cs t) (o : Obj) : Blk (w.alloc o) b cs t := by
  have hl := h.lt
  unfold Blk at *; rw [Below.heap_alloc _ _ _ hl]; exact h
theorem Blk.new (w : World) (cs : Array Value) (t : TypeId) : Blk (w.alloc (.cells cs t)) w.heap.size cs t := heap_alloc_new w _
theorem Blk.new_at {n : Nat} (hn : n = w.heap.size) : Blk (w.alloc (.cells cs t)) n cs t := by subst hn; exact heap_alloc_new w _
theorem Blk.drew (h : Blk w b cs t) : Blk w.drew b cs t := h
theorem Blk.setCell_other (h : Blk w b cs t) {p : Addr} (hp : b ≠ p.block) (u : Value) : Blk (w.setCell p u) b cs t := by
  unfold Blk at *; rw [Below.heap_setCell _ _ _ _ hp]; exact h
theorem Blk.setCell (h : Blk w b cs t) (i : Nat) (u : Value) : Blk (w.setCell ⟨b, i, none⟩ u) b (cs.setIfInBounds i u) t := by
  have hlt := h.lt
  have h' : w.heap[b] = .cells cs t (0, 0) := by unfold Blk at h; simpa [Array.getElem?_eq_getElem hlt] using h
  show (w.heap.modify b _)[b]? = _
  rw [Array.getElem?_eq_getElem (by simpa using hlt), Array.getElem_modify_self, h']
  rfl
theorem Blk.kept {S : List Nat} {w' : World} (h : Blk w b cs t) (hk : Kept S w w') (hn : b ∉ S) : Blk w' b cs t := hk.heap h hn
theorem Blk.setRow_other (h : Blk w b cs t) {g : Nat} (hg : b ≠ g) (c : Array Value) : Blk (w.setRow g c) b cs t := by
  unfold Blk at *; rw [Go.setRow_other w g b c hg]; exact h
end

theorem nin0 (a : Nat) : a ∉ ([] : List Nat) := by simp
theorem nin1 {a b : Nat} (h : a ≠ b) : a ∉ [b] := by simpa using h
theorem nin2 {a b c : Nat} (h : a ≠ b) (h' : a ≠ c) : a ∉ [b, c] := by simp [h, h']

theorem addr_add (d off j : Nat) : (⟨d, off, none⟩ : Addr).add j = ⟨d, off + j, none⟩ := by
  unfold Addr.add; split <;> simp_all

/-- Bytes as the cells of a row. -/
def u8s (l : List UInt8) : List Value := l.map fun b => .int .u8 (b.toNat : Int)
@[simp] theorem u8s_length (l : List UInt8) : (u8s l).length = l.length := by simp [u8s]
@[simp] theorem u8s_nil : u8s [] = [] := rfl
@[simp] theorem u8s_cons (x : UInt8) (l : List UInt8) : u8s (x :: l) = .int .u8 (x.toNat : Int) :: u8s l := rfl
theorem u8s_append (l m : List UInt8) : u8s (l ++ m) = u8s l ++ u8s m := by simp [u8s]
theorem u8s_take (l : List UInt8) (n : Nat) : (u8s l).take n = u8s (l.take n) := by simp [u8s, List.map_take]
theorem u8s_drop (l : List UInt8) (n : Nat) : (u8s l).drop n = u8s (l.drop n) := by simp [u8s, List.map_drop]
theorem u8s_get (l : List UInt8) (i : Nat) : (u8s l)[i]? = (l[i]?).map fun b => .int .u8 (b.toNat : Int) := by simp [u8s]
theorem u8s_one (l : List UInt8) : ∀ v ∈ u8s l, v.oneCell' = true := by
  intro v hv; simp only [u8s, List.mem_map] at hv; obtain ⟨x, _, rfl⟩ := hv; rfl

end Go.Proofs.YtkcdakohmfodjaaGreat
