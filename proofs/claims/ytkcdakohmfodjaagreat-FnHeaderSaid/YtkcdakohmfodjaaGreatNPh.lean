/-
  Lemmas on the way to the statement of YtkcdakohmfodjaaGreatHeader, joined out of these texts: Ph. No condition.
-/
import Derived.Test.YtkcdakohmfodjaaGreatNFrmOk
import Derived.Test.YtkcdakohmfodjaaGreatNRarr
import Derived.Test.YtkcdakohmfodjaaGreatNWh
namespace Go.Proofs.YtkcdakohmfodjaaGreat
open Go.RowKit
set_option linter.unusedVariables false
set_option linter.unusedSimpArgs false
/-- The bytes of the last m places. -/
def HP.tl (p : HP) : Nat → List UInt8
  | 0 => []
  | m + 1 => p.item (13 - m) ++ p.tl m
theorem HP.tl_items (p : HP) : p.items 14 = p.tl 14 := by
  simp only [HP.items, HP.tl, List.append_assoc, List.nil_append, List.append_nil]
theorem HP.tl_no {p : HP} {m : Nat} (h : p.has (13 - m) = false) : p.tl (m + 1) = p.tl m := by
  show p.item (13 - m) ++ p.tl m = _
  unfold HP.item; rw [h]; simp
theorem HP.tl_text {p : HP} {k m : Nat} (hk : 13 - m = k) (h : p.has k = true) (h2 : k ≠ 2) (h3 : k ≠ 3) (h4 : k ≠ 4) (h9 : k ≠ 9) : p.tl (m + 1) = Lib.beBytes 1 (p.txt k).length ++ (p.txt k ++ p.tl m) := by
  show p.item (13 - m) ++ p.tl m = _
  rw [hk]
  unfold HP.item; rw [h, if_neg h2, if_neg h3, if_neg h4, if_neg h9]; simp [List.append_assoc]
theorem HP.tl_2 {p : HP} (h : p.has 2 = true) : p.tl 12 = encT p.hdr ++ p.tl 11 := by
  show p.item 2 ++ p.tl 11 = _
  unfold HP.item; rw [h]; rfl
theorem HP.tl_3 {p : HP} (h : p.has 3 = true) (m : Nat) (hm : p.mode = (m : Int)) : p.tl 11 = Lib.beBytes 1 m ++ p.tl 10 := by
  show p.item 3 ++ p.tl 10 = _
  unfold HP.item; rw [h, hm]; rfl
theorem HP.tl_4 {p : HP} (h : p.has 4 = true) (m : Nat) (hm : p.prio = (m : Int)) : p.tl 10 = Lib.beBytes 1 m ++ p.tl 9 := by
  show p.item 4 ++ p.tl 9 = _
  unfold HP.item; rw [h, hm]; rfl
theorem HP.tl_9 {p : HP} (h : p.has 9 = true) (m : Nat) (hm : p.time = (m : Int)) : p.tl 5 = Lib.beBytes 8 m ++ p.tl 4 := by
  show p.item 9 ++ p.tl 4 = _
  unfold HP.item; rw [h, hm]; rfl
/-- The texts below place k. -/
def HP.below (p : HP) (k : Nat) : Nat → List UInt8 := fun i => if i < k then p.heldT i else []
theorem HP.below_no {p : HP} {k : Nat} (h : p.has k = false) : p.below (k + 1) = p.below k := by
  funext i
  unfold HP.below
  by_cases hi : i < k
  · rw [if_pos (by omega), if_pos hi]
  · rw [if_neg hi]
    by_cases e : i = k
    · subst e; rw [if_pos (by omega)]; unfold HP.heldT; rw [h]; simp
    · rw [if_neg (by omega)]
/-- The headers of properties, as the package has read them. -/
def HdP (B : Nat → Prop) (w : World) (p : HP) (hd : Value) : Prop := (p.has 2 = false ∧ hd = .map none) ∨ (p.has 2 = true ∧ ∃ b es, hd = .map (some b) ∧ B b ∧ MapAt w b es ∧ PF B w es p.hdr)
theorem HdP.kept {B : Nat → Prop} {S : List Nat} {w w' : World} {p : HP} {hd : Value} (h : HdP B w p hd) (hk : Kept S w w') (hS : ∀ b, B b → b ∉ S) : HdP B w' p hd := by
  rcases h with h | ⟨h1, b, es, h2, h3, h4, h5⟩
  · exact .inl h
  · exact .inr ⟨h1, b, es, h2, h3, h4.kept hk (hS b h3), PF.kept hk hS _ h5⟩
theorem HdP.mono {B B' : Nat → Prop} {w : World} {p : HP} {hd : Value} (h : HdP B w p hd) (hM : ∀ b, B b → b < w.heap.size → B' b) : HdP B' w p hd := by
  rcases h with h | ⟨h1, b, es, h2, h3, h4, h5⟩
  · exact .inl h
  · exact .inr ⟨h1, b, es, h2, hM b h3 h4.lt, h4, PF.mono hM _ h5⟩
abbrev TL : TypeId := 366
abbrev TH : TypeId := 103
/-- A header is being read: its frame lies in w's next block, the limited reader in the one behind; l is left of the header. -/
structure HdSt (w W : World) (b d : Nat) (rest : List UInt8) (row : Array Value) (l : List UInt8) : Prop where
  rd : Rd W (.iface TL (.pointer (some ⟨w.heap.size + 1, 0, none⟩))) [w.heap.size + 1, b] d [l.length] (l ++ rest)
  blk : Blk W w.heap.size row TH
  kept : Kept [b] w W
  bl : b < w.heap.size
  dl : d < w.heap.size
  sz : (l ++ rest).length ≤ 900000000
theorem HdSt.size {w W : World} {b d : Nat} {rest : List UInt8} {row : Array Value} {l : List UInt8} (h : HdSt w W b d rest row l) : w.heap.size + 2 ≤ W.heap.size := by
  have := h.rd.mem_lt (w.heap.size + 1) (by simp); omega
theorem HdSt.store {w W : World} {b d : Nat} {rest : List UInt8} {row : Array Value} {l : List UInt8} (h : HdSt w W b d rest row l) (i : Nat) (u : Value) : HdSt w (W.setCell ⟨w.heap.size, i, none⟩ u) b d rest (row.setIfInBounds i u) l := by
  have hk : Kept [w.heap.size] W (W.setCell ⟨w.heap.size, i, none⟩ u) := (Kept.refl _ W).setCell (by simp) _
  have := h.bl; have := h.dl
  exact ⟨h.rd.kept hk (by simp; omega) (by simp; omega), h.blk.setCell i u, h.kept.trans hk (fun x hx => .inr (by simp at hx; omega)), h.bl, h.dl, h.sz⟩
theorem HdSt.kept_r {w W W' : World} {b d : Nat} {rest : List UInt8} {row : Array Value} {l : List UInt8} (h : HdSt w W b d rest row l) (hk : Kept [] W W') : HdSt w W' b d rest row l :=
  ⟨h.rd.kept hk (by simp) (by simp), h.blk.kept hk (by simp), h.kept.trans hk (by simp), h.bl, h.dl, h.sz⟩
theorem HdSt.step {w W W' : World} {b d : Nat} {rest : List UInt8} {row : Array Value} {pre l : List UInt8} (h : HdSt w W b d rest row (pre ++ l)) (hr : Rd W' (.iface TL (.pointer (some ⟨w.heap.size + 1, 0, none⟩))) [w.heap.size + 1, b] d [l.length] (l ++ rest)) (hk : Kept [w.heap.size + 1, b] W W') : HdSt w W' b d rest row l := by
  have := h.bl
  refine ⟨hr, h.blk.kept hk (by simp; omega), h.kept.trans hk (fun x hx => ?_), h.bl, h.dl, ?_⟩
  · simp at hx; rcases hx with rfl | rfl
    · exact .inr (by omega)
    · exact .inl (by simp)
  · have := h.sz; simp only [List.length_append] at this ⊢; omega
theorem HdSt.short {w W : World} {b d : Nat} {rest : List UInt8} {row : Array Value} (s l : List UInt8) (h : HdSt w W b d rest row (Lib.beBytes 1 s.length ++ (s ++ l))) (hs : s.length ≤ 255) :
    Calls Tryz.prog 144 #[.iface TL (.pointer (some ⟨w.heap.size + 1, 0, none⟩))] W fun e W' => e = .returned (.tuple #[.string (bstr s), .nilIface]) ∧ HdSt w W' b d rest row l ∧ Kept [w.heap.size + 1, b] W W' := by
  have hr := h.rd
  rw [List.append_assoc, List.append_assoc] at hr
  have hz := h.sz
  have hd := h.dl; have hsz := h.kept.size
  simp only [List.length_append, Lib.beBytes_length] at hz
  refine (rshort s (l ++ rest) hr hs (by simp only [List.length_append]; omega) (by simp [avail, Lib.beBytes_length]) (by omega)).mono ?_
  rintro e W' ⟨rfl, h1, h2⟩
  refine ⟨rfl, ?_, h2⟩
  rw [← List.append_assoc] at h
  refine h.step ?_ h2
  have e : ([(Lib.beBytes 1 s.length ++ (s ++ l)).length] : List Nat).map (· - (1 + s.length)) = [l.length] := by simp [Lib.beBytes_length]; omega
  rw [e] at h1
  exact h1
theorem HdSt.time {w W : World} {b d : Nat} {rest : List UInt8} {row : Array Value} (n : Nat) (l : List UInt8) (h : HdSt w W b d rest row (Lib.beBytes 8 n ++ l)) (hn : n ≤ 4611686018427387904) :
    Calls Tryz.prog 146 #[.iface TL (.pointer (some ⟨w.heap.size + 1, 0, none⟩))] W fun e W' => e = .returned (.tuple #[timeV n, .nilIface]) ∧ HdSt w W' b d rest row l ∧ Kept [w.heap.size + 1, b] W W' := by
  have hr := h.rd
  rw [List.append_assoc] at hr
  have hz := h.sz
  have hd := h.dl; have hsz := h.kept.size
  simp only [List.length_append, Lib.beBytes_length] at hz
  refine (rtime n hn (l ++ rest) hr (by simp only [List.length_append]; omega) (by simp [avail, Lib.beBytes_length]) (by omega)).mono ?_
  rintro e W' ⟨rfl, h1, h2⟩
  refine ⟨rfl, h.step ?_ h2, h2⟩
  have e : ([(Lib.beBytes 8 n ++ l).length] : List Nat).map (· - 8) = [l.length] := by simp [Lib.beBytes_length]
  rw [e] at h1
  exact h1
theorem HdSt.table {w W : World} {b d : Nat} {rest : List UInt8} {row : Array Value} (fs : List Fld) (l : List UInt8) (h : HdSt w W b d rest row (encT fs ++ l)) (hwf : WfFs fs) (hok : OkFs fs none 6) (hcost : costFs fs ≤ 2000) :
    Calls Tryz.prog 145 #[.iface TL (.pointer (some ⟨w.heap.size + 1, 0, none⟩))] W fun e W' => ∃ mb es, e = .returned (.tuple #[.map (some mb), .nilIface]) ∧ W.heap.size ≤ mb ∧ MapAt W' mb es ∧ PF (fun b => W.heap.size ≤ b) W' es fs ∧ HdSt w W' b d rest row l ∧ Kept [w.heap.size + 1, b] W W' := by
  have hr := h.rd
  rw [List.append_assoc] at hr
  have hz := h.sz
  have hd := h.dl; have hsz := h.kept.size
  rw [List.append_assoc] at hz
  refine (rtable_all fs none 6 W _ _ d _ (l ++ rest) hwf hok hcost (by omega) hr hz (by simp [avail]) (by omega)).mono ?_
  rintro e W' ⟨mb, es, rfl, g1, g2, g3, h1, h2⟩
  refine ⟨mb, es, rfl, g1, g2, g3, h.step ?_ h2, h2⟩
  have e : ([(encT fs ++ l).length] : List Nat).map (· - (encT fs).length) = [l.length] := by simp
  rw [e] at h1
  exact h1
theorem HdSt.fix_u8 {w W : World} {b d : Nat} {rest : List UInt8} {row : Array Value} (n : Nat) (l : List UInt8) (h : HdSt w W b d rest row (Lib.beBytes 1 n ++ l)) (hn : n < 256) (pb po : Nat) (v0 : Value) (hp : W.cell? ⟨pb, po, none⟩ = some v0) (hpf : W.frozen? ⟨pb, po, none⟩ = false) (h1 : pb ≠ w.heap.size + 1) (h2 : pb ≠ b) (h3 : pb ≠ d) :
    Calls Tryz.prog 77 #[.iface TL (.pointer (some ⟨w.heap.size + 1, 0, none⟩)), .iface 375 (.pointer (some ⟨pb, po, none⟩))] W fun e W' => e = .returned .nilIface ∧ ∃ W1, HdSt w W1 b d rest row l ∧ Kept [w.heap.size + 1, b] W W1 ∧ W' = W1.setCell ⟨pb, po, none⟩ (.int .u8 (n : Int)) := by
  have hr := h.rd
  rw [List.append_assoc] at hr
  have hz := h.sz
  have hd := h.dl; have hsz := h.kept.size
  simp only [List.length_append, Lib.beBytes_length] at hz
  refine (rfix_u8 (Lib.beBytes 1 n) (l ++ rest) (Lib.beBytes_length _ _) hr (by simp only [List.length_append]; omega) (by simp [avail, Lib.beBytes_length]) (by omega) pb po v0 hp hpf (by simp; exact ⟨h1, h2⟩) h3).mono ?_
  rintro e W' ⟨rfl, W1, k1, r1, rfl⟩
  refine ⟨rfl, W1, h.step ?_ k1, k1, by rw [Lib.beNat_beBytes 1 n (by omega)]⟩
  have e : ([(Lib.beBytes 1 n ++ l).length] : List Nat).map (· - 1) = [l.length] := by simp [Lib.beBytes_length]
  rw [e] at r1
  exact r1
theorem HdSt.fix_u16 {w W : World} {b d : Nat} {rest : List UInt8} {row : Array Value} (n : Nat) (l : List UInt8) (h : HdSt w W b d rest row (Lib.beBytes 2 n ++ l)) (hn : n < 65536) (pb po : Nat) (v0 : Value) (hp : W.cell? ⟨pb, po, none⟩ = some v0) (hpf : W.frozen? ⟨pb, po, none⟩ = false) (h1 : pb ≠ w.heap.size + 1) (h2 : pb ≠ b) (h3 : pb ≠ d) :
    Calls Tryz.prog 77 #[.iface TL (.pointer (some ⟨w.heap.size + 1, 0, none⟩)), .iface 199 (.pointer (some ⟨pb, po, none⟩))] W fun e W' => e = .returned .nilIface ∧ ∃ W1, HdSt w W1 b d rest row l ∧ Kept [w.heap.size + 1, b] W W1 ∧ W' = W1.setCell ⟨pb, po, none⟩ (.int .u16 (n : Int)) := by
  have hr := h.rd
  rw [List.append_assoc] at hr
  have hz := h.sz
  have hd := h.dl; have hsz := h.kept.size
  simp only [List.length_append, Lib.beBytes_length] at hz
  refine (rfix_u16 (Lib.beBytes 2 n) (l ++ rest) (Lib.beBytes_length _ _) hr (by simp only [List.length_append]; omega) (by simp [avail, Lib.beBytes_length]) (by omega) pb po v0 hp hpf (by simp; exact ⟨h1, h2⟩) h3).mono ?_
  rintro e W' ⟨rfl, W1, k1, r1, rfl⟩
  refine ⟨rfl, W1, h.step ?_ k1, k1, by rw [Lib.beNat_beBytes 2 n (by omega)]⟩
  have e : ([(Lib.beBytes 2 n ++ l).length] : List Nat).map (· - 2) = [l.length] := by simp [Lib.beBytes_length]
  rw [e] at r1
  exact r1
theorem HdSt.fix_u64 {w W : World} {b d : Nat} {rest : List UInt8} {row : Array Value} (n : Nat) (l : List UInt8) (h : HdSt w W b d rest row (Lib.beBytes 8 n ++ l)) (hn : n < 18446744073709551616) (pb po : Nat) (v0 : Value) (hp : W.cell? ⟨pb, po, none⟩ = some v0) (hpf : W.frozen? ⟨pb, po, none⟩ = false) (h1 : pb ≠ w.heap.size + 1) (h2 : pb ≠ b) (h3 : pb ≠ d) :
    Calls Tryz.prog 77 #[.iface TL (.pointer (some ⟨w.heap.size + 1, 0, none⟩)), .iface 369 (.pointer (some ⟨pb, po, none⟩))] W fun e W' => e = .returned .nilIface ∧ ∃ W1, HdSt w W1 b d rest row l ∧ Kept [w.heap.size + 1, b] W W1 ∧ W' = W1.setCell ⟨pb, po, none⟩ (.int .u64 (n : Int)) := by
  have hr := h.rd
  rw [List.append_assoc] at hr
  have hz := h.sz
  have hd := h.dl; have hsz := h.kept.size
  simp only [List.length_append, Lib.beBytes_length] at hz
  refine (rfix_u64 (Lib.beBytes 8 n) (l ++ rest) (Lib.beBytes_length _ _) hr (by simp only [List.length_append]; omega) (by simp [avail, Lib.beBytes_length]) (by omega) pb po v0 hp hpf (by simp; exact ⟨h1, h2⟩) h3).mono ?_
  rintro e W' ⟨rfl, W1, k1, r1, rfl⟩
  refine ⟨rfl, W1, h.step ?_ k1, k1, by rw [Lib.beNat_beBytes 8 n (by omega)]⟩
  have e : ([(Lib.beBytes 8 n ++ l).length] : List Nat).map (· - 8) = [l.length] := by simp [Lib.beBytes_length]
  rw [e] at r1
  exact r1
theorem HdSt.lim {w W : World} {b d : Nat} {rest : List UInt8} {row : Array Value} {l : List UInt8} (h : HdSt w W b d rest row l) : W.cell? ⟨w.heap.size + 1, 1, none⟩ = some (.int .i64 (l.length : Int)) := by
  have hr := h.rd
  generalize hx : (Value.iface TL (.pointer (some ⟨w.heap.size + 1, 0, none⟩))) = r at hr
  generalize hn : ([l.length] : List Nat) = Ns at hr
  generalize hp : ([w.heap.size + 1, b] : List Nat) = ps at hr
  cases hr with
  | buf b' d l hb hne => cases hn
  | lim R ps d Ns l q N h1 h2 h3 h4 h5 =>
    cases hn; cases hx
    exact h4.cell 1
theorem HdSt.buf {w W : World} {b d : Nat} {rest : List UInt8} {row : Array Value} {l : List UInt8} (h : HdSt w W b d rest row l) : Buf W b d (l ++ rest) := by
  have hr := h.rd
  generalize hx : (Value.iface TL (.pointer (some ⟨w.heap.size + 1, 0, none⟩))) = r at hr
  generalize hn : ([l.length] : List Nat) = Ns at hr
  generalize hp : ([w.heap.size + 1, b] : List Nat) = ps at hr
  generalize hl : l ++ rest = ls at hr ⊢
  cases hr with
  | buf b' d l hb hne => cases hn
  | lim R ps d Ns l q N h1 h2 h3 h4 h5 =>
    cases hn; cases hp
    cases h1 with
    | buf b' d l hb hne => exact hb
theorem HdSt.apart {S : List Nat} {w W W' : World} {b d : Nat} {rest : List UInt8} {row : Array Value} {l : List UInt8} (h : HdSt w W b d rest row l) (hk : Kept S W W') (hS : ∀ x ∈ S, w.heap.size + 2 ≤ x) : HdSt w W' b d rest row l := by
  have := h.bl; have := h.dl
  have hn : ∀ y, y < w.heap.size + 2 → y ∉ S := fun y hy hm => by have := hS y hm; omega
  exact ⟨h.rd.kept hk (fun x hx => by simp at hx; exact hn x (by omega)) (hn d (by omega)), h.blk.kept hk (hn _ (by omega)), h.kept.trans hk (fun x hx => .inr (by have := hS x hx; omega)), h.bl, h.dl, h.sz⟩
/-- The frame of a header, as it is read. -/
def HhRes (w : World) (ch cl sz : Nat) (p : HP) (F : Value) (w' : World) : Prop := ∃ hd, F = .iface 94 (.pointer (some ⟨w.heap.size, 0, none⟩)) ∧ Blk w' w.heap.size (hfOf ch cl sz p hd) TH ∧ HdP (fun b => w.heap.size < b) w' p hd
set_option maxHeartbeats 8000000 in
set_option maxRecDepth 100000 in
theorem phead_any (p : HP) (hp : properP p = true) (hwf : WfP p) (ch cl sz : Nat) (hcl : cl < 65536) (hsz : sz < 18446744073709551616) (rr mb b d : Nat) (rest : List UInt8) (w : World) (h : RS w rr mb b d (headerB cl sz p ++ rest)) (hl : (headerB cl sz p ++ rest).length ≤ 900000000) (n : Nat) (hn : n = (headerB cl sz p).length) (hn32 : n < 4294967296) :
    Calls Tryz.prog 61 #[.pointer (some ⟨rr, 0, none⟩), .int .u16 (ch : Int), .int .u32 (n : Int)] w fun e w' => ∃ F, e = .returned (.tuple #[F, .nilIface]) ∧ Parsed rr mb b d rest (HhRes w ch cl sz p) F w w' := by
  have c0 : w.cell? ⟨rr, 0, none⟩ = some (.iface 111 (.pointer (some ⟨b, 0, none⟩))) := h.blk.cell 0
  have hrl := h.blk.lt
  obtain ⟨wa, hwa⟩ : ∃ wa, wa = (w.alloc (.cells #[.int .u16 (ch : Int), .int .u16 0, .int .u16 0, .int .u64 0, .string ⟨#[]⟩, .string ⟨#[]⟩, .map none, .int .u8 0, .int .u8 0, .string ⟨#[]⟩, .string ⟨#[]⟩, .string ⟨#[]⟩, .string ⟨#[]⟩, .int .u64 0, .int .i64 0, .pointer none, .string ⟨#[]⟩, .string ⟨#[]⟩, .string ⟨#[]⟩, .string ⟨#[]⟩] TH)).alloc (.cells #[.iface 111 (.pointer (some ⟨b, 0, none⟩)), .int .i64 (n : Int)] 368) := ⟨_, rfl⟩
  have hka : Kept [] w wa := by rw [hwa]; exact ((Kept.refl [] w).alloc _).alloc _
  have hs0 : HdSt w wa b d rest (hfRow ch 0 0 (p.below 0) (.map none) 0 0 (.int .u64 0) (.int .i64 0) (.pointer none)) (headerB cl sz p) := by
    have hbl := h.blt; have hdl := h.dlt
    refine ⟨?_, by rw [hwa]; exact (Blk.new w _ _).alloc _, hka.mono (by simp), hbl, hdl, hl⟩
    refine Rd.lim _ [b] d [] _ (w.heap.size + 1) _ (Rd.buf b d _ (h.buf.kept hka (by simp) (by simp)) h.bd) (by simp; omega) (by omega) (by rw [hwa, ← hn]; exact Blk.new_at (by simp)) (by simp [avail])
  have hfit := proper_fit hp
  have hfi := (fitsB_iff _).1 hfit.1
  have H := Lib.hid (And.intro hp (And.intro hwf (And.intro h (And.intro hfit (And.intro hfi (And.intro hcl hsz))))))
  have HW := Lib.hid hwa
  have hw64 : IntKind.i64.wrap (n : Int) = n := by rw [IntKind.wrap_i64]; omega
  unfold headerB at hs0
  rw [HP.tl_items] at hs0
  have hx1 := HdSt.fix_u16 cl _ hs0 hcl w.heap.size 1 _ (hs0.blk.cell 1) (hs0.blk.free 1) (by omega) (by have := hs0.bl; omega) (by have := hs0.dl; omega)
  have HX1 := Lib.hid hx1
  clear hp hwf h hfit hfi hcl hsz hwa hka hl hs0 hx1 hn hn32
  go_enter Tryz.func61, Tryz.ntmps61
  go_upto_region 3 with fail
  rw [← HW.out]
  go_upto_region 5 with (go_at_call 77; (with_reducible refine HX1.out.mono ?_); rintro e w1' ⟨rfl, w1, h1, k1, rfl⟩; have hy := h1.store 1 (.int .u16 (cl : Int)); have HS1 := Lib.hid hy; clear h1 k1 hy)
  rw [show ((hfRow (ch : Int) 0 0 (p.below 0) (.map none) 0 0 (.int .u64 0) (.int .i64 0) (.pointer none)).setIfInBounds 1 (.int .u16 (cl : Int))) = hfRow (ch : Int) (cl : Int) 0 (p.below 0) (.map none) 0 0 (.int .u64 0) (.int .i64 0) (.pointer none) from rfl] at HS1
  generalize w1.setCell ⟨w.heap.size, 1, none⟩ (.int .u16 (cl : Int)) = v1 at HS1 ⊢
  have hx2 : Calls Tryz.prog 77 #[.iface TL (.pointer (some ⟨w.heap.size + 1, 0, none⟩)), .iface 199 (.pointer (some ⟨w.heap.size, 2, none⟩))] v1 fun e W' => e = .returned .nilIface ∧ ∃ W1, HdSt w W1 b d rest _ _ ∧ Kept [w.heap.size + 1, b] v1 W1 ∧ W' = W1.setCell ⟨w.heap.size, 2, none⟩ (.int .u16 0) :=
    HdSt.fix_u16 0 _ HS1.out (by omega) w.heap.size 2 _ (HS1.out.blk.cell 2) (HS1.out.blk.free 2) (by omega) (by have := HS1.out.bl; omega) (by have := HS1.out.dl; omega)
  have HX2 := Lib.hid hx2; clear hx2
  go_upto_region 7 with (go_at_call 77; (with_reducible refine HX2.out.mono ?_); rintro e w2' ⟨rfl, w2, h2, k2, rfl⟩; have hy := h2.store 2 (.int .u16 0); have HS2 := Lib.hid hy; clear h2 k2 hy)
  rw [show ((hfRow (ch : Int) (cl : Int) 0 (p.below 0) (.map none) 0 0 (.int .u64 0) (.int .i64 0) (.pointer none)).setIfInBounds 2 (.int .u16 0)) = hfRow (ch : Int) (cl : Int) 0 (p.below 0) (.map none) 0 0 (.int .u64 0) (.int .i64 0) (.pointer none) from rfl] at HS2
  generalize w2.setCell ⟨w.heap.size, 2, none⟩ (.int .u16 0) = v2 at HS2 ⊢
  have hx3 := HdSt.fix_u64 sz _ HS2.out H.out.2.2.2.2.2.2 w.heap.size 3 _ (HS2.out.blk.cell 3) (HS2.out.blk.free 3) (by omega) (by have := HS2.out.bl; omega) (by have := HS2.out.dl; omega)
  have HX3 := Lib.hid hx3; clear hx3
  go_upto_region 9 with (go_at_call 77; (with_reducible refine HX3.out.mono ?_); rintro e w3' ⟨rfl, w3, h3, k3, rfl⟩; have hy := h3.store 3 (.int .u64 (sz : Int)); have HS3 := Lib.hid hy; clear h3 k3 hy)
  rw [show ((hfRow (ch : Int) (cl : Int) 0 (p.below 0) (.map none) 0 0 (.int .u64 0) (.int .i64 0) (.pointer none)).setIfInBounds 3 (.int .u64 (sz : Int))) = hfRow (ch : Int) (cl : Int) (sz : Int) (p.below 0) (.map none) 0 0 (.int .u64 0) (.int .i64 0) (.pointer none) from rfl] at HS3
  generalize w3.setCell ⟨w.heap.size, 3, none⟩ (.int .u64 (sz : Int)) = v3 at HS3 ⊢
  obtain ⟨v4, hv4⟩ : ∃ v4, v4 = v3.alloc (.cells #[.int .u16 0] 84) := ⟨_, rfl⟩
  have hs4 : HdSt w v4 b d rest _ _ := HS3.out.kept_r (by rw [hv4]; exact (Kept.refl [] v3).alloc _)
  have hb4 : Blk v4 v3.heap.size #[.int .u16 0] 84 := by rw [hv4]; exact Blk.new v3 _ _
  have hfl := HS3.out.size
  have HV4 := Lib.hid hv4
  have hx4 := HdSt.fix_u16 (p.flags 14) _ hs4 (p.flags_lt 14 (by omega)).2 v3.heap.size 0 _ (hb4.cell 0) (hb4.free 0) (by omega) (by have := hs4.bl; omega) (by have := hs4.dl; omega)
  have HX4 := Lib.hid (And.intro hx4 (And.intro hb4 hfl)); clear hx4 hs4 hb4 hfl hv4
  go_upto_region 10 with fail
  rw [← HV4.out]
  go_upto_region 12 with (go_at_call 77; (with_reducible refine HX4.out.1.mono ?_); rintro e w4' ⟨rfl, w4, h4, k4, rfl⟩; have H4 := Lib.hid (And.intro h4 k4); clear h4 k4)
  have hks : Kept [v3.heap.size] w4 (w4.setCell ⟨v3.heap.size, 0, none⟩ (.int .u16 ((p.flags 14 : Nat) : Int))) := (Kept.refl _ w4).setCell (by simp) _
  have hs5 := H4.out.1.apart hks (fun x hx => by have := HX4.out.2.2; simp at hx; omega)
  have hb5 : Blk (w4.setCell ⟨v3.heap.size, 0, none⟩ (.int .u16 ((p.flags 14 : Nat) : Int))) v3.heap.size #[.int .u16 ((p.flags 14 : Nat) : Int)] 84 := (HX4.out.2.1.kept H4.out.2 (by have h1 := HX4.out.2.2; have h2 := H4.out.1.bl; simp; omega)).setCell 0 _
  have hfl := HX4.out.2.2
  obtain ⟨fl, hfl2⟩ : ∃ fl, fl = v3.heap.size := ⟨_, rfl⟩
  rw [← hfl2] at hs5 hb5 hfl
  rw [← hfl2]
  have KP := Lib.hid (And.intro hs5 hb5)
  generalize w4.setCell ⟨fl, 0, none⟩ (.int .u16 ((p.flags 14 : Nat) : Int)) = v5 at KP ⊢
  have HFL := Lib.hid hfl
  obtain ⟨mo, hmo⟩ : ∃ n : Nat, p.mode = (n : Int) := ⟨p.mode.toNat, by have := H.out.2.2.2.1; omega⟩
  obtain ⟨pr, hpr⟩ : ∃ n : Nat, p.prio = (n : Int) := ⟨p.prio.toNat, by have := H.out.2.2.2.1; omega⟩
  obtain ⟨ti, hti⟩ : ∃ n : Nat, p.time = (n : Int) := ⟨p.time.toNat, by have := H.out.2.2.2.1; omega⟩
  have HN := Lib.hid (And.intro hmo (And.intro hpr hti))
  clear hks hs5 hb5 hfl hfl2 hmo hpr hti HX1 HX2 HX3 HX4 HS1 HS2 HS3 HV4 H4 HW hw64 c0 hrl
  have cfl : v5.cell? ⟨fl, 0, none⟩ = some (.int .u16 ((p.flags 14 : Nat) : Int)) := KP.out.2.cell0
  go_upto_if 56 with (go_at_call 143; (with_reducible refine (hasprop_any p 0 (by decide) 32768 (by decide) _).mono ?_); rintro e wh ⟨rfl, rfl⟩)
  go_cut [] from 55 to 68 (fun wx => Hid (HdSt w wx b d rest (hfRow (ch : Int) (cl : Int) (sz : Int) (p.below 1) (.map none) 0 0 (.int .u64 0) (.int .i64 0) (.pointer none)) (p.tl 13) ∧ Blk wx fl #[.int .u16 ((p.flags 14 : Nat) : Int)] 84))
  case first =>
    cases hh : p.has 0
    · have HH := Lib.hid hh; clear hh
      have hs := KP.out.1
      rw [HP.tl_no (m := 13) HH.out] at hs
      have HQ := Lib.hid hs; clear hs
      go_wp2
      go_meet
      case rel => have hs := HQ.out; exact Lib.hid ⟨by rw [show p.below 1 = p.below 0 from HP.below_no HH.out]; exact hs, KP.out.2⟩
    · have HH := Lib.hid hh; clear hh
      have hs := KP.out.1
      rw [HP.tl_text (k := 0) (m := 13) rfl HH.out (by decide) (by decide) (by decide) (by decide)] at hs
      have HX := Lib.hid (hs.short _ _ (HP.okText H.out.1 0 (by decide) (by decide) (by decide) (by decide) (by decide) (by decide)).2); clear hs
      go_wp2_with (go_at_call 144; (with_reducible refine HX.out.mono ?_); rintro e wy ⟨rfl, h1, k1⟩; have hbf := KP.out.2.kept k1 (by have h2 := KP.out.1.bl; have h3 := HFL.out; simp; omega); have cX : wy.cell? ⟨w.heap.size, 4, none⟩ = some (.string (bstr (p.below 0 0))) := h1.blk.cell 4; have fX := h1.blk.free 4; have HY := Lib.hid (And.intro h1 hbf); clear h1 k1 hbf)
      go_meet
      case rel =>
        have hks : Kept [w.heap.size] wy (wy.setCell ⟨w.heap.size, 4, none⟩ (.string (bstr (p.txt 0)))) := (Kept.refl _ wy).setCell (by simp) _
        have hy := HY.out.1.store 4 (.string (bstr (p.txt 0)))
        have hb := HY.out.2.kept hks (by have := HFL.out; simp; omega)
        rw [show (hfRow (ch : Int) (cl : Int) (sz : Int) (p.below 0) (.map none) 0 0 (.int .u64 0) (.int .i64 0) (.pointer none)).setIfInBounds 4 (.string (bstr (p.txt 0))) = (hfRow (ch : Int) (cl : Int) (sz : Int) (p.below 1) (.map none) 0 0 (.int .u64 0) (.int .i64 0) (.pointer none)) by rw [← HP.held_has HH.out (by decide)]; rfl] at hy
        exact Lib.hid ⟨hy, hb⟩
  case rest =>
    clear KP cfl
    have KP := hcut; clear hcut
    rename World => wp0
    have cfl : wp0.cell? ⟨fl, 0, none⟩ = some (.int .u16 ((p.flags 14 : Nat) : Int)) := KP.out.2.cell0
    go_upto_if 70 with (go_at_call 143; (with_reducible refine (hasprop_any p 1 (by decide) 16384 (by decide) _).mono ?_); rintro e wh ⟨rfl, rfl⟩)
    go_cut [] from 69 to 82 (fun wx => Hid (HdSt w wx b d rest (hfRow (ch : Int) (cl : Int) (sz : Int) (p.below 2) (.map none) 0 0 (.int .u64 0) (.int .i64 0) (.pointer none)) (p.tl 12) ∧ Blk wx fl #[.int .u16 ((p.flags 14 : Nat) : Int)] 84))
    case first =>
      cases hh : p.has 1
      · have HH := Lib.hid hh; clear hh
        have hs := KP.out.1
        rw [HP.tl_no (m := 12) HH.out] at hs
        have HQ := Lib.hid hs; clear hs
        go_wp2
        go_meet
        case rel => have hs := HQ.out; exact Lib.hid ⟨by rw [show p.below 2 = p.below 1 from HP.below_no HH.out]; exact hs, KP.out.2⟩
      · have HH := Lib.hid hh; clear hh
        have hs := KP.out.1
        rw [HP.tl_text (k := 1) (m := 12) rfl HH.out (by decide) (by decide) (by decide) (by decide)] at hs
        have HX := Lib.hid (hs.short _ _ (HP.okText H.out.1 1 (by decide) (by decide) (by decide) (by decide) (by decide) (by decide)).2); clear hs
        go_wp2_with (go_at_call 144; (with_reducible refine HX.out.mono ?_); rintro e wy ⟨rfl, h1, k1⟩; have hbf := KP.out.2.kept k1 (by have h2 := KP.out.1.bl; have h3 := HFL.out; simp; omega); have cX : wy.cell? ⟨w.heap.size, 5, none⟩ = some (.string (bstr (p.below 1 1))) := h1.blk.cell 5; have fX := h1.blk.free 5; have HY := Lib.hid (And.intro h1 hbf); clear h1 k1 hbf)
        go_meet
        case rel =>
          have hks : Kept [w.heap.size] wy (wy.setCell ⟨w.heap.size, 5, none⟩ (.string (bstr (p.txt 1)))) := (Kept.refl _ wy).setCell (by simp) _
          have hy := HY.out.1.store 5 (.string (bstr (p.txt 1)))
          have hb := HY.out.2.kept hks (by have := HFL.out; simp; omega)
          rw [show (hfRow (ch : Int) (cl : Int) (sz : Int) (p.below 1) (.map none) 0 0 (.int .u64 0) (.int .i64 0) (.pointer none)).setIfInBounds 5 (.string (bstr (p.txt 1))) = (hfRow (ch : Int) (cl : Int) (sz : Int) (p.below 2) (.map none) 0 0 (.int .u64 0) (.int .i64 0) (.pointer none)) by rw [← HP.held_has HH.out (by decide)]; rfl] at hy
          exact Lib.hid ⟨hy, hb⟩
    case rest =>
      clear KP cfl
      have KP := hcut; clear hcut
      rename World => wp1
      have cfl : wp1.cell? ⟨fl, 0, none⟩ = some (.int .u16 ((p.flags 14 : Nat) : Int)) := KP.out.2.cell0
      go_upto_if 84 with (go_at_call 143; (with_reducible refine (hasprop_any p 2 (by decide) 8192 (by decide) _).mono ?_); rintro e wh ⟨rfl, rfl⟩)
      go_cut [] from 83 to 96 (fun wx => ∃ hd, Hid (HdSt w wx b d rest (hfRow (ch : Int) (cl : Int) (sz : Int) (p.below 3) hd 0 0 (.int .u64 0) (.int .i64 0) (.pointer none)) (p.tl 11) ∧ Blk wx fl #[.int .u16 ((p.flags 14 : Nat) : Int)] 84 ∧ HdP (fun b => w.heap.size + 2 ≤ b ∧ b ≠ fl) wx p hd))
      case first =>
        cases hh : p.has 2
        · have HH := Lib.hid hh; clear hh
          have hs := KP.out.1
          rw [HP.tl_no (m := 11) HH.out] at hs
          have HQ := Lib.hid hs; clear hs
          go_wp2
          go_meet
          case rel => have hs := HQ.out; exact ⟨.map none, Lib.hid ⟨hs, KP.out.2, .inl ⟨HH.out, rfl⟩⟩⟩
        · have HH := Lib.hid hh; clear hh
          have hs := KP.out.1
          rw [HP.tl_2 HH.out] at hs
          have HX := Lib.hid (hs.table _ _ H.out.2.1.hdr H.out.2.2.2.2.1.1 H.out.2.2.2.2.1.2); clear hs
          go_wp2_with (go_at_call 145; (with_reducible refine HX.out.mono ?_); rintro e wy ⟨mb2, es, rfl, g1, g2, g3, h1, k1⟩; have hbf := KP.out.2.kept k1 (by have h2 := KP.out.1.bl; have h3 := HFL.out; simp; omega); have cX : wy.cell? ⟨w.heap.size, 6, none⟩ = some (.map none) := h1.blk.cell 6; have fX := h1.blk.free 6; have HY := Lib.hid (And.intro h1 (And.intro hbf (And.intro g1 (And.intro g2 g3)))); clear h1 k1 hbf g1 g2 g3)
          go_meet
          case rel =>
            have hks : Kept [w.heap.size] wy (wy.setCell ⟨w.heap.size, 6, none⟩ (.map (some mb2))) := (Kept.refl _ wy).setCell (by simp) _
            have hy := HY.out.1.store 6 (.map (some mb2))
            have hb := HY.out.2.1.kept hks (by have := HFL.out; simp; omega)
            have hvs := KP.out.1.size
            have hfls := KP.out.2.lt
            have hg1 := HY.out.2.2.1
            exact ⟨.map (some mb2), Lib.hid ⟨hy, hb, .inr ⟨HH.out, mb2, es, rfl, ⟨by omega, by omega⟩, HY.out.2.2.2.1.kept hks (by simp; omega), PF.kept hks (fun x hx => by simp; omega) _ (PF.mono (fun x hx _ => ⟨by omega, by omega⟩) _ HY.out.2.2.2.2)⟩⟩⟩
      case rest =>
        clear KP cfl
        obtain ⟨hd, KP⟩ := hcut
        rename World => wp2
        have cfl : wp2.cell? ⟨fl, 0, none⟩ = some (.int .u16 ((p.flags 14 : Nat) : Int)) := KP.out.2.1.cell0
        go_upto_if 98 with (go_at_call 143; (with_reducible refine (hasprop_any p 3 (by decide) 4096 (by decide) _).mono ?_); rintro e wh ⟨rfl, rfl⟩)
        go_cut [] from 97 to 108 (fun wx => ∃ hd, Hid (HdSt w wx b d rest (hfRow (ch : Int) (cl : Int) (sz : Int) (p.below 4) hd p.mode 0 (.int .u64 0) (.int .i64 0) (.pointer none)) (p.tl 10) ∧ Blk wx fl #[.int .u16 ((p.flags 14 : Nat) : Int)] 84 ∧ HdP (fun b => w.heap.size + 2 ≤ b ∧ b ≠ fl) wx p hd))
        case first =>
          cases hh : p.has 3
          · have HH := Lib.hid hh; clear hh
            have hs := KP.out.1
            rw [HP.tl_no (m := 10) HH.out] at hs
            have HQ := Lib.hid hs; clear hs
            go_wp2
            go_meet
            case rel => have hs := HQ.out; exact ⟨hd, Lib.hid ⟨by rw [show p.mode = 0 by have h1 := HP.okMode H.out.1; rw [HH.out] at h1; have h2 := of_decide_eq_false h1.symm; have h3 := H.out.2.2.2.1; omega]; exact hs, KP.out.2.1, KP.out.2.2⟩⟩
          · have HH := Lib.hid hh; clear hh
            have hs := KP.out.1
            rw [HP.tl_3 HH.out mo HN.out.1] at hs
            have HX := Lib.hid (hs.fix_u8 mo _ (by have h1 := HN.out.1; have h2 := H.out.2.2.2.1; omega) w.heap.size 7 _ (hs.blk.cell 7) (hs.blk.free 7) (by omega) (by have := hs.bl; omega) (by have := hs.dl; omega)); clear hs
            go_wp2_with (go_at_call 77; (with_reducible refine HX.out.mono ?_); rintro e wy' ⟨rfl, wy, h1, k1, rfl⟩; have hbf := KP.out.2.1.kept k1 (by have h2 := KP.out.1.bl; have h3 := HFL.out; simp; omega); have hz := KP.out.2.2.kept k1 (fun x hx => by have := KP.out.1.bl; simp; omega); have HY := Lib.hid (And.intro h1 (And.intro hbf hz)); clear h1 k1 hbf hz)
            go_meet
            case rel =>
              have hks : Kept [w.heap.size] wy (wy.setCell ⟨w.heap.size, 7, none⟩ (.int .u8 (mo : Int))) := (Kept.refl _ wy).setCell (by simp) _
              have hy := HY.out.1.store 7 (.int .u8 (mo : Int))
              have hb := HY.out.2.1.kept hks (by have := HFL.out; simp; omega)
              rw [← HN.out.1] at hy hb hks ⊢
              exact ⟨hd, Lib.hid ⟨hy, hb, HY.out.2.2.kept hks (fun x hx => by simp; omega)⟩⟩
        case rest =>
          clear KP cfl
          obtain ⟨hd, KP⟩ := hcut
          rename World => wp3
          have cfl : wp3.cell? ⟨fl, 0, none⟩ = some (.int .u16 ((p.flags 14 : Nat) : Int)) := KP.out.2.1.cell0
          go_upto_if 110 with (go_at_call 143; (with_reducible refine (hasprop_any p 4 (by decide) 2048 (by decide) _).mono ?_); rintro e wh ⟨rfl, rfl⟩)
          go_cut [] from 109 to 120 (fun wx => ∃ hd, Hid (HdSt w wx b d rest (hfRow (ch : Int) (cl : Int) (sz : Int) (p.below 5) hd p.mode p.prio (.int .u64 0) (.int .i64 0) (.pointer none)) (p.tl 9) ∧ Blk wx fl #[.int .u16 ((p.flags 14 : Nat) : Int)] 84 ∧ HdP (fun b => w.heap.size + 2 ≤ b ∧ b ≠ fl) wx p hd))
          case first =>
            cases hh : p.has 4
            · have HH := Lib.hid hh; clear hh
              have hs := KP.out.1
              rw [HP.tl_no (m := 9) HH.out] at hs
              have HQ := Lib.hid hs; clear hs
              go_wp2
              go_meet
              case rel => have hs := HQ.out; exact ⟨hd, Lib.hid ⟨by rw [show p.prio = 0 by have h1 := HP.okPrio H.out.1; rw [HH.out] at h1; have h2 := of_decide_eq_false h1.symm; have h3 := H.out.2.2.2.1; omega]; exact hs, KP.out.2.1, KP.out.2.2⟩⟩
            · have HH := Lib.hid hh; clear hh
              have hs := KP.out.1
              rw [HP.tl_4 HH.out pr HN.out.2.1] at hs
              have HX := Lib.hid (hs.fix_u8 pr _ (by have h1 := HN.out.2.1; have h2 := H.out.2.2.2.1; omega) w.heap.size 8 _ (hs.blk.cell 8) (hs.blk.free 8) (by omega) (by have := hs.bl; omega) (by have := hs.dl; omega)); clear hs
              go_wp2_with (go_at_call 77; (with_reducible refine HX.out.mono ?_); rintro e wy' ⟨rfl, wy, h1, k1, rfl⟩; have hbf := KP.out.2.1.kept k1 (by have h2 := KP.out.1.bl; have h3 := HFL.out; simp; omega); have hz := KP.out.2.2.kept k1 (fun x hx => by have := KP.out.1.bl; simp; omega); have HY := Lib.hid (And.intro h1 (And.intro hbf hz)); clear h1 k1 hbf hz)
              go_meet
              case rel =>
                have hks : Kept [w.heap.size] wy (wy.setCell ⟨w.heap.size, 8, none⟩ (.int .u8 (pr : Int))) := (Kept.refl _ wy).setCell (by simp) _
                have hy := HY.out.1.store 8 (.int .u8 (pr : Int))
                have hb := HY.out.2.1.kept hks (by have := HFL.out; simp; omega)
                rw [← HN.out.2.1] at hy hb hks ⊢
                exact ⟨hd, Lib.hid ⟨hy, hb, HY.out.2.2.kept hks (fun x hx => by simp; omega)⟩⟩
          case rest =>
            clear KP cfl
            obtain ⟨hd, KP⟩ := hcut
            rename World => wp4
            have cfl : wp4.cell? ⟨fl, 0, none⟩ = some (.int .u16 ((p.flags 14 : Nat) : Int)) := KP.out.2.1.cell0
            go_upto_if 122 with (go_at_call 143; (with_reducible refine (hasprop_any p 5 (by decide) 1024 (by decide) _).mono ?_); rintro e wh ⟨rfl, rfl⟩)
            go_cut [] from 121 to 134 (fun wx => ∃ hd, Hid (HdSt w wx b d rest (hfRow (ch : Int) (cl : Int) (sz : Int) (p.below 6) hd p.mode p.prio (.int .u64 0) (.int .i64 0) (.pointer none)) (p.tl 8) ∧ Blk wx fl #[.int .u16 ((p.flags 14 : Nat) : Int)] 84 ∧ HdP (fun b => w.heap.size + 2 ≤ b ∧ b ≠ fl) wx p hd))
            case first =>
              cases hh : p.has 5
              · have HH := Lib.hid hh; clear hh
                have hs := KP.out.1
                rw [HP.tl_no (m := 8) HH.out] at hs
                have HQ := Lib.hid hs; clear hs
                go_wp2
                go_meet
                case rel => have hs := HQ.out; exact ⟨hd, Lib.hid ⟨by rw [show p.below 6 = p.below 5 from HP.below_no HH.out]; exact hs, KP.out.2.1, KP.out.2.2⟩⟩
              · have HH := Lib.hid hh; clear hh
                have hs := KP.out.1
                rw [HP.tl_text (k := 5) (m := 8) rfl HH.out (by decide) (by decide) (by decide) (by decide)] at hs
                have HX := Lib.hid (hs.short _ _ (HP.okText H.out.1 5 (by decide) (by decide) (by decide) (by decide) (by decide) (by decide)).2); clear hs
                go_wp2_with (go_at_call 144; (with_reducible refine HX.out.mono ?_); rintro e wy ⟨rfl, h1, k1⟩; have hbf := KP.out.2.1.kept k1 (by have h2 := KP.out.1.bl; have h3 := HFL.out; simp; omega); have hz := KP.out.2.2.kept k1 (fun x hx => by have := KP.out.1.bl; simp; omega); have cX : wy.cell? ⟨w.heap.size, 9, none⟩ = some (.string (bstr (p.below 5 5))) := h1.blk.cell 9; have fX := h1.blk.free 9; have HY := Lib.hid (And.intro h1 (And.intro hbf hz)); clear h1 k1 hbf hz)
                go_meet
                case rel =>
                  have hks : Kept [w.heap.size] wy (wy.setCell ⟨w.heap.size, 9, none⟩ (.string (bstr (p.txt 5)))) := (Kept.refl _ wy).setCell (by simp) _
                  have hy := HY.out.1.store 9 (.string (bstr (p.txt 5)))
                  have hb := HY.out.2.1.kept hks (by have := HFL.out; simp; omega)
                  rw [show (hfRow (ch : Int) (cl : Int) (sz : Int) (p.below 5) hd p.mode p.prio (.int .u64 0) (.int .i64 0) (.pointer none)).setIfInBounds 9 (.string (bstr (p.txt 5))) = (hfRow (ch : Int) (cl : Int) (sz : Int) (p.below 6) hd p.mode p.prio (.int .u64 0) (.int .i64 0) (.pointer none)) by rw [← HP.held_has HH.out (by decide)]; rfl] at hy
                  exact ⟨hd, Lib.hid ⟨hy, hb, ((HY.out.2.2).kept hks (fun x hx => by simp; omega))⟩⟩
            case rest =>
              clear KP cfl
              obtain ⟨hd, KP⟩ := hcut
              rename World => wp5
              have cfl : wp5.cell? ⟨fl, 0, none⟩ = some (.int .u16 ((p.flags 14 : Nat) : Int)) := KP.out.2.1.cell0
              go_upto_if 136 with (go_at_call 143; (with_reducible refine (hasprop_any p 6 (by decide) 512 (by decide) _).mono ?_); rintro e wh ⟨rfl, rfl⟩)
              go_cut [] from 135 to 148 (fun wx => ∃ hd, Hid (HdSt w wx b d rest (hfRow (ch : Int) (cl : Int) (sz : Int) (p.below 7) hd p.mode p.prio (.int .u64 0) (.int .i64 0) (.pointer none)) (p.tl 7) ∧ Blk wx fl #[.int .u16 ((p.flags 14 : Nat) : Int)] 84 ∧ HdP (fun b => w.heap.size + 2 ≤ b ∧ b ≠ fl) wx p hd))
              case first =>
                cases hh : p.has 6
                · have HH := Lib.hid hh; clear hh
                  have hs := KP.out.1
                  rw [HP.tl_no (m := 7) HH.out] at hs
                  have HQ := Lib.hid hs; clear hs
                  go_wp2
                  go_meet
                  case rel => have hs := HQ.out; exact ⟨hd, Lib.hid ⟨by rw [show p.below 7 = p.below 6 from HP.below_no HH.out]; exact hs, KP.out.2.1, KP.out.2.2⟩⟩
                · have HH := Lib.hid hh; clear hh
                  have hs := KP.out.1
                  rw [HP.tl_text (k := 6) (m := 7) rfl HH.out (by decide) (by decide) (by decide) (by decide)] at hs
                  have HX := Lib.hid (hs.short _ _ (HP.okText H.out.1 6 (by decide) (by decide) (by decide) (by decide) (by decide) (by decide)).2); clear hs
                  go_wp2_with (go_at_call 144; (with_reducible refine HX.out.mono ?_); rintro e wy ⟨rfl, h1, k1⟩; have hbf := KP.out.2.1.kept k1 (by have h2 := KP.out.1.bl; have h3 := HFL.out; simp; omega); have hz := KP.out.2.2.kept k1 (fun x hx => by have := KP.out.1.bl; simp; omega); have cX : wy.cell? ⟨w.heap.size, 10, none⟩ = some (.string (bstr (p.below 6 6))) := h1.blk.cell 10; have fX := h1.blk.free 10; have HY := Lib.hid (And.intro h1 (And.intro hbf hz)); clear h1 k1 hbf hz)
                  go_meet
                  case rel =>
                    have hks : Kept [w.heap.size] wy (wy.setCell ⟨w.heap.size, 10, none⟩ (.string (bstr (p.txt 6)))) := (Kept.refl _ wy).setCell (by simp) _
                    have hy := HY.out.1.store 10 (.string (bstr (p.txt 6)))
                    have hb := HY.out.2.1.kept hks (by have := HFL.out; simp; omega)
                    rw [show (hfRow (ch : Int) (cl : Int) (sz : Int) (p.below 6) hd p.mode p.prio (.int .u64 0) (.int .i64 0) (.pointer none)).setIfInBounds 10 (.string (bstr (p.txt 6))) = (hfRow (ch : Int) (cl : Int) (sz : Int) (p.below 7) hd p.mode p.prio (.int .u64 0) (.int .i64 0) (.pointer none)) by rw [← HP.held_has HH.out (by decide)]; rfl] at hy
                    exact ⟨hd, Lib.hid ⟨hy, hb, ((HY.out.2.2).kept hks (fun x hx => by simp; omega))⟩⟩
              case rest =>
                clear KP cfl
                obtain ⟨hd, KP⟩ := hcut
                rename World => wp6
                have cfl : wp6.cell? ⟨fl, 0, none⟩ = some (.int .u16 ((p.flags 14 : Nat) : Int)) := KP.out.2.1.cell0
                go_upto_if 150 with (go_at_call 143; (with_reducible refine (hasprop_any p 7 (by decide) 256 (by decide) _).mono ?_); rintro e wh ⟨rfl, rfl⟩)
                go_cut [] from 149 to 162 (fun wx => ∃ hd, Hid (HdSt w wx b d rest (hfRow (ch : Int) (cl : Int) (sz : Int) (p.below 8) hd p.mode p.prio (.int .u64 0) (.int .i64 0) (.pointer none)) (p.tl 6) ∧ Blk wx fl #[.int .u16 ((p.flags 14 : Nat) : Int)] 84 ∧ HdP (fun b => w.heap.size + 2 ≤ b ∧ b ≠ fl) wx p hd))
                case first =>
                  cases hh : p.has 7
                  · have HH := Lib.hid hh; clear hh
                    have hs := KP.out.1
                    rw [HP.tl_no (m := 6) HH.out] at hs
                    have HQ := Lib.hid hs; clear hs
                    go_wp2
                    go_meet
                    case rel => have hs := HQ.out; exact ⟨hd, Lib.hid ⟨by rw [show p.below 8 = p.below 7 from HP.below_no HH.out]; exact hs, KP.out.2.1, KP.out.2.2⟩⟩
                  · have HH := Lib.hid hh; clear hh
                    have hs := KP.out.1
                    rw [HP.tl_text (k := 7) (m := 6) rfl HH.out (by decide) (by decide) (by decide) (by decide)] at hs
                    have HX := Lib.hid (hs.short _ _ (HP.okText H.out.1 7 (by decide) (by decide) (by decide) (by decide) (by decide) (by decide)).2); clear hs
                    go_wp2_with (go_at_call 144; (with_reducible refine HX.out.mono ?_); rintro e wy ⟨rfl, h1, k1⟩; have hbf := KP.out.2.1.kept k1 (by have h2 := KP.out.1.bl; have h3 := HFL.out; simp; omega); have hz := KP.out.2.2.kept k1 (fun x hx => by have := KP.out.1.bl; simp; omega); have cX : wy.cell? ⟨w.heap.size, 11, none⟩ = some (.string (bstr (p.below 7 7))) := h1.blk.cell 11; have fX := h1.blk.free 11; have HY := Lib.hid (And.intro h1 (And.intro hbf hz)); clear h1 k1 hbf hz)
                    go_meet
                    case rel =>
                      have hks : Kept [w.heap.size] wy (wy.setCell ⟨w.heap.size, 11, none⟩ (.string (bstr (p.txt 7)))) := (Kept.refl _ wy).setCell (by simp) _
                      have hy := HY.out.1.store 11 (.string (bstr (p.txt 7)))
                      have hb := HY.out.2.1.kept hks (by have := HFL.out; simp; omega)
                      rw [show (hfRow (ch : Int) (cl : Int) (sz : Int) (p.below 7) hd p.mode p.prio (.int .u64 0) (.int .i64 0) (.pointer none)).setIfInBounds 11 (.string (bstr (p.txt 7))) = (hfRow (ch : Int) (cl : Int) (sz : Int) (p.below 8) hd p.mode p.prio (.int .u64 0) (.int .i64 0) (.pointer none)) by rw [← HP.held_has HH.out (by decide)]; rfl] at hy
                      exact ⟨hd, Lib.hid ⟨hy, hb, ((HY.out.2.2).kept hks (fun x hx => by simp; omega))⟩⟩
                case rest =>
                  clear KP cfl
                  obtain ⟨hd, KP⟩ := hcut
                  rename World => wp7
                  have cfl : wp7.cell? ⟨fl, 0, none⟩ = some (.int .u16 ((p.flags 14 : Nat) : Int)) := KP.out.2.1.cell0
                  go_upto_if 164 with (go_at_call 143; (with_reducible refine (hasprop_any p 8 (by decide) 128 (by decide) _).mono ?_); rintro e wh ⟨rfl, rfl⟩)
                  go_cut [] from 163 to 176 (fun wx => ∃ hd, Hid (HdSt w wx b d rest (hfRow (ch : Int) (cl : Int) (sz : Int) (p.below 9) hd p.mode p.prio (.int .u64 0) (.int .i64 0) (.pointer none)) (p.tl 5) ∧ Blk wx fl #[.int .u16 ((p.flags 14 : Nat) : Int)] 84 ∧ HdP (fun b => w.heap.size + 2 ≤ b ∧ b ≠ fl) wx p hd))
                  case first =>
                    cases hh : p.has 8
                    · have HH := Lib.hid hh; clear hh
                      have hs := KP.out.1
                      rw [HP.tl_no (m := 5) HH.out] at hs
                      have HQ := Lib.hid hs; clear hs
                      go_wp2
                      go_meet
                      case rel => have hs := HQ.out; exact ⟨hd, Lib.hid ⟨by rw [show p.below 9 = p.below 8 from HP.below_no HH.out]; exact hs, KP.out.2.1, KP.out.2.2⟩⟩
                    · have HH := Lib.hid hh; clear hh
                      have hs := KP.out.1
                      rw [HP.tl_text (k := 8) (m := 5) rfl HH.out (by decide) (by decide) (by decide) (by decide)] at hs
                      have HX := Lib.hid (hs.short _ _ (HP.okText H.out.1 8 (by decide) (by decide) (by decide) (by decide) (by decide) (by decide)).2); clear hs
                      go_wp2_with (go_at_call 144; (with_reducible refine HX.out.mono ?_); rintro e wy ⟨rfl, h1, k1⟩; have hbf := KP.out.2.1.kept k1 (by have h2 := KP.out.1.bl; have h3 := HFL.out; simp; omega); have hz := KP.out.2.2.kept k1 (fun x hx => by have := KP.out.1.bl; simp; omega); have cX : wy.cell? ⟨w.heap.size, 12, none⟩ = some (.string (bstr (p.below 8 8))) := h1.blk.cell 12; have fX := h1.blk.free 12; have HY := Lib.hid (And.intro h1 (And.intro hbf hz)); clear h1 k1 hbf hz)
                      go_meet
                      case rel =>
                        have hks : Kept [w.heap.size] wy (wy.setCell ⟨w.heap.size, 12, none⟩ (.string (bstr (p.txt 8)))) := (Kept.refl _ wy).setCell (by simp) _
                        have hy := HY.out.1.store 12 (.string (bstr (p.txt 8)))
                        have hb := HY.out.2.1.kept hks (by have := HFL.out; simp; omega)
                        rw [show (hfRow (ch : Int) (cl : Int) (sz : Int) (p.below 8) hd p.mode p.prio (.int .u64 0) (.int .i64 0) (.pointer none)).setIfInBounds 12 (.string (bstr (p.txt 8))) = (hfRow (ch : Int) (cl : Int) (sz : Int) (p.below 9) hd p.mode p.prio (.int .u64 0) (.int .i64 0) (.pointer none)) by rw [← HP.held_has HH.out (by decide)]; rfl] at hy
                        exact ⟨hd, Lib.hid ⟨hy, hb, ((HY.out.2.2).kept hks (fun x hx => by simp; omega))⟩⟩
                  case rest =>
                    clear KP cfl
                    obtain ⟨hd, KP⟩ := hcut
                    rename World => wp8
                    have cfl : wp8.cell? ⟨fl, 0, none⟩ = some (.int .u16 ((p.flags 14 : Nat) : Int)) := KP.out.2.1.cell0
                    go_upto_if 178 with (go_at_call 143; (with_reducible refine (hasprop_any p 9 (by decide) 64 (by decide) _).mono ?_); rintro e wh ⟨rfl, rfl⟩)
                    go_cut [] from 177 to 190 (fun wx => ∃ hd, Hid (HdSt w wx b d rest (hfRow (ch : Int) (cl : Int) (sz : Int) (p.below 10) hd p.mode p.prio (.int .u64 0) (.int .i64 p.moment) (.pointer none)) (p.tl 4) ∧ Blk wx fl #[.int .u16 ((p.flags 14 : Nat) : Int)] 84 ∧ HdP (fun b => w.heap.size + 2 ≤ b ∧ b ≠ fl) wx p hd))
                    case first =>
                      cases hh : p.has 9
                      · have HH := Lib.hid hh; clear hh
                        have hs := KP.out.1
                        rw [HP.tl_no (m := 4) HH.out] at hs
                        have HQ := Lib.hid hs; clear hs
                        go_wp2
                        go_meet
                        case rel => have hs := HQ.out; exact ⟨hd, Lib.hid ⟨by rw [show p.moment = 0 by unfold HP.moment; rw [HH.out]; rfl]; exact hs, KP.out.2.1, KP.out.2.2⟩⟩
                      · have HH := Lib.hid hh; clear hh
                        have hs := KP.out.1
                        rw [HP.tl_9 HH.out ti HN.out.2.2] at hs
                        have HX := Lib.hid (hs.time ti _ (by have h1 := HN.out.2.2; have h2 := H.out.2.2.2.1; omega)); clear hs
                        go_wp2_with (first
                          | (go_at_call 146; (with_reducible refine HX.out.mono ?_); rintro e wy ⟨rfl, h1, k1⟩; have hbf := KP.out.2.1.kept k1 (by have h2 := KP.out.1.bl; have h3 := HFL.out; simp; omega); have hz := KP.out.2.2.kept k1 (fun x hx => by have := KP.out.1.bl; simp; omega); have HY := Lib.hid (And.intro h1 (And.intro hbf hz)); clear h1 k1 hbf hz)
                          | (refine wpList_store_3 (P := Tryz.prog) rfl rfl 99 (.tmp 188) (.tmp 184) rfl w.heap.size 13 rfl TH (hfRow (ch : Int) (cl : Int) (sz : Int) (p.below 9) hd p.mode p.prio (.int .u64 0) (.int .i64 0) (.pointer none)).toList HY.out.1.blk (by show 16 ≤ 20; decide) (.int .u64 0) (.int .i64 ((ti : Int) + 62135596800)) (.pointer none) rfl rfl rfl rfl size_time ?_; intro wz hb9 hk9; have HZ := Lib.hid (And.intro hb9 hk9); clear hb9 hk9))
                        go_meet
                        case rel =>
                          have hmo : p.moment = (ti : Int) + 62135596800 := by unfold HP.moment; rw [HH.out, HN.out.2.2]; rfl
                          have hb := HY.out.2.1.kept HZ.out.2 (by have := HFL.out; simp; omega)
                          have hy := HY.out.1
                          have hbl := hy.bl; have hdl := hy.dl
                          refine ⟨hd, Lib.hid ⟨⟨hy.rd.kept HZ.out.2 (by simp; omega) (by simp; omega), by rw [hmo]; exact HZ.out.1, hy.kept.trans HZ.out.2 (fun x hx => .inr (by simp at hx; omega)), hbl, hdl, hy.sz⟩, hb, HY.out.2.2.kept HZ.out.2 (fun x hx => by simp; omega)⟩⟩
                    case rest =>
                      clear KP cfl
                      obtain ⟨hd, KP⟩ := hcut
                      rename World => wp9
                      have cfl : wp9.cell? ⟨fl, 0, none⟩ = some (.int .u16 ((p.flags 14 : Nat) : Int)) := KP.out.2.1.cell0
                      go_upto_if 192 with (go_at_call 143; (with_reducible refine (hasprop_any p 10 (by decide) 32 (by decide) _).mono ?_); rintro e wh ⟨rfl, rfl⟩)
                      go_cut [] from 191 to 204 (fun wx => ∃ hd, Hid (HdSt w wx b d rest (hfRow (ch : Int) (cl : Int) (sz : Int) (p.below 11) hd p.mode p.prio (.int .u64 0) (.int .i64 p.moment) (.pointer none)) (p.tl 3) ∧ Blk wx fl #[.int .u16 ((p.flags 14 : Nat) : Int)] 84 ∧ HdP (fun b => w.heap.size + 2 ≤ b ∧ b ≠ fl) wx p hd))
                      case first =>
                        cases hh : p.has 10
                        · have HH := Lib.hid hh; clear hh
                          have hs := KP.out.1
                          rw [HP.tl_no (m := 3) HH.out] at hs
                          have HQ := Lib.hid hs; clear hs
                          go_wp2
                          go_meet
                          case rel => have hs := HQ.out; exact ⟨hd, Lib.hid ⟨by rw [show p.below 11 = p.below 10 from HP.below_no HH.out]; exact hs, KP.out.2.1, KP.out.2.2⟩⟩
                        · have HH := Lib.hid hh; clear hh
                          have hs := KP.out.1
                          rw [HP.tl_text (k := 10) (m := 3) rfl HH.out (by decide) (by decide) (by decide) (by decide)] at hs
                          have HX := Lib.hid (hs.short _ _ (HP.okText H.out.1 10 (by decide) (by decide) (by decide) (by decide) (by decide) (by decide)).2); clear hs
                          go_wp2_with (go_at_call 144; (with_reducible refine HX.out.mono ?_); rintro e wy ⟨rfl, h1, k1⟩; have hbf := KP.out.2.1.kept k1 (by have h2 := KP.out.1.bl; have h3 := HFL.out; simp; omega); have hz := KP.out.2.2.kept k1 (fun x hx => by have := KP.out.1.bl; simp; omega); have cX : wy.cell? ⟨w.heap.size, 16, none⟩ = some (.string (bstr (p.below 10 10))) := h1.blk.cell 16; have fX := h1.blk.free 16; have HY := Lib.hid (And.intro h1 (And.intro hbf hz)); clear h1 k1 hbf hz)
                          go_meet
                          case rel =>
                            have hks : Kept [w.heap.size] wy (wy.setCell ⟨w.heap.size, 16, none⟩ (.string (bstr (p.txt 10)))) := (Kept.refl _ wy).setCell (by simp) _
                            have hy := HY.out.1.store 16 (.string (bstr (p.txt 10)))
                            have hb := HY.out.2.1.kept hks (by have := HFL.out; simp; omega)
                            rw [show (hfRow (ch : Int) (cl : Int) (sz : Int) (p.below 10) hd p.mode p.prio (.int .u64 0) (.int .i64 p.moment) (.pointer none)).setIfInBounds 16 (.string (bstr (p.txt 10))) = (hfRow (ch : Int) (cl : Int) (sz : Int) (p.below 11) hd p.mode p.prio (.int .u64 0) (.int .i64 p.moment) (.pointer none)) by rw [← HP.held_has HH.out (by decide)]; rfl] at hy
                            exact ⟨hd, Lib.hid ⟨hy, hb, ((HY.out.2.2).kept hks (fun x hx => by simp; omega))⟩⟩
                      case rest =>
                        clear KP cfl
                        obtain ⟨hd, KP⟩ := hcut
                        rename World => wp10
                        have cfl : wp10.cell? ⟨fl, 0, none⟩ = some (.int .u16 ((p.flags 14 : Nat) : Int)) := KP.out.2.1.cell0
                        go_upto_if 206 with (go_at_call 143; (with_reducible refine (hasprop_any p 11 (by decide) 16 (by decide) _).mono ?_); rintro e wh ⟨rfl, rfl⟩)
                        go_cut [] from 205 to 218 (fun wx => ∃ hd, Hid (HdSt w wx b d rest (hfRow (ch : Int) (cl : Int) (sz : Int) (p.below 12) hd p.mode p.prio (.int .u64 0) (.int .i64 p.moment) (.pointer none)) (p.tl 2) ∧ Blk wx fl #[.int .u16 ((p.flags 14 : Nat) : Int)] 84 ∧ HdP (fun b => w.heap.size + 2 ≤ b ∧ b ≠ fl) wx p hd))
                        case first =>
                          cases hh : p.has 11
                          · have HH := Lib.hid hh; clear hh
                            have hs := KP.out.1
                            rw [HP.tl_no (m := 2) HH.out] at hs
                            have HQ := Lib.hid hs; clear hs
                            go_wp2
                            go_meet
                            case rel => have hs := HQ.out; exact ⟨hd, Lib.hid ⟨by rw [show p.below 12 = p.below 11 from HP.below_no HH.out]; exact hs, KP.out.2.1, KP.out.2.2⟩⟩
                          · have HH := Lib.hid hh; clear hh
                            have hs := KP.out.1
                            rw [HP.tl_text (k := 11) (m := 2) rfl HH.out (by decide) (by decide) (by decide) (by decide)] at hs
                            have HX := Lib.hid (hs.short _ _ (HP.okText H.out.1 11 (by decide) (by decide) (by decide) (by decide) (by decide) (by decide)).2); clear hs
                            go_wp2_with (go_at_call 144; (with_reducible refine HX.out.mono ?_); rintro e wy ⟨rfl, h1, k1⟩; have hbf := KP.out.2.1.kept k1 (by have h2 := KP.out.1.bl; have h3 := HFL.out; simp; omega); have hz := KP.out.2.2.kept k1 (fun x hx => by have := KP.out.1.bl; simp; omega); have cX : wy.cell? ⟨w.heap.size, 17, none⟩ = some (.string (bstr (p.below 11 11))) := h1.blk.cell 17; have fX := h1.blk.free 17; have HY := Lib.hid (And.intro h1 (And.intro hbf hz)); clear h1 k1 hbf hz)
                            go_meet
                            case rel =>
                              have hks : Kept [w.heap.size] wy (wy.setCell ⟨w.heap.size, 17, none⟩ (.string (bstr (p.txt 11)))) := (Kept.refl _ wy).setCell (by simp) _
                              have hy := HY.out.1.store 17 (.string (bstr (p.txt 11)))
                              have hb := HY.out.2.1.kept hks (by have := HFL.out; simp; omega)
                              rw [show (hfRow (ch : Int) (cl : Int) (sz : Int) (p.below 11) hd p.mode p.prio (.int .u64 0) (.int .i64 p.moment) (.pointer none)).setIfInBounds 17 (.string (bstr (p.txt 11))) = (hfRow (ch : Int) (cl : Int) (sz : Int) (p.below 12) hd p.mode p.prio (.int .u64 0) (.int .i64 p.moment) (.pointer none)) by rw [← HP.held_has HH.out (by decide)]; rfl] at hy
                              exact ⟨hd, Lib.hid ⟨hy, hb, ((HY.out.2.2).kept hks (fun x hx => by simp; omega))⟩⟩
                        case rest =>
                          clear KP cfl
                          obtain ⟨hd, KP⟩ := hcut
                          rename World => wp11
                          have cfl : wp11.cell? ⟨fl, 0, none⟩ = some (.int .u16 ((p.flags 14 : Nat) : Int)) := KP.out.2.1.cell0
                          go_upto_if 220 with (go_at_call 143; (with_reducible refine (hasprop_any p 12 (by decide) 8 (by decide) _).mono ?_); rintro e wh ⟨rfl, rfl⟩)
                          go_cut [] from 219 to 232 (fun wx => ∃ hd, Hid (HdSt w wx b d rest (hfRow (ch : Int) (cl : Int) (sz : Int) (p.below 13) hd p.mode p.prio (.int .u64 0) (.int .i64 p.moment) (.pointer none)) (p.tl 1) ∧ Blk wx fl #[.int .u16 ((p.flags 14 : Nat) : Int)] 84 ∧ HdP (fun b => w.heap.size + 2 ≤ b ∧ b ≠ fl) wx p hd))
                          case first =>
                            cases hh : p.has 12
                            · have HH := Lib.hid hh; clear hh
                              have hs := KP.out.1
                              rw [HP.tl_no (m := 1) HH.out] at hs
                              have HQ := Lib.hid hs; clear hs
                              go_wp2
                              go_meet
                              case rel => have hs := HQ.out; exact ⟨hd, Lib.hid ⟨by rw [show p.below 13 = p.below 12 from HP.below_no HH.out]; exact hs, KP.out.2.1, KP.out.2.2⟩⟩
                            · have HH := Lib.hid hh; clear hh
                              have hs := KP.out.1
                              rw [HP.tl_text (k := 12) (m := 1) rfl HH.out (by decide) (by decide) (by decide) (by decide)] at hs
                              have HX := Lib.hid (hs.short _ _ (HP.okText H.out.1 12 (by decide) (by decide) (by decide) (by decide) (by decide) (by decide)).2); clear hs
                              go_wp2_with (go_at_call 144; (with_reducible refine HX.out.mono ?_); rintro e wy ⟨rfl, h1, k1⟩; have hbf := KP.out.2.1.kept k1 (by have h2 := KP.out.1.bl; have h3 := HFL.out; simp; omega); have hz := KP.out.2.2.kept k1 (fun x hx => by have := KP.out.1.bl; simp; omega); have cX : wy.cell? ⟨w.heap.size, 18, none⟩ = some (.string (bstr (p.below 12 12))) := h1.blk.cell 18; have fX := h1.blk.free 18; have HY := Lib.hid (And.intro h1 (And.intro hbf hz)); clear h1 k1 hbf hz)
                              go_meet
                              case rel =>
                                have hks : Kept [w.heap.size] wy (wy.setCell ⟨w.heap.size, 18, none⟩ (.string (bstr (p.txt 12)))) := (Kept.refl _ wy).setCell (by simp) _
                                have hy := HY.out.1.store 18 (.string (bstr (p.txt 12)))
                                have hb := HY.out.2.1.kept hks (by have := HFL.out; simp; omega)
                                rw [show (hfRow (ch : Int) (cl : Int) (sz : Int) (p.below 12) hd p.mode p.prio (.int .u64 0) (.int .i64 p.moment) (.pointer none)).setIfInBounds 18 (.string (bstr (p.txt 12))) = (hfRow (ch : Int) (cl : Int) (sz : Int) (p.below 13) hd p.mode p.prio (.int .u64 0) (.int .i64 p.moment) (.pointer none)) by rw [← HP.held_has HH.out (by decide)]; rfl] at hy
                                exact ⟨hd, Lib.hid ⟨hy, hb, ((HY.out.2.2).kept hks (fun x hx => by simp; omega))⟩⟩
                          case rest =>
                            clear KP cfl
                            obtain ⟨hd, KP⟩ := hcut
                            rename World => wp12
                            have cfl : wp12.cell? ⟨fl, 0, none⟩ = some (.int .u16 ((p.flags 14 : Nat) : Int)) := KP.out.2.1.cell0
                            have h13 := HP.ok13 H.out.1
                            have hs := KP.out.1
                            rw [HP.tl_no (m := 0) h13] at hs
                            have cl13 : wp12.cell? ⟨w.heap.size + 1, 1, none⟩ = some (.int .i64 0) := hs.lim
                            have hq13 : Calls Tryz.prog 143 #[.int .u16 ((p.flags 14 : Nat) : Int), .int .i64 4] wp12 fun e w' => e = .returned (.bool false) ∧ wp12 = w' := by rw [← h13]; exact hasprop_any p 13 (by decide) 4 (by decide) wp12
                            have HQ := Lib.hid hq13; have HS := Lib.hid hs
                            clear h13 hs hq13
                            go_wp2_with (go_at_call 143; (with_reducible refine HQ.out.mono ?_); rintro e wh ⟨rfl, rfl⟩)
                            go_ret2
                            have hy := HS.out
                            have hbl := hy.bl; have hrr := H.out.2.2.1.blk.lt; have hmm := H.out.2.2.1.max.lt
                            have hbuf := hy.buf
                            rw [show p.tl 0 = [] from rfl, List.nil_append] at hbuf
                            refine ⟨_, rfl, ⟨RS.step H.out.2.2.1 hy.kept (by have := H.out.2.2.1.rb; simpa using this) (by have := H.out.2.2.1.mb'; simpa using this) hbuf, hy.kept, hd, rfl, ?_, KP.out.2.2.mono (fun x hx _ => by omega)⟩⟩
                            have hb := hy.blk
                            rw [show hfOf (ch : Int) (cl : Int) (sz : Int) p hd = (hfRow (ch : Int) (cl : Int) (sz : Int) (p.below 13) hd p.mode p.prio (.int .u64 0) (.int .i64 p.moment) (.pointer none)) from ?_]
                            · exact hb
                            · unfold hfOf
                              refine hfRow_congr _ _ _ _ _ _ _ _ _ _ _ (fun j hj => ?_) ?_
                              · have h9 : j = 0 ∨ j = 1 ∨ j = 2 ∨ j = 3 ∨ j = 4 ∨ j = 5 ∨ j = 6 ∨ j = 7 ∨ j = 8 := by omega
                                rcases h9 with rfl | rfl | rfl | rfl | rfl | rfl | rfl | rfl | rfl <;> rfl
                              · unfold HP.heldT; simp [HP.below]
end Go.Proofs.YtkcdakohmfodjaaGreat
