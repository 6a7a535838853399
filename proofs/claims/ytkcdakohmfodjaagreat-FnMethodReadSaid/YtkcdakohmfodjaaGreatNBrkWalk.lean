/-
  Lemmas on the way to the statement of YtkcdakohmfodjaaGreatMethodRead, joined out of these texts: BrkWalk, Open, Tree, Rarr, OpenM, Rtbl. No condition.
-/
import Derived.ChangeArms
import Derived.Deep.Cut
import Derived.SizedLaws
import Derived.Test.YtkcdakohmfodjaaGreatMAE
import Derived.Test.YtkcdakohmfodjaaGreatMAL
import Derived.Test.YtkcdakohmfodjaaGreatNFmt
import Derived.Test.YtkcdakohmfodjaaGreatNIter
namespace Go.Proofs.YtkcdakohmfodjaaGreat
open Go.RowKit
set_option linter.unusedVariables false
set_option linter.unusedSimpArgs false
theorem Row.bytes {w : World} {s : Value} {g : Nat} {l : List UInt8} (h : Row w s g l) (n : Nat) (hn : n ≤ l.length) (c : Nat) (hc : n ≤ c) (hcm : c ≤ 9223372036854775807) : BytesAt w (.slice (some ⟨g, 0, none⟩) n c) g (l.take n) := by
  obtain ⟨c0, rfl, h1, h2⟩ := h
  rcases h2 with ⟨h, _⟩ | ⟨g', cap, cur, h, _, hg, _, _, hs, ht⟩
  · cases h
  · cases h
    refine ⟨0, c, by rw [List.length_take, Nat.min_eq_left hn], by rw [List.length_take]; omega, hcm, fun j v hj => ?_⟩
    have hb : Blk w g cur 5 := hg
    rw [Nat.zero_add, hb.cell j]
    have hj2 : (u8s l)[j]? = some v := by
      rw [u8s_get] at hj ⊢
      rw [List.getElem?_take] at hj
      split at hj
      · exact hj
      · simp at hj
    rw [← ht, Nat.mul_one, List.getElem?_take] at hj2
    split at hj2
    · simpa using hj2
    · simp at hj2
theorem Row.cap {w : World} {g n c : Nat} {l : List UInt8} (h : Row w (.slice (some ⟨g, 0, none⟩) n c) g l) (hn : l.length = n) : n ≤ c ∧ c ≤ 9223372036854775807 := by
  obtain ⟨c0, h0, h1, h2⟩ := h
  rcases h2 with ⟨h, _⟩ | ⟨g', cap, cur, h, _, hg, hc, hm, _⟩
  · cases h
  · cases h; unfold maxLen at hm; exact ⟨by omega, by omega⟩
theorem Kept.stored {a w2 w3 : World} {o : Obj} (h : Kept [] a w2) (g2 : Kept [w2.heap.size] (w2.alloc o) w3) : Kept [] a w3 :=
  Kept.trans (S := []) (S' := [w2.heap.size]) (h.alloc o) g2 (fun x hx => .inr (by have := h.size; simp at hx; omega))
theorem Row.cells {w : World} {s : Value} {g : Nat} {l : List UInt8} (h : Row w s g l) (j : Nat) (v : Value) (hj : (u8s l)[j]? = some v) : w.cell? ⟨g, j, none⟩ = some v := by
  obtain ⟨c0, rfl, h1, h2⟩ := h
  rcases h2 with ⟨h, _⟩ | ⟨g', cap, cur, h, _, hg, _, _, hs, ht⟩
  · cases h
  · cases h
    have hb : Blk w g cur 5 := hg
    rw [hb.cell j]
    rw [← ht, Nat.mul_one, List.getElem?_take] at hj
    split at hj
    · simpa using hj
    · simp at hj
theorem Row.src {w : World} {s : Value} {g : Nat} {l : List UInt8} (h : Row w s g l) (n : Nat) (hn : n ≤ l.length) (c : Nat) : Src w (.slice (some ⟨g, 0, none⟩) n c) g (l.take n) := by
  refine .inr ⟨⟨g, 0, none⟩, c, rfl, by rw [List.length_take, Nat.min_eq_left hn], fun j v hj => ?_⟩
  rw [addr_add, Nat.zero_add]
  refine h.cells j v ?_
  rw [u8s_get] at hj ⊢
  rw [List.getElem?_take] at hj
  split at hj
  · exact hj
  · simp at hj
theorem Row.all {w : World} {s : Value} {g : Nat} {l : List UInt8} (h : Row w s g l) : BytesAt w s g l := by
  obtain ⟨c, rfl, h1⟩ := id h
  have hc := h.cap rfl
  exact ⟨0, c, rfl, hc.1, hc.2, fun j v hj => by rw [Nat.zero_add]; exact h.cells j v hj⟩
theorem Row.own {w : World} {g n c : Nat} {l : List UInt8} (h : Row w (.slice (some ⟨g, 0, none⟩) n c) g l) (hn : l.length = n) : w.ownsRow 0 5 1 (.slice (some ⟨g, 0, none⟩) n c) n (u8s l) := by
  subst hn; obtain ⟨c0, h0, h1⟩ := h; exact h1
theorem Row.blk {w : World} {s : Value} {g : Nat} {l : List UInt8} (h : Row w s g l) : ∃ cur, Blk w g cur 5 := by
  obtain ⟨c0, rfl, h1, h2⟩ := h
  rcases h2 with ⟨h, _⟩ | ⟨g', cap, cur, h, _, hg, _⟩
  · cases h
  · cases h; exact ⟨cur, hg⟩
theorem Row.free {w : World} {s : Value} {g : Nat} {l : List UInt8} (h : Row w s g l) : w.frozen? ⟨g, 0, none⟩ = false := by
  obtain ⟨cur, h⟩ := h.blk; exact h.free 0
theorem u8_of (n : Int) (h : (Lit.int .u8 n).wf = true) : ∃ b : UInt8, n = (b.toNat : Int) := by
  have hx : 0 ≤ n ∧ n ≤ 255 := by simpa [Lit.wf, IntKind.min, IntKind.max, IntKind.signed, IntKind.bits] using h
  refine ⟨UInt8.ofNat n.toNat, ?_⟩
  rw [UInt8.toNat_ofNat', Nat.mod_eq_of_lt (by omega)]
  omega
theorem i64_of (n : Int) (h : (Lit.int .i64 n).wf = true) : -9223372036854775808 ≤ n ∧ n ≤ 9223372036854775807 := by
  simpa [Lit.wf, IntKind.min, IntKind.max, IntKind.signed, IntKind.bits] using h
theorem src_of {w : World} {a : Option Addr} {len cap : Nat} {zs : List Int}
    (h : (a = none ∧ len = 0 ∧ cap = 0 ∧ zs = []) ∨
      ∃ x, a = some x ∧ len ≤ cap ∧ cap ≤ maxLen ∧ zs.length = cap ∧ (∀ i, i < zs.length → w.cell? (x.add i) = some (.int .u8 (zs.getD i 0))) ∧ ∀ n ∈ zs, (Lit.int .u8 n).wf = true) :
    ∃ (l : List UInt8) (d : Nat), l.length = len ∧ Src w (.slice a len cap) d l ∧ (len ≠ 0 → d < w.heap.size) := by
  rcases h with ⟨rfl, rfl, rfl, rfl⟩ | ⟨x, rfl, hl, hm, hz, hcell, hwf⟩
  · exact ⟨[], 0, rfl, .inl ⟨rfl, none, 0, rfl⟩, fun h => absurd rfl h⟩
  · refine ⟨(zs.take len).map fun n => UInt8.ofNat n.toNat, x.block, by simp; omega, .inr ⟨x, cap, rfl, by simp; omega, fun j v hj => ?_⟩, fun h => ?_⟩
    · rw [u8s_get, List.getElem?_map, List.getElem?_take] at hj
      split at hj
      · rename_i hjl
        have hjz : j < zs.length := by omega
        rw [List.getElem?_eq_getElem hjz] at hj
        obtain ⟨b, hb⟩ := u8_of zs[j] (hwf _ (List.getElem_mem hjz))
        rw [hcell j hjz, List.getD_eq_getElem?_getD, List.getElem?_eq_getElem hjz, Option.getD_some]
        rw [hb] at hj ⊢
        simpa using hj
      · simp at hj
    · have := World.block_lt_of_cell? w _ (hcell 0 (by omega))
      rwa [addr_block] at this
theorem exists_list {α : Type} (P : Nat → α → Prop) : ∀ n, (∀ i, i < n → ∃ a, P i a) → ∃ l : List α, l.length = n ∧ ∀ i a, l[i]? = some a → P i a
  | 0, _ => ⟨[], rfl, fun i a h => by simp at h⟩
  | n + 1, h => by
    obtain ⟨l, h1, h2⟩ := exists_list P n fun i hi => h i (by omega)
    obtain ⟨a, ha⟩ := h n (by omega)
    refine ⟨l ++ [a], by simp [h1], fun i b hb => ?_⟩
    by_cases hi : i < l.length
    · rw [List.getElem?_append_left hi] at hb; exact h2 i b hb
    · rw [List.getElem?_append_right (by omega)] at hb
      have : i - l.length = 0 := by
        rcases Nat.eq_zero_or_pos (i - l.length) with h | h
        · exact h
        · rw [List.getElem?_eq_none (by simp; omega)] at hb; cases hb
      rw [this] at hb
      simp at hb
      subst hb
      have : i = n := by omega
      subst this; exact ha
theorem cells?_get {w : World} {a : Addr} {n : Nat} {cs : List Value} (h : w.cells? 0 a n = some cs) : cs.length = n ∧ ∀ j u, cs[j]? = some u → w.cell? (a.add j) = some u := by
  unfold World.cells? at h
  rw [if_pos (Nat.zero_le _)] at h
  have hl : cs.length = n := by simpa using mapM_some_length h
  refine ⟨hl, fun j u hj => ?_⟩
  have hj' : j < n := by rw [← hl]; exact (List.getElem?_eq_some_iff.1 hj).1
  have := mapM_some_get h j j (by simp [hj'])
  rw [this]; exact hj
theorem add_spot {a : Addr} (h : a.spot = none) (i : Nat) : (a.add i).spot = none := by unfold Addr.add; split <;> simp_all
/-- Blocks that are there. -/
abbrev There (w : World) : Nat → Prop := fun b => b < w.heap.size
theorem kat_build {w : World} : ∀ (l : List Val) (ad : Addr), ad.spot = none → (∀ (i : Nat) (v : Val), l[i]? = some v → ∃ cs, CellsAt (There w) w (ad.add (i * 7)) cs ∧ VHeld (There w) w cs v) → KAt (There w) w ad l
  | [], _, _, _ => by unfold KAt; trivial
  | v :: l, ad, hs, h => by
    unfold KAt
    obtain ⟨cs, h1, h2⟩ := h 0 v rfl
    rw [Nat.zero_mul] at h1
    refine ⟨cs, by simpa [Addr.add] using h1, h2, kat_build l _ (add_spot hs 7) fun i u hi => ?_⟩
    obtain ⟨cs', h3, h4⟩ := h (i + 1) u (by simpa using hi)
    refine ⟨cs', ?_, h4⟩
    rw [addr_add_add _ _ _ hs, show 7 + i * 7 = (i + 1) * 7 by omega]
    exact h3
theorem fat_build {w : World} : ∀ (l : List Fld) (ad : Addr), ad.spot = none → (∀ (i : Nat) (f : Fld), l[i]? = some f → ∃ cs, CellsAt (There w) w (ad.add (i * 8)) (.string (bstr f.name) :: cs) ∧ VHeld (There w) w cs f.val) → FAt (There w) w ad l
  | [], _, _, _ => by unfold FAt; trivial
  | .mk name v :: l, ad, hs, h => by
    unfold FAt
    obtain ⟨cs, h1, h2⟩ := h 0 _ rfl
    rw [Nat.zero_mul] at h1
    refine ⟨cs, by simpa [Addr.add, Fld.name] using h1, h2, fat_build l _ (add_spot hs 8) fun i u hi => ?_⟩
    obtain ⟨cs', h3, h4⟩ := h (i + 1) u (by simpa using hi)
    refine ⟨cs', ?_, h4⟩
    rw [addr_add_add _ _ _ hs, show 8 + i * 8 = (i + 1) * 8 by omega]
    exact h3
theorem wfL_of : ∀ (l : List Val), (∀ (i : Nat) (v : Val), l[i]? = some v → WfV v) → WfL l
  | [], _ => by unfold WfL; trivial
  | v :: l, h => by unfold WfL; exact ⟨h 0 v rfl, wfL_of l fun i u hi => h (i + 1) u (by simpa using hi)⟩
theorem wfFs_of : ∀ (l : List Fld), (∀ (i : Nat) (f : Fld), l[i]? = some f → f.name.length ≤ 140737488355328 ∧ WfV f.val) → WfFs l
  | [], _ => by unfold WfFs; trivial
  | .mk name v :: l, h => by unfold WfFs; exact ⟨(h 0 _ rfl).1, (h 0 _ rfl).2, wfFs_of l fun i u hi => h (i + 1) u (by simpa using hi)⟩
theorem mem_weightsAll {H : Type} {P : Program} {e : TypeId} {k : Nat} : ∀ (l : List (DataW H)) (d : DataW H), d ∈ l → k ∈ d.weights P e → k ∈ DataW.weightsAll P e l
  | [], d, hd, _ => by cases hd
  | x :: l, d, hd, hk => by
    unfold DataW.weightsAll
    rcases List.mem_cons.1 hd with rfl | hd
    · exact List.mem_append_left _ hk
    · exact List.mem_append_right _ (mem_weightsAll l d hd hk)
section
variable {H : Type} {enc : TypeId × Value → H} {w : World}
theorem trod_float {P : Program} {base : Nat} {spare : Nat → Bool} {held : Bool} {fuel : Nat} {t : TypeId} {cs : List Value} {x : DataW H × List MemPlace} {k : FloatKind} (ht : P.underlying t = some (.float k)) (h : DataW.trod enc P w base spare held fuel t cs = some x) :
    ∃ n, cs = [.float k n] ∧ x = (.lit (.float k n), []) ∧ (Lit.float k n).wf = true := by
  cases fuel with
  | zero => simp [DataW.trod] at h
  | succ n =>
    unfold DataW.trod at h
    rw [ht] at h
    split at h <;> simp_all
/-- A slice that came in: its elements, one by one. -/
theorem open_elems {t e : TypeId} {fuel : Nat} {cs : List Value} {x : DataW H × List MemPlace} {c b : Nat} (ht : Tryz.prog.underlying t = some (.slice e)) (hc : Tryz.prog.cellsOf e = c) (hb : Tryz.prog.bytesOf e = b) (hc0 : 0 < c)
    (h : DataW.trod enc Tryz.prog w 0 (fun _ => true) true fuel t cs = some x) (hw : ∀ k ∈ x.1.weights Tryz.prog t, k ≤ reachBytes) :
    ∃ (ao : Option Addr) (len cap : Nat), cs = [.slice ao len cap] ∧ len ≤ cap ∧ len * b ≤ reachBytes ∧ (len ≠ 0 → ∃ a, ao = some a ∧ a.spot = none ∧ a.block < w.heap.size) ∧ (len = 0 ∨ fuel ≠ 0) ∧
      ∀ i, i < len → ∃ a es n y, ao = some a ∧ n < fuel ∧ CellsAt (There w) w (a.add (i * c)) es ∧ es.length = c ∧ DataW.trod enc Tryz.prog w 0 (fun _ => true) true n e es = some y ∧ ∀ k ∈ y.1.weights Tryz.prog e, k ≤ reachBytes := by
  rcases DataW.trod_slice ht h with ⟨rfl, _⟩ | ⟨a, len, cap, elems, rest, n, rfl, rfl, rfl, _, hl, hm, hlen, hel, _, _⟩
  · exact ⟨none, 0, 0, rfl, Nat.le_refl _, by simp, fun h => absurd rfl h, .inl rfl, fun i hi => absurd hi (by omega)⟩
  · have hwt : ∀ k ∈ ((elems.length + rest.length) * b :: (DataW.weightsAll Tryz.prog e (elems.map (·.1)) ++ DataW.weightsAll Tryz.prog e (rest.map (·.1)))), k ≤ reachBytes := by
      intro k hk
      refine hw k ?_
      unfold DataW.weights
      rw [ht]
      simpa [hb] using hk
    have hex : ∀ i, i < len → ∃ es y, CellsAt (There w) w (a.add (i * c)) es ∧ es.length = c ∧ DataW.trod enc Tryz.prog w 0 (fun _ => true) true n e es = some y ∧ ∀ k ∈ y.1.weights Tryz.prog e, k ≤ reachBytes := by
      intro i hi
      have he := hel i hi
      obtain ⟨y, hy⟩ : ∃ y, elems[i]? = some y := ⟨_, List.getElem?_eq_getElem (by omega)⟩
      rw [hy, hc] at he
      simp only [Option.bind_eq_some_iff] at he
      obtain ⟨es, h1, h2⟩ := he
      obtain ⟨h3, h4⟩ := cells?_get h1
      refine ⟨es, y, ⟨?_, h4⟩, h3, h2, fun k hk => hwt k ?_⟩
      · have h5 : es[0]? = some es[0] := List.getElem?_eq_getElem (by omega)
        have := World.block_lt_of_cell? w _ (h4 0 _ h5)
        simpa [Addr.add] using this
      · refine List.mem_cons_of_mem _ (List.mem_append_left _ (mem_weightsAll _ y.1 ?_ hk))
        exact List.mem_map.2 ⟨y, List.mem_of_getElem? hy, rfl⟩
    refine ⟨some a, len, cap, rfl, hl, ?_, fun hne => ?_, .inr (by omega), fun i hi => ?_⟩
    · have := hwt _ (List.mem_cons_self ..)
      have h2 : len * b ≤ (elems.length + rest.length) * b := Nat.mul_le_mul_right _ (by omega)
      omega
    · obtain ⟨es, y, h1, h2, _⟩ := hex 0 (by omega)
      rw [Nat.zero_mul] at h1
      have h3 : a.add 0 = a := by simp [Addr.add]
      rw [h3] at h1
      exact ⟨a, rfl, h1.spot (by intro e; subst e; simp at h2; omega), h1.1⟩
    · obtain ⟨es, y, h1, h2, h3, h4⟩ := hex i hi
      exact ⟨a, es, n, y, rfl, by omega, h1, h2, h3, h4⟩
/-- A value that came in. -/
def OpenV (enc : TypeId × Value → H) (w : World) (n : Nat) : Prop := ∀ (cs : List Value) (x : DataW H × List MemPlace), DataW.trod enc Tryz.prog w 0 (fun _ => true) true n 151 cs = some x → (∀ k ∈ x.1.weights Tryz.prog 151, k ≤ reachBytes) →
  ∃ v, VHeld (There w) w cs v ∧ WfV v
theorem cells_iV : Tryz.prog.cellsOf 151 = 7 := by kernel_rfl
theorem cells_iF : Tryz.prog.cellsOf 153 = 8 := by kernel_rfl
theorem bytes_iV : Tryz.prog.bytesOf 151 = 96 := by kernel_rfl
theorem bytes_iF : Tryz.prog.bytesOf 153 = 112 := by kernel_rfl
theorem cells_u8 : Tryz.prog.cellsOf 5 = 1 := by kernel_rfl
theorem cells_i64 : Tryz.prog.cellsOf 2 = 1 := by kernel_rfl
theorem cells_int : Tryz.prog.cellsOf 3 = 1 := by kernel_rfl
theorem cells_f64 : Tryz.prog.cellsOf 138 = 1 := by kernel_rfl
theorem cells_str : Tryz.prog.cellsOf 9 = 1 := by kernel_rfl
theorem cells_sV : Tryz.prog.cellsOf 149 = 1 := by kernel_rfl
theorem cells_sF : Tryz.prog.cellsOf 31 = 1 := by kernel_rfl
theorem bstr_self (s : ByteArray) : s = bstr s.data.toList := by cases s; simp [bstr]
theorem reach_le {k : Nat} (h : k ≤ reachBytes) : k ≤ 140737488355328 := by unfold reachBytes at h; omega
set_option maxRecDepth 100000 in
/-- A field that came in. -/
theorem open_field (n : Nat) (hv : ∀ m, m < n → OpenV enc w m) (cs : List Value) (x : DataW H × List MemPlace) (h : DataW.trod enc Tryz.prog w 0 (fun _ => true) true n 153 cs = some x) (hw : ∀ k ∈ x.1.weights Tryz.prog 153, k ≤ reachBytes) :
    ∃ (f : Fld) (cs' : List Value), cs = .string (bstr f.name) :: cs' ∧ VHeld (There w) w cs' f.val ∧ f.name.length ≤ 140737488355328 ∧ WfV f.val := by
  obtain ⟨xs, m, rfl, rfl, hl, hlen, hf⟩ := DataW.trod_struct Tryz.underlying153 h
  match xs, hlen with
  | [x0, x1], _ =>
    have h0 : DataW.trod enc Tryz.prog w 0 (fun _ => true) true m 9 (List.take (Tryz.prog.cellsOf 9) (List.drop 0 cs)) = some x0 := hf 0 _ rfl
    have h1 : DataW.trod enc Tryz.prog w 0 (fun _ => true) true m 151 (List.take (Tryz.prog.cellsOf 151) (List.drop 1 cs)) = some x1 := hf 1 _ rfl
    rw [cells_iF] at hl
    match cs, hl with
    | c0 :: cs', hl =>
      have hl' : cs'.length = 7 := by simpa using hl
      rw [cells_str] at h0
      rw [cells_iV] at h1
      simp only [List.drop_zero, List.take_succ_cons, List.take_zero, List.drop_succ_cons] at h0 h1
      rw [List.take_of_length_le (by omega)] at h1
      obtain ⟨s, e0, e1, _⟩ := DataW.trod_string Tryz.underlying9 h0
      have hwt : ∀ k ∈ x0.1.weights Tryz.prog 9 ++ (x1.1.weights Tryz.prog 151 ++ []), k ≤ reachBytes := by
        intro k hk
        refine hw k ?_
        unfold DataW.weights
        simp only [List.map_cons, List.map_nil]
        rw [Tryz.underlying153]
        simpa [DataW.weightsEach] using hk
      obtain ⟨v, v1, v2⟩ := hv m (by omega) cs' x1 h1 (fun k hk => hwt k (by simp [hk]))
      simp only [List.cons.injEq, and_true] at e0
      refine ⟨.mk s.data.toList v, cs', ?_, v1, ?_, v2⟩
      · rw [e0]; congr 2
      · refine reach_le (hwt _ ?_)
        rw [e1]
        simp [DataW.weights, Fld.name]
set_option maxRecDepth 100000 in
/-- A slice of fields that came in. -/
theorem open_fslice (n : Nat) (hv : ∀ m, m < n → OpenV enc w m) (cs : List Value) (x : DataW H × List MemPlace) (h : DataW.trod enc Tryz.prog w 0 (fun _ => true) true n 31 cs = some x) (hw : ∀ k ∈ x.1.weights Tryz.prog 31, k ≤ reachBytes) :
    ∃ (s : Value) (l : List Fld), cs = [s] ∧ FSl (There w) w s l ∧ WfFs l ∧ l.length ≤ 140737488355328 := by
  obtain ⟨ao, len, cap, rfl, hl, hr, hsp, hfu, hel⟩ := open_elems Tryz.underlying31 cells_iF bytes_iF (by decide) h hw
  obtain ⟨l, l1, l2⟩ := exists_list (fun i (f : Fld) => ∃ a cs', ao = some a ∧ CellsAt (There w) w (a.add (i * 8)) (.string (bstr f.name) :: cs') ∧ VHeld (There w) w cs' f.val ∧ f.name.length ≤ 140737488355328 ∧ WfV f.val) len fun i hi => by
    obtain ⟨a, es, m, y, rfl, hm, h1, h2, h3, h4⟩ := hel i hi
    obtain ⟨f, cs', rfl, f1, f2, f3⟩ := open_field m (fun k hk => hv k (by omega)) es y h3 h4
    exact ⟨f, a, cs', rfl, h1, f1, f2, f3⟩
  subst l1
  refine ⟨_, l, rfl, ⟨ao, cap, rfl, hl, fun hne => ?_, ?_⟩, wfFs_of l fun i f hi => ?_, by have := reach_le hr; omega⟩
  · obtain ⟨a, rfl, _⟩ := hsp (by intro e; exact hne (List.eq_nil_of_length_eq_zero e)); rfl
  · cases l with
    | nil => unfold FAt; trivial
    | cons f l =>
      obtain ⟨a, rfl, hs, _⟩ := hsp (by simp)
      refine fat_build _ a hs fun i f hi => ?_
      obtain ⟨a', cs', e, f1, f2, _⟩ := l2 i f hi
      obtain rfl : a = a' := by simpa using e
      exact ⟨cs', f1, f2⟩
  · obtain ⟨a, cs', _, _, _, f3, f4⟩ := l2 i f hi
    exact ⟨f3, f4⟩
set_option maxRecDepth 100000 in
theorem open_vslice (n : Nat) (hv : ∀ m, m < n → OpenV enc w m) (cs : List Value) (x : DataW H × List MemPlace) (h : DataW.trod enc Tryz.prog w 0 (fun _ => true) true n 149 cs = some x) (hw : ∀ k ∈ x.1.weights Tryz.prog 149, k ≤ reachBytes) :
    ∃ (s : Value) (l : List Val), cs = [s] ∧ KSl (There w) w s l ∧ WfL l ∧ l.length ≤ 140737488355328 := by
  obtain ⟨ao, len, cap, rfl, hl, hr, hsp, hfu, hel⟩ := open_elems Tryz.underlying149 cells_iV bytes_iV (by decide) h hw
  obtain ⟨l, l1, l2⟩ := exists_list (fun i (v : Val) => ∃ a cs', ao = some a ∧ CellsAt (There w) w (a.add (i * 7)) cs' ∧ VHeld (There w) w cs' v ∧ WfV v) len fun i hi => by
    obtain ⟨a, es, m, y, rfl, hm, h1, h2, h3, h4⟩ := hel i hi
    obtain ⟨v, f1, f2⟩ := hv m (by omega) es y h3 h4
    exact ⟨v, a, es, rfl, h1, f1, f2⟩
  subst l1
  refine ⟨_, l, rfl, ⟨ao, cap, rfl, hl, fun hne => ?_, ?_⟩, wfL_of l fun i f hi => ?_, by have := reach_le hr; omega⟩
  · obtain ⟨a, rfl, _⟩ := hsp (by intro e; exact hne (List.eq_nil_of_length_eq_zero e)); rfl
  · cases l with
    | nil => unfold KAt; trivial
    | cons f l =>
      obtain ⟨a, rfl, hs, _⟩ := hsp (by simp)
      refine kat_build _ a hs fun i f hi => ?_
      obtain ⟨a', cs', e, f1, f2, _⟩ := l2 i f hi
      obtain rfl : a = a' := by simpa using e
      exact ⟨cs', f1, f2⟩
  · obtain ⟨a, cs', _, _, _, f3⟩ := l2 i f hi
    exact f3
set_option maxRecDepth 100000 in
/-- Every value that came in. -/
theorem open_value (n : Nat) : OpenV enc w n := by
  induction n using Nat.strongRecOn with
  | _ n ih =>
  intro cs x h hw
  obtain ⟨xs, m, rfl, rfl, hl, hlen, hf⟩ := DataW.trod_struct Tryz.underlying151 h
  match xs, hlen with
  | [x0, x1, x2, x3, x4, x5, x6], _ =>
    have h0 : DataW.trod enc Tryz.prog w 0 (fun _ => true) true m 5 (List.take (Tryz.prog.cellsOf 5) (List.drop 0 cs)) = some x0 := hf 0 _ rfl
    have h1 : DataW.trod enc Tryz.prog w 0 (fun _ => true) true m 2 (List.take (Tryz.prog.cellsOf 2) (List.drop 1 cs)) = some x1 := hf 1 _ rfl
    have h2 : DataW.trod enc Tryz.prog w 0 (fun _ => true) true m 138 (List.take (Tryz.prog.cellsOf 138) (List.drop 2 cs)) = some x2 := hf 2 _ rfl
    have h3 : DataW.trod enc Tryz.prog w 0 (fun _ => true) true m 3 (List.take (Tryz.prog.cellsOf 3) (List.drop 3 cs)) = some x3 := hf 3 _ rfl
    have h4 : DataW.trod enc Tryz.prog w 0 (fun _ => true) true m 9 (List.take (Tryz.prog.cellsOf 9) (List.drop 4 cs)) = some x4 := hf 4 _ rfl
    have h5 : DataW.trod enc Tryz.prog w 0 (fun _ => true) true m 149 (List.take (Tryz.prog.cellsOf 149) (List.drop 5 cs)) = some x5 := hf 5 _ rfl
    have h6 : DataW.trod enc Tryz.prog w 0 (fun _ => true) true m 31 (List.take (Tryz.prog.cellsOf 31) (List.drop 6 cs)) = some x6 := hf 6 _ rfl
    rw [cells_iV] at hl
    rw [cells_u8] at h0
    rw [cells_i64] at h1
    rw [cells_f64] at h2
    rw [cells_int] at h3
    rw [cells_str] at h4
    rw [cells_sV] at h5
    rw [cells_sF] at h6
    match cs, hl with
    | [c0, c1, c2, c3, c4, c5, c6], _ =>
      simp only [List.drop_zero, List.take_succ_cons, List.take_zero, List.drop_succ_cons] at h0 h1 h2 h3 h4 h5 h6
      have hwt : ∀ k ∈ x4.1.weights Tryz.prog 9 ++ (x5.1.weights Tryz.prog 149 ++ x6.1.weights Tryz.prog 31), k ≤ reachBytes := by
        intro k hk
        refine hw k ?_
        unfold DataW.weights
        simp only [List.map_cons, List.map_nil]
        rw [Tryz.underlying151]
        simp only [DataW.weightsEach, List.map_cons, List.map_nil, List.append_nil]
        simp only [List.mem_append] at hk ⊢
        rcases hk with hk | hk | hk <;> simp [hk]
      obtain ⟨k, e0, _, w0⟩ := DataW.trod_int Tryz.underlying5 h0
      obtain ⟨n, e1, _, w1⟩ := DataW.trod_int Tryz.underlying2 h1
      obtain ⟨f, e2, _, w2⟩ := trod_float Tryz.underlying138 h2
      obtain ⟨sc, e3, _, w3⟩ := DataW.trod_int Tryz.underlying3 h3
      obtain ⟨s, e4, g4, _⟩ := DataW.trod_string Tryz.underlying9 h4
      obtain ⟨kv, kids, e5, k1, k2, k3⟩ := open_vslice m (fun j hj => ih j (by omega)) _ x5 h5 (fun k hk => hwt k (by simp [hk]))
      obtain ⟨fv, flds, e6, f1, f2, f3⟩ := open_fslice m (fun j hj => ih j (by omega)) _ x6 h6 (fun k hk => hwt k (by simp [hk]))
      simp only [List.cons.injEq, and_true] at e0 e1 e2 e3 e4 e5 e6
      obtain ⟨kb, rfl⟩ := u8_of k w0
      have hn := i64_of n w1
      have hfl : f < 18446744073709551616 := by simpa [Lit.wf] using w2
      have htx : s.data.toList.length ≤ 140737488355328 := by
        refine reach_le (hwt _ ?_)
        rw [g4]
        simp [DataW.weights]
      obtain ⟨ka, kc, rfl, b1, b2, b3⟩ := k1
      obtain ⟨fa, fc, rfl, d1, d2, d3⟩ := f1
      refine ⟨.mk kb n f sc s.data.toList kids flds, ?_, ?_⟩
      · unfold VHeld
        refine ⟨ka, kc, fa, fc, ?_, b1, d1, b2, d2, b3, d3⟩
        rw [e0, e1, e2, e3, e4, e5, e6, ← bstr_self s]
      · unfold WfV
        exact ⟨htx, k3, f3, k2, f2, hn.1, hn.2, hfl⟩
end
/-- The package's reading of an array. -/
def RdLC (l : List Val) : Prop := ∀ (d : Nat) (dep : Int) (w : World) (r : Value) (ps : List Nat) (db : Nat) (Ns : List Nat) (rest : List UInt8), WfL l → OkL l d → costL l ≤ 2000 → 0 ≤ dep → dep + d ≤ 30 →
  Rd w r ps db Ns (Lib.beBytes 4 (encL l).length ++ (encL l ++ rest)) → (encL l).length + rest.length + 4 ≤ 900000000 → 4 + (encL l).length ≤ avail Ns (Lib.beBytes 4 (encL l).length ++ (encL l ++ rest)) → db < w.heap.size →
  Calls Tryz.prog 177 #[r, .int .i64 dep] w fun e w' => ∃ out, e = .returned (.tuple #[out, .nilIface]) ∧ OwnE 20 1 PVc w.heap.size w' out l ∧ Rd w' r ps db (Ns.map (· - (4 + (encL l).length))) rest ∧ Kept ps w w'
theorem costL_len (l : List Val) : l.length ≤ costL l := by
  induction l with
  | nil => simp [costL]
  | cons x l ih => cases x; unfold costL costV; simp only [List.length_cons]; omega
theorem WfL.get' (l : List Val) (h : WfL l) (k : Nat) (v : Val) (hk : l[k]? = some v) : WfV v := by
  induction l generalizing k with
  | nil => simp at hk
  | cons x l ih =>
    unfold WfL at h
    cases k with
    | zero => simp only [List.getElem?_cons_zero, Option.some.injEq] at hk; subst hk; exact h.1
    | succ k => exact ih h.2 k (by simpa using hk)
theorem Rd.face {w : World} {r : Value} {ps : List Nat} {d : Nat} {Ns : List Nat} {l : List UInt8} (h : Rd w r ps d Ns l) : ∃ t a, r = .iface t (.pointer (some a)) := by
  cases h with
  | buf b d l _ _ => exact ⟨_, _, rfl⟩
  | lim R ps d Ns l q N _ _ _ _ _ => exact ⟨_, _, rfl⟩
/-- The reader is told by its own variables and the number of its limits. -/
theorem Rd.same {w w' : World} {r r' : Value} {ps : List Nat} {d d' : Nat} {Ns Ns' : List Nat} {l l' : List UInt8} (h : Rd w r ps d Ns l) (h' : Rd w' r' ps d' Ns' l') (hn : Ns.length = Ns'.length) : r = r' := by
  cases h with
  | buf b d l _ _ =>
    cases h' with
    | buf b d l _ _ => rfl
    | lim R ps d Ns l q N _ _ _ _ _ => simp at hn
  | lim R ps d Ns l q N _ _ _ _ _ =>
    cases h' with
    | buf b d l _ _ => simp at hn
    | lim R ps d Ns l q N _ _ _ _ _ => rfl
theorem Rd.under {w : World} {r : Value} {q : Nat} {ps : List Nat} {d N : Nat} {Ns : List Nat} {l : List UInt8} (h : Rd w r (q :: ps) d (N :: Ns) l) : ∃ R, Rd w R ps d Ns l := by
  cases h with
  | lim R ps d Ns l q N h _ _ _ _ => exact ⟨R, h⟩
theorem OwnE.base {α : Type} {T : TypeId} {n : Nat} {R : (Nat → Prop) → World → List Value → α → Prop} {base base' : Nat} {w : World} {out : Value} {xs : List α} (h : OwnE T n R base w out xs) (hR : Bears n R) (hb : base' ≤ base) : OwnE T n R base' w out xs := by
  obtain ⟨cells, h1, h2, h3⟩ := h
  exact ⟨cells, h1, h2.imp fun cs x hx => hR.mono hx (fun b hb' _ => ⟨Nat.le_trans hb hb'.1, hb'.2⟩), fun g hg => Nat.le_trans hb (h3 g hg)⟩
def outLen : Value → Nat
  | .slice _ n _ => n
  | _ => 0
theorem eof_eq (w : World) : (binOp .eql 67 EOFV (.iface 194 (.string ⟨#[69, 79, 70]⟩))).run Tryz.prog w = .ok (.bool true) w := by kernel_rfl
theorem any_info : (Tryz.prog.info? 20).map (fun i => (i.zero.map (·.cells.size), i.size, i.bytes)) = some (some 1, 1, 16) := by kernel_rfl
set_option maxHeartbeats 300000 in
set_option maxRecDepth 100000 in
theorem rarr_of (l : List Val) (hv : ∀ x, x ∈ l → RdVC x) : RdLC l := by
  intro d dep w r ps db Ns rest hwf hok hcost hd0 hd1 hr hlen hav hdb
  obtain ⟨rt, ra, rfl⟩ := hr.face
  have hel := encL_len l
  have hbl4 := Lib.beBytes_length 4 (encL l).length
  have hgp : ∀ b, w.heap.size ≤ b → b ∉ ps := fun b hb hm => by have := hr.mem_lt _ hm; omega
  have hka : Kept [] w (w.alloc (.cells #[.int .u32 0] 70)) := (Kept.refl [] w).alloc _
  have hb0 : Blk (w.alloc (.cells #[.int .u32 0] 70)) w.heap.size #[.int .u32 0] 70 := Blk.new w _ _
  have hf := rfix_u32 (Lib.beBytes 4 (encL l).length) (encL l ++ rest) hbl4 (hr.kept hka (by simp) (by simp)) (by simp only [List.length_append]; omega) (by omega) (Nat.lt_of_lt_of_le hdb hka.size) w.heap.size 0 _ hb0.cell0 (hb0.free 0) (hgp _ (Nat.le_refl _)) (by omega)
  rw [be_four (encL l).length (by omega)] at hf
  have hav2 : (encL l).length ≤ avail (Ns.map (· - 4)) (encL l ++ rest) := by
    have : avail (Ns.map (· - (Lib.beBytes 4 (encL l).length).length)) (encL l ++ rest) = avail Ns (Lib.beBytes 4 (encL l).length ++ (encL l ++ rest)) - (Lib.beBytes 4 (encL l).length).length := avail_map _ _ _
    rw [hbl4] at this
    omega
  have HF := Lib.hid hf
  have H := Lib.hid (And.intro hwf (And.intro hok (And.intro hcost (And.intro hel (And.intro hlen (And.intro hgp (And.intro hka (And.intro hb0 (And.intro hv (And.intro hdb hav2))))))))))
  have hdep : ¬ (32 : Int) < dep := by omega
  have hbig : ¬ (2147483647 : Int) < ((encL l).length : Int) := by omega
  have hcv : IntKind.i64.wrap (((encL l).length : Nat) : Int) = ((encL l).length : Int) := by rw [IntKind.wrap_i64]; omega
  clear hf hwf hok hcost hel hlen hgp hka hb0 hv hdb hbl4 hr hav hav2
  go_enter Tryz.func177, Tryz.ntmps177
  go_wp2_with (go_at_call 77; refine HF.out.mono ?_; rintro e w2 ⟨rfl, w3, k3, r3, hw2⟩; have hks : Kept [w.heap.size] w3 w2 := by { rw [hw2]; exact (Kept.refl _ w3).setCell (by simp) _ }; have hb5 : Blk w2 w.heap.size #[.int .u32 ((encL l).length : Int)] 70 := by { rw [hw2]; exact (H.out.2.2.2.2.2.2.2.1.kept k3 (H.out.2.2.2.2.2.1 _ (Nat.le_refl _))).setCell 0 _ }; have c5 := hb5.cell0; have hb5lt := Lib.hid hb5.lt; have H2 := Lib.hid (And.intro (r3.kept hks (fun p hp e => H.out.2.2.2.2.2.1 _ (Nat.le_refl _) (by simp at e; rw [← e]; exact hp)) (by simp; have := H.out.2.2.2.2.2.2.2.2.2.1; omega)) (((H.out.2.2.2.2.2.2.1.mono (by simp)).trans k3 (fun x hx => .inl hx)).trans hks (by simp))); clear hks hb5 r3 k3 hw2)
  generalize hlr : w2.heap.size = lr at *
  obtain ⟨W1, hW1⟩ : ∃ W1, W1 = w2.alloc (.cells #[.iface rt (.pointer (some ra)), .int .i64 ((encL l).length : Int)] 368) := ⟨_, rfl⟩
  rw [← hW1]
  have hk21 : Kept [] w2 W1 := by rw [hW1]; exact (Kept.refl [] w2).alloc _
  have hbq : Blk W1 lr #[.iface rt (.pointer (some ra)), .int .i64 ((encL l).length : Int)] 368 := by rw [hW1, ← hlr]; exact Blk.new w2 _ _
  have hz1 : W1.heap.size = lr + 1 := by rw [hW1]; simp [hlr]
  have hlw : w.heap.size < lr := by have := H2.out.2.size; have h1 := hb5lt.out; omega
  have hrd1 : Rd W1 (.iface 366 (.pointer (some ⟨lr, 0, none⟩))) (lr :: ps) db ((encL l).length :: Ns.map (· - 4)) (encL l ++ rest) :=
    .lim _ _ _ _ _ _ _ (H2.out.1.kept hk21 (by simp) (by simp)) (H.out.2.2.2.2.2.1 _ (by omega)) (by have := H.out.2.2.2.2.2.2.2.2.2.1; omega) hbq H.out.2.2.2.2.2.2.2.2.2.2
  obtain ⟨i, z, i1, i2, i3, i4, i5⟩ := info_own any_info
  have HI := Lib.hid (And.intro i1 (And.intro i2 (And.intro i3 (And.intro i4 i5))))
  have HH := Lib.hid (And.intro hk21 (And.intro hz1 hlw))
  clear hk21 hbq hz1 hlw hW1 i1 i2 i3 i4 i5
  go_loopw [4] (fun out W => ∃ m : Nat, m ≤ l.length ∧ outLen out = m ∧ Hid (Rd W (.iface 366 (.pointer (some ⟨lr, 0, none⟩))) (lr :: ps) db (((encL l).length :: Ns.map (· - 4)).map (· - (encL (l.take m)).length)) (encL (l.drop m) ++ rest) ∧
    OwnE 20 1 PVc (lr + 1) W out (l.take m) ∧ Kept (lr :: ps) W1 W)) (fun out _ => l.length - outLen out)
  case atStart => exact ⟨0, Nat.zero_le _, rfl, Lib.hid ⟨by rw [List.take_zero, List.drop_zero]; simp only [encL, List.length_nil, map_sub_zero]; exact hrd1, by rw [List.take_zero]; exact OwnE.nil _ _ _ _ _, Kept.refl _ _⟩⟩
  case round =>
    obtain ⟨m, hml, hol, HR⟩ := hrel
    have hsum : (encL l).length = (encL (l.take m)).length + (encL (l.drop m)).length := by
      have := encL_append (l.take m) (l.drop m)
      rw [List.take_append_drop] at this
      rw [this, List.length_append]
    have hwr : lr + 1 ≤ wr.heap.size := by have := HR.out.2.2.size; have := HH.out.2.1; omega
    by_cases hlt : m < l.length
    · obtain ⟨v, hx⟩ : ∃ v, l[m]? = some v := ⟨l[m], List.getElem?_eq_getElem hlt⟩
      have hdrop : l.drop m = v :: l.drop (m + 1) := by
        rw [List.getElem?_eq_getElem hlt, Option.some.injEq] at hx
        rw [← hx]; exact List.drop_eq_getElem_cons hlt
      have hrd := HR.out.1
      rw [hdrop] at hrd hsum
      simp only [encL, List.append_assoc, List.length_append] at hrd hsum
      have hll := H.out.2.2.2.2.1
      have hvc := H.out.2.2.2.2.2.2.2.2.1 v (List.mem_of_getElem? hx) d dep wr _ _ db _ _ (WfL.get' l H.out.1 m v hx) (OkL.get l d H.out.2.1 m v hx) (by have := costL_get l m v hx; have := H.out.2.2.1; omega) hd0 hd1 hrd (by simp only [List.length_append]; omega) (by simp only [List.map_cons, avail]; omega) (by have := H.out.2.2.2.2.2.2.2.2.2.1; have := HH.out.2.2; omega)
      obtain ⟨cells, o1, o2, o3⟩ := HR.out.2.1
      obtain ⟨ao, oc, rfl, hoc, hoo⟩ := own_slice o1
      have hmm : (l.take m).length = m := by rw [List.length_take]; omega
      have hes : ¬ (8192 : Int) ≤ (m : Int) := by have := costL_len l; have := H.out.2.2.1; omega
      have HV := Lib.hid hvc; have HX := Lib.hid (And.intro hx (And.intro o1 (And.intro o2 (And.intro o3 (And.intro hsum hwr)))))
      clear hvc hx o1 o2 o3 hsum hwr hrd hll hdrop hoc hoo
      rw [hmm]
      go_upto_region 17 with (go_at_call 165; refine HV.out.mono ?_; rintro e w6 ⟨x, rfl, p6, r6, k6⟩; have H6 := Lib.hid (And.intro p6 (And.intro r6 k6)); clear p6 r6 k6)
      obtain ⟨wa, hwa⟩ : ∃ wa, wa = w6.alloc (.cells #[x] 20) := ⟨_, rfl⟩
      have hk6a : Kept [] w6 wa := by rw [hwa]; exact (Kept.refl [] w6).alloc _
      have hca : wa.cell? ⟨w6.heap.size, 0, none⟩ = some x := by rw [hwa]; exact (Blk.new w6 #[x] _).cell0
      have hkp : Kept (lr :: ps) wr wa := H6.out.2.2.trans hk6a (by simp)
      have hpl : ∀ b, lr + 1 ≤ b → b ∉ lr :: ps := fun b hb hm => by
        rcases List.mem_cons.1 hm with rfl | hm
        · omega
        · exact H.out.2.2.2.2.2.1 b (by have := HH.out.2.2; omega) hm
      obtain ⟨n1, n2⟩ := own_move bears_pv HX.out.2.1 HX.out.2.2.1 HX.out.2.2.2.1 hpl hkp
      have hol' : ∀ g, Value.ownBlock (.slice ao (l.take m).length oc) = some g → g < wr.heap.size := fun g hg => own_lt HX.out.2.1 hg
      have hsx := H6.out.2.2.size
      have hpx : PVc (fun b => lr + 1 ≤ b ∧ Value.ownBlock (.slice ao (l.take m).length oc) ≠ some b) wa [x] v := ⟨x, rfl, PV.kept hk6a (by simp) v (PV.mono (fun b hb _ => ⟨by have := HX.out.2.2.2.2.2; omega, fun e => by have := hol' b e; omega⟩) v H6.out.1)⟩
      have HA := Lib.hid (And.intro n1 (And.intro n2 (And.intro hpx (And.intro hca (And.intro hkp hk6a)))))
      clear n1 n2 hpx hca hkp hk6a hpl hol' hsx
      rw [hmm] at HA
      rcases H6.out.1.face with rfl | ⟨xt, xv, rfl⟩
      · subst hwa
        go_wp2_with (at_builtin; refine wpList_append2 _ rfl _ _ 192 192 rfl 20 20 Tryz.underlying192 i z 1 16 Tryz.underlying192 HI.out.1 HI.out.2.1 HI.out.2.2.1 HI.out.2.2.2.1 HI.out.2.2.2.2 (by decide) (.slice ao m oc) m cells rfl HA.out.1 ⟨w6.heap.size, 0, none⟩ 1 1 [.nilIface] rfl rfl (fun j u hj => by cases j with | zero => simp at hj; subst hj; exact HA.out.2.2.2.1 | succ j => simp at hj) (fun u hu => by simp at hu; subst hu; rfl) (by omega) (by omega) ?_; intro v' w8 g1 g2 g3; have H8 := Lib.hid (And.intro g1 (And.intro g2 g3)); clear g1 g2 g3)
        have hmm2 : (l.take m).length = m := by rw [List.length_take]; omega
        have hob : ∀ g, Value.ownBlock (.slice ao m oc) = some g → lr + 1 ≤ g := by have := HX.out.2.2.2.1; rw [hmm2] at this; exact this
        have hsz : lr + 1 ≤ (w6.alloc (.cells #[.nilIface] 20)).heap.size := by have := H6.out.2.2.size; have := HX.out.2.2.2.2.2; simp; omega
        obtain ⟨p1, p2⟩ := OwnE.push (x := v) (xs := l.take m) bears_pv HA.out.2.1 hob hsz HA.out.2.2.1 (by rw [hmm2]; exact H8.out.1) H8.out.2.1 H8.out.2.2
        obtain ⟨ao', oc', hv', _, _⟩ := own_slice H8.out.1
        have e1 : l.take (m + 1) = l.take m ++ [v] := by rw [List.take_add_one, HX.out.1]; rfl
        have e2 : (encL (l.take (m + 1))).length = (encL (l.take m)).length + (encV v).length := by rw [e1, encL_append, List.length_append]; simp [encL]
        have hS : ∀ b, b < lr + 1 → b ∉ (Value.ownBlock (.slice ao m oc)).toList := fun b hb hm => by have := hob b (by simpa using hm); omega
        have hP := Lib.hid (And.intro p1 (And.intro p2 (And.intro hv' (And.intro e1 (And.intro e2 hS)))))
        clear p1 p2 hv' e1 e2 hS
        go_roundw
        case rel =>
          refine ⟨m + 1, hlt, by rw [hP.out.2.2.1]; rfl, Lib.hid ⟨?_, by rw [hP.out.2.2.2.1]; exact hP.out.1, (HR.out.2.2.trans HA.out.2.2.2.2.1 (fun x hx => .inl hx)).trans hP.out.2.1 (fun x hx => .inr (by have := hob x (by simpa using hx); have := HH.out.2.1; omega))⟩⟩
          have hr8 := (H6.out.2.1.kept HA.out.2.2.2.2.2 (by simp) (by simp)).kept hP.out.2.1 (fun p hp => hP.out.2.2.2.2.2 p (by rcases List.mem_cons.1 hp with rfl | hp; omega; have := H2.out.1.mem_lt p hp; omega)) (hP.out.2.2.2.2.2 db (by have := H.out.2.2.2.2.2.2.2.2.2.1; have := HH.out.2.2; omega))
          rw [map_sub_sub] at hr8
          rw [hP.out.2.2.2.2.1]
          exact hr8
        case measure => rw [hP.out.2.2.1]; simp [outLen]; omega
      · subst hwa
        go_wp2_with (at_builtin; refine wpList_append2 _ rfl _ _ 192 192 rfl 20 20 Tryz.underlying192 i z 1 16 Tryz.underlying192 HI.out.1 HI.out.2.1 HI.out.2.2.1 HI.out.2.2.2.1 HI.out.2.2.2.2 (by decide) (.slice ao m oc) m cells rfl HA.out.1 ⟨w6.heap.size, 0, none⟩ 1 1 [.iface xt xv] rfl rfl (fun j u hj => by cases j with | zero => simp at hj; subst hj; exact HA.out.2.2.2.1 | succ j => simp at hj) (fun u hu => by simp at hu; subst hu; rfl) (by omega) (by omega) ?_; intro v' w8 g1 g2 g3; have H8 := Lib.hid (And.intro g1 (And.intro g2 g3)); clear g1 g2 g3)
        have hmm2 : (l.take m).length = m := by rw [List.length_take]; omega
        have hob : ∀ g, Value.ownBlock (.slice ao m oc) = some g → lr + 1 ≤ g := by have := HX.out.2.2.2.1; rw [hmm2] at this; exact this
        have hsz : lr + 1 ≤ (w6.alloc (.cells #[.iface xt xv] 20)).heap.size := by have := H6.out.2.2.size; have := HX.out.2.2.2.2.2; simp; omega
        obtain ⟨p1, p2⟩ := OwnE.push (x := v) (xs := l.take m) bears_pv HA.out.2.1 hob hsz HA.out.2.2.1 (by rw [hmm2]; exact H8.out.1) H8.out.2.1 H8.out.2.2
        obtain ⟨ao', oc', hv', _, _⟩ := own_slice H8.out.1
        have e1 : l.take (m + 1) = l.take m ++ [v] := by rw [List.take_add_one, HX.out.1]; rfl
        have e2 : (encL (l.take (m + 1))).length = (encL (l.take m)).length + (encV v).length := by rw [e1, encL_append, List.length_append]; simp [encL]
        have hS : ∀ b, b < lr + 1 → b ∉ (Value.ownBlock (.slice ao m oc)).toList := fun b hb hm => by have := hob b (by simpa using hm); omega
        have hP := Lib.hid (And.intro p1 (And.intro p2 (And.intro hv' (And.intro e1 (And.intro e2 hS)))))
        clear p1 p2 hv' e1 e2 hS
        go_roundw
        case rel =>
          refine ⟨m + 1, hlt, by rw [hP.out.2.2.1]; rfl, Lib.hid ⟨?_, by rw [hP.out.2.2.2.1]; exact hP.out.1, (HR.out.2.2.trans HA.out.2.2.2.2.1 (fun x hx => .inl hx)).trans hP.out.2.1 (fun x hx => .inr (by have := hob x (by simpa using hx); have := HH.out.2.1; omega))⟩⟩
          have hr8 := (H6.out.2.1.kept HA.out.2.2.2.2.2 (by simp) (by simp)).kept hP.out.2.1 (fun p hp => hP.out.2.2.2.2.2 p (by rcases List.mem_cons.1 hp with rfl | hp; omega; have := H2.out.1.mem_lt p hp; omega)) (hP.out.2.2.2.2.2 db (by have := H.out.2.2.2.2.2.2.2.2.2.1; have := HH.out.2.2; omega))
          rw [map_sub_sub] at hr8
          rw [hP.out.2.2.2.2.1]
          exact hr8
        case measure => rw [hP.out.2.2.1]; simp [outLen]; omega
    · have hfin : m = l.length := by omega
      have hrd := HR.out.1
      rw [hfin, List.take_length, List.drop_length] at hrd
      rw [show encL ([] : List Val) = [] from rfl, List.nil_append] at hrd
      have hre := rfv_end dep rest hrd (by have := H.out.2.2.2.2.1; omega) (by simp [avail]) (by have := H.out.2.2.2.2.2.2.2.2.2.1; have := HH.out.2.2; omega)
      have heof := eof_eq
      have HE := Lib.hid hre; have HM := Lib.hid hfin; have HD := Lib.hid hrd; clear hre hfin hrd hsum hwr hlt
      go_wp2_with (go_at_call 165; refine HE.out.mono ?_; rintro e w6 ⟨rfl, k6⟩; have K6 := Lib.hid k6; clear k6)
      go_ret2
      obtain ⟨R, hR⟩ := HD.out.under
      have hfin := HM.out
      have hRr : R = .iface rt (.pointer (some ra)) := hR.same H2.out.1 (by simp)
      subst hRr
      have hkk : Kept (lr :: ps) w2 w6 := ((HH.out.1.mono (by simp)).trans HR.out.2.2 (fun x hx => .inl hx)).trans K6.out (by simp)
      refine ⟨_, rfl, ?_, ?_, H2.out.2.trans hkk (fun x hx => by rcases List.mem_cons.1 hx with rfl | hx; exact .inr (by have := HH.out.2.2; omega); exact .inl hx)⟩
      · have := (HR.out.2.1.kept bears_pv K6.out (by simp)).base bears_pv (base' := w.heap.size) (by have := HH.out.2.2; omega)
        rwa [hfin, List.take_length] at this
      · have := hR.kept K6.out (by simp) (by simp)
        rwa [map_sub_sub] at this
theorem u64_of (n : Int) (h : (Lit.int .u64 n).wf = true) : ∃ k : Nat, n = (k : Int) ∧ k < 18446744073709551616 := by
  have hx : 0 ≤ n ∧ n ≤ 18446744073709551615 := by simpa [Lit.wf, IntKind.min, IntKind.max, IntKind.signed, IntKind.bits] using h
  exact ⟨n.toNat, by omega, by omega⟩
section
variable {H : Type} {enc : TypeId × Value → H} {w : World}
theorem cells_iA : Tryz.prog.cellsOf 74 = 4 := by kernel_rfl
theorem bytes_iA : Tryz.prog.bytesOf 74 = 56 := by kernel_rfl
theorem cells_iM : Tryz.prog.cellsOf 27 = 3 := by kernel_rfl
theorem cells_u64 : Tryz.prog.cellsOf 28 = 1 := by kernel_rfl
theorem cells_sA : Tryz.prog.cellsOf 25 = 1 := by kernel_rfl
set_option maxRecDepth 100000 in
/-- An argument that came in. -/
theorem open_arg (n : Nat) (cs : List Value) (x : DataW H × List MemPlace) (h : DataW.trod enc Tryz.prog w 0 (fun _ => true) true n 74 cs = some x) (hw : ∀ k ∈ x.1.weights Tryz.prog 74, k ≤ reachBytes) :
    ∃ a, AHeld (There w) w cs a ∧ WfA a := by
  obtain ⟨xs, m, rfl, rfl, hl, hlen, hf⟩ := DataW.trod_struct Tryz.underlying74 h
  match xs, hlen with
  | [x0, x1, x2, x3], _ =>
    have h0 : DataW.trod enc Tryz.prog w 0 (fun _ => true) true m 3 (List.take (Tryz.prog.cellsOf 3) (List.drop 0 cs)) = some x0 := hf 0 _ rfl
    have h1 : DataW.trod enc Tryz.prog w 0 (fun _ => true) true m 28 (List.take (Tryz.prog.cellsOf 28) (List.drop 1 cs)) = some x1 := hf 1 _ rfl
    have h2 : DataW.trod enc Tryz.prog w 0 (fun _ => true) true m 9 (List.take (Tryz.prog.cellsOf 9) (List.drop 2 cs)) = some x2 := hf 2 _ rfl
    have h3 : DataW.trod enc Tryz.prog w 0 (fun _ => true) true m 31 (List.take (Tryz.prog.cellsOf 31) (List.drop 3 cs)) = some x3 := hf 3 _ rfl
    rw [cells_iA] at hl
    rw [cells_int] at h0
    rw [cells_u64] at h1
    rw [cells_str] at h2
    rw [cells_sF] at h3
    match cs, hl with
    | [c0, c1, c2, c3], _ =>
      simp only [List.drop_zero, List.take_succ_cons, List.take_zero, List.drop_succ_cons] at h0 h1 h2 h3
      have hwt : ∀ k ∈ x2.1.weights Tryz.prog 9 ++ x3.1.weights Tryz.prog 31, k ≤ reachBytes := by
        intro k hk
        refine hw k ?_
        unfold DataW.weights
        simp only [List.map_cons, List.map_nil]
        rw [Tryz.underlying74]
        simp only [DataW.weightsEach, List.map_cons, List.map_nil, List.append_nil]
        simp only [List.mem_append] at hk ⊢
        rcases hk with hk | hk <;> simp [hk]
      obtain ⟨k, e0, _, w0⟩ := DataW.trod_int Tryz.underlying3 h0
      obtain ⟨n, e1, _, w1⟩ := DataW.trod_int Tryz.underlying28 h1
      obtain ⟨s, e2, g2, _⟩ := DataW.trod_string Tryz.underlying9 h2
      obtain ⟨fv, flds, e3, f1, f2, f3⟩ := open_fslice m (fun j hj => open_value j) _ x3 h3 (fun k hk => hwt k (by simp [hk]))
      simp only [List.cons.injEq, and_true] at e0 e1 e2 e3
      obtain ⟨nn, rfl, hn⟩ := u64_of n w1
      have hk := i64_of k w0
      have htx : s.data.toList.length ≤ 140737488355328 := by
        refine reach_le (hwt _ ?_)
        rw [g2]
        simp [DataW.weights]
      refine ⟨⟨k, nn, s.data.toList, flds⟩, ⟨fv, ?_, f1⟩, htx, f2, f3, hn, hk.1, hk.2⟩
      rw [e0, e1, e2, e3, ← bstr_self s]
set_option maxRecDepth 100000 in
/-- Arguments that came in. -/
theorem open_args (n : Nat) (cs : List Value) (x : DataW H × List MemPlace) (h : DataW.trod enc Tryz.prog w 0 (fun _ => true) true n 25 cs = some x) (hw : ∀ k ∈ x.1.weights Tryz.prog 25, k ≤ reachBytes) :
    ∃ (s : Value) (l : List MArg), cs = [s] ∧ ASl (There w) w s l ∧ (∀ a ∈ l, WfA a) ∧ l.length ≤ 140737488355328 := by
  obtain ⟨ao, len, cap, rfl, hl, hr, hsp, hfu, hel⟩ := open_elems Tryz.underlying25 cells_iA bytes_iA (by decide) h hw
  obtain ⟨l, l1, l2⟩ := exists_list (fun i (v : MArg) => ∃ a cs', ao = some a ∧ CellsAt (There w) w (a.add (i * 4)) cs' ∧ AHeld (There w) w cs' v ∧ WfA v) len fun i hi => by
    obtain ⟨a, es, m, y, rfl, hm, h1, h2, h3, h4⟩ := hel i hi
    obtain ⟨v, f1, f2⟩ := open_arg m es y h3 h4
    exact ⟨v, a, es, rfl, h1, f1, f2⟩
  subst l1
  refine ⟨_, l, rfl, ⟨ao, cap, rfl, hl, fun i a hi => ?_⟩, fun a ha => ?_, by have := reach_le hr; omega⟩
  · obtain ⟨ad, cs', e, f1, f2, _⟩ := l2 i a hi
    exact ⟨ad, cs', e, f1, f2⟩
  · obtain ⟨i, hi⟩ := List.getElem?_of_mem ha
    obtain ⟨_, _, _, _, _, f⟩ := l2 i a hi
    exact f
set_option maxRecDepth 100000 in
/-- A method that came in. -/
theorem open_method (v : Value) (d : DataW H) (p : List MemPlace) (h : DataW.Trod enc Tryz.prog w 0 (fun _ => true) true 27 v d p) (hv : ∃ cs, v = .agg cs ∧ cs.size = Tryz.prog.cellsOf 27) (hw : ∀ k ∈ d.weights Tryz.prog 27, k ≤ reachBytes) :
    ∃ (c m : Int) (av : Value) (args : List MArg), v = .agg #[.int .i64 c, .int .i64 m, av] ∧ ASl (There w) w av args ∧ (∀ a ∈ args, WfA a) ∧ args.length ≤ 140737488355328 ∧ (Lit.int .i64 c).wf = true ∧ (Lit.int .i64 m).wf = true := by
  obtain ⟨cs, rfl, hcs⟩ := hv
  rw [cells_iM] at hcs
  obtain ⟨fuel, h⟩ := h
  obtain ⟨xs, m, _, hd, hl, hlen, hf⟩ := DataW.trod_struct Tryz.underlying27 h
  match xs, hlen with
  | [x0, x1, x2], _ =>
    obtain ⟨l⟩ := cs
    have h0 : DataW.trod enc Tryz.prog w 0 (fun _ => true) true m 3 (List.take (Tryz.prog.cellsOf 3) (List.drop 0 l)) = some x0 := hf 0 _ rfl
    have h1 : DataW.trod enc Tryz.prog w 0 (fun _ => true) true m 3 (List.take (Tryz.prog.cellsOf 3) (List.drop 1 l)) = some x1 := hf 1 _ rfl
    have h2 : DataW.trod enc Tryz.prog w 0 (fun _ => true) true m 25 (List.take (Tryz.prog.cellsOf 25) (List.drop 2 l)) = some x2 := hf 2 _ rfl
    rw [cells_int] at h0 h1
    rw [cells_sA] at h2
    match l, hcs with
    | [c0, c1, c2], _ =>
      simp only [List.drop_zero, List.take_succ_cons, List.take_zero, List.drop_succ_cons] at h0 h1 h2
      have hd' : d = DataW.agg [x0.1, x1.1, x2.1] := congrArg Prod.fst hd
      have hwt : ∀ k ∈ x2.1.weights Tryz.prog 25, k ≤ reachBytes := by
        intro k hk
        refine hw k ?_
        rw [hd']
        unfold DataW.weights
        rw [Tryz.underlying27]
        simp only [DataW.weightsEach, List.map_cons, List.map_nil, List.append_nil]
        simp only [List.mem_append]
        simp [hk]
      obtain ⟨c, e0, _, w0⟩ := DataW.trod_int Tryz.underlying3 h0
      obtain ⟨mm, e1, _, w1⟩ := DataW.trod_int Tryz.underlying3 h1
      obtain ⟨av, args, e2, f1, f2, f3⟩ := open_args m _ x2 h2 hwt
      simp only [List.cons.injEq, and_true] at e0 e1 e2
      refine ⟨c, mm, av, args, ?_, f1, f2, f3, w0, w1⟩
      rw [e0, e1, e2]
end
theorem rtable_of (fs : List Fld) (hc : RdFC fs) (p : Option (List UInt8)) (d : Nat) (w : World) (r : Value) (ps : List Nat) (db : Nat) (Ns : List Nat) (rest : List UInt8) (hwf : WfFs fs) (hok : OkFs fs p d) (hcost : costFs fs ≤ 2000) (hd : d ≤ 30)
    (hr : Rd w r ps db Ns (encT fs ++ rest)) (hl : (encT fs ++ rest).length ≤ 900000000) (hav : (encT fs).length ≤ avail Ns (encT fs ++ rest)) (hdb : db < w.heap.size) :
    Calls Tryz.prog 145 #[r] w fun e w' => ∃ b es, e = .returned (.tuple #[.map (some b), .nilIface]) ∧ w.heap.size ≤ b ∧ MapAt w' b es ∧ PF (fun b => w.heap.size ≤ b) w' es fs ∧ Rd w' r ps db (Ns.map (· - (encT fs).length)) rest ∧ Kept ps w w' := by
  have h := hc p d 0 w r ps db Ns rest hwf hok hcost (by omega) (by omega) hr hl hav hdb
  have HC := Lib.hid h
  clear h hc hwf hok hcost hd hr hl hav hdb
  go_enter Tryz.func145, Tryz.ntmps145
  go_wp2_with (go_at_call 158; refine HC.out.mono ?_; rintro e w2 ⟨b, es, rfl, q⟩; have HQ := Lib.hid q; clear q)
  go_ret2
  exact ⟨b, es, rfl, HQ.out⟩
end Go.Proofs.YtkcdakohmfodjaaGreat
