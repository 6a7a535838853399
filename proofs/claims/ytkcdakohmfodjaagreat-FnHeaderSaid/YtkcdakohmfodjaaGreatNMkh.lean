/-
  Lemmas on the way to the statement of YtkcdakohmfodjaaGreatHeader, joined out of these texts: Mkh, Names. No condition.
-/
import Derived.Deep.Cut
import Derived.Deep.MidRow
import Derived.Shelf.Slices.In.SortNone
import Derived.Shelf.Sort.Plain
import Derived.Sort.KeysCollected
import Derived.Sort.OwnSorted
import Derived.Sort.Walk0
import Derived.Test.YtkcdakohmfodjaaGreatNHb
import Derived.Test.YtkcdakohmfodjaaGreatNHpW
import Derived.Test.YtkcdakohmfodjaaGreatNTexts
import Derived.Test.YtkcdakohmfodjaaGreatNToldV
namespace Go.Proofs.YtkcdakohmfodjaaGreat
open Go.RowKit
set_option linter.unusedVariables false
set_option linter.unusedSimpArgs false
/-- The headers of properties, as impl.table has laid them. -/
def HdG (B : Nat → Prop) (w : World) (p : HP) (hd : Value) : Prop := (p.has 2 = false ∧ hd = .map none) ∨ (p.has 2 = true ∧ ∃ b es, hd = .map (some b) ∧ B b ∧ MapAt w b es ∧ GF B w es p.hdr)
theorem HdG.kept {B : Nat → Prop} {S : List Nat} {w w' : World} {p : HP} {hd : Value} (h : HdG B w p hd) (hk : Kept S w w') (hS : ∀ b, B b → b ∉ S) : HdG B w' p hd := by
  rcases h with h | ⟨h1, b, es, h2, h3, h4, h5⟩
  · exact .inl h
  · exact .inr ⟨h1, b, es, h2, h3, h4.kept hk (hS b h3), GF.kept hk hS _ h5⟩
theorem HdG.mono {B B' : Nat → Prop} {w : World} {p : HP} {hd : Value} (h : HdG B w p hd) (hM : ∀ b, B b → b < w.heap.size → B' b) : HdG B' w p hd := by
  rcases h with h | ⟨h1, b, es, h2, h3, h4, h5⟩
  · exact .inl h
  · exact .inr ⟨h1, b, es, h2, hM b h3 h4.lt, h4, GF.mono hM _ h5⟩
/-- The second cell of the moment. -/
def HP.moment (p : HP) : Int := if p.has 9 then p.time + 62135596800 else 0
/-- The row of the frame of p. -/
def hfOf (c cl sz : Int) (p : HP) (hd : Value) : Array Value := hfRow c cl sz p.heldT hd p.mode p.prio (.int .u64 0) (.int .i64 p.moment) (.pointer none)
/-- A store of three cells into a row. -/
theorem wpList_store_3 {P : Program} {ops : Array Oper} {rest : List Oper} {o : Oper} {a : Act} {w : World} {Q : Exit → Act → World → Prop} (hgd : o.guard = none) (hdst : o.dst = none) (ty : TypeId) (x y : Operand) (ho : o.op = .store ty x y)
    (g i : Nat) (hx : a.eval x = .pointer (some ⟨g, i, none⟩)) (t : TypeId) (cs : List Value) (hg : Blk w g cs.toArray t) (hi : i + 3 ≤ cs.length) (v0 v1 v2 : Value) (hy : a.eval y = .agg #[v0, v1, v2]) (h0 : v0.oneCell' = true) (h1 : v1.oneCell' = true) (h2 : v2.oneCell' = true)
    (hs : (P.info? ty).map (·.size) = some 3) (h : ∀ w', Blk w' g (((cs.set i v0).set (i + 1) v1).set (i + 2) v2).toArray t → Kept [g] w w' → wpList P ops Q rest a w') : wpList P ops Q (o :: rest) a w := by
  refine wpList_store_mid hgd ty x y ho g i #[v0, v1, v2] hx hy (fun j hj => ⟨?_, hg.free _⟩) hs ?_ ?_
  · rw [hg.cell]
    have : j < 3 := hj
    simp; omega
  · simp [h0, h1, h2]
  · have e : w.setCells g i (#[v0, v1, v2] : Array Value).toList = ((w.setCell ⟨g, i, none⟩ v0).setCell ⟨g, i + 1, none⟩ v1).setCell ⟨g, i + 1 + 1, none⟩ v2 := rfl
    rw [e, hdst]
    have sr : ∀ {w : World} {cs : List Value} (h : Blk w g cs.toArray t) (i : Nat) (u : Value), Blk (w.setCell ⟨g, i, none⟩ u) g (cs.set i u).toArray t := fun h i u => by
      have := h.setCell i u
      rwa [List.setIfInBounds_toArray] at this
    exact h _ (sr (sr (sr hg i v0) (i + 1) v1) (i + 2) v2) ((((Kept.refl [g] w).setCell (by simp) _).setCell (by simp) _).setCell (by simp) _)
theorem size_time : (Tryz.prog.info? 99).map (·.size) = some 3 := by kernel_rfl
theorem nodup_snoc {is : List Nat} {i : Nat} (h : is.Nodup) (hi : i ∉ is) : (is ++ [i]).Nodup := by
  rw [List.nodup_append]
  refine ⟨h, by simp, fun a ha b hb e => ?_⟩
  simp at hb
  subst hb; subst e
  exact hi ha
theorem lt_snoc {is : List Nat} {i n : Nat} (h : ∀ j ∈ is, j < n) (hi : i < n) : ∀ j ∈ is ++ [i], j < n := fun j hj => by
  rcases List.mem_append.1 hj with hj | hj
  · exact h j hj
  · simp at hj; subst hj; exact hi
theorem round_meas {wr ws : World} {r b n i0 : Nat} {is : List Nat} (h0 : ItAt wr r b n is) (h1 : ItAt ws r b n (is ++ [i0])) (hnd : (is ++ [i0]).Nodup) (hlt : ∀ i ∈ is ++ [i0], i < n) : n - (ws.iterSeen r).size < n - (wr.iterSeen r).size := by
  rw [h1.seen, h0.seen]
  have := nodup_len n _ hnd hlt
  simp at this ⊢
  omega
theorem keyOf_lt : ∀ j, j < 9 → keyOf j < 14 := by decide
theorem hfRow_at {c cl sz : Int} {T : Nat → List UInt8} {hd : Value} {md pr : Int} {t0 t1 t2 : Value} {w : World} {f : Nat} {ty : TypeId} (h : Blk w f (hfRow c cl sz T hd md pr t0 t1 t2) ty) (j : Nat) (hj : j < 9) : w.cell? ⟨f, 4 + offOf j, none⟩ = some (.string (bstr (T (keyOf j)))) := by
  rw [h.cell]; exact hfRow_cell c cl sz T hd md pr t0 t1 t2 j hj
set_option maxHeartbeats 4000000 in
set_option maxRecDepth 100000 in
theorem mkHead_any (B : Nat → Prop) (p : HP) (hwf : WfP p) (d : Nat) (hok : OkFs p.hdr none d) (hcost : costFs p.hdr ≤ 2000) (h13 : p.has 13 = false) (hmd : 0 ≤ p.mode ∧ p.mode ≤ 255 ∧ (p.has 3 = false → p.mode = 0)) (hpr : 0 ≤ p.prio ∧ p.prio ≤ 255 ∧ (p.has 4 = false → p.prio = 0)) (hti : 0 ≤ p.time ∧ p.time < 1099511627776)
    (hv : Value) (w : World) (h : FSl B w hv p.hdr) (c cl sz : Nat) (hcl : cl < 65536) (bc bp bs : Nat) (tc tp ts : TypeId) (hbc : Blk w bc #[.int .i64 (cl : Int)] tc) (hbp : Blk w bp (hpC p hv).toArray tp) (hbs : Blk w bs #[.int .u64 (sz : Int)] ts) :
    Calls Tryz.prog 38 #[.int .u16 (c : Int), .pointer (some ⟨bc, 0, none⟩), .pointer (some ⟨bp, 0, none⟩), .pointer (some ⟨bs, 0, none⟩)] w fun e w' => ∃ f hd, e = .returned (.tuple #[.iface 94 (.pointer (some ⟨f, 0, none⟩)), .bool true]) ∧
      w.heap.size ≤ f ∧ Blk w' f (hfOf c cl sz p hd) 103 ∧ HdG (fun b => w.heap.size ≤ b ∧ b ≠ f) w' p hd ∧ Kept [] w w' := by
  have e1 : IntKind.u16.wrap (cl : Int) = cl := by rw [IntKind.wrap_u16]; omega
  have e2 : (cl : Int) % 65536 = cl := by omega
  have e3 : p.mode % 256 = p.mode := by omega
  have e4 : p.prio % 256 = p.prio := by omega
  have e5 : IntKind.u8.wrap p.mode = p.mode := by rw [IntKind.wrap_u8]; omega
  have e6 : IntKind.u8.wrap p.prio = p.prio := by rw [IntKind.wrap_u8]; omega
  have c13 : w.cell? ⟨bp, 13, none⟩ = some (.bool false) := by rw [← h13]; exact hp_has hbp 13 (by omega)
  have cm := hp_mode hbp
  have cp := hp_prio hbp
  have cc := hbc.cell0
  have cs := hbs.cell0
  have H := Lib.hid (And.intro hwf (And.intro hok (And.intro hcost (And.intro hmd (And.intro hpr (And.intro hti (And.intro h (And.intro hbc (And.intro hbp hbs)))))))))
  clear hwf hok hcost hmd hpr hti h hbc hbp hbs
  go_enter Tryz.func38, Tryz.ntmps38
  go_upto_region 4 with fail
  obtain ⟨wa, hwa⟩ : ∃ wa, wa = w.alloc (.cells #[.int .u16 (c : Int), .int .u16 (cl : Int), .int .u16 0, .int .u64 (sz : Int), .string ⟨#[]⟩, .string ⟨#[]⟩, .map none, .int .u8 0, .int .u8 0, .string ⟨#[]⟩, .string ⟨#[]⟩, .string ⟨#[]⟩, .string ⟨#[]⟩, .int .u64 0, .int .i64 0, .pointer none, .string ⟨#[]⟩, .string ⟨#[]⟩, .string ⟨#[]⟩, .string ⟨#[]⟩] 103) := ⟨_, rfl⟩
  have hka : Kept [] w wa := by rw [hwa]; exact (Kept.refl [] w).alloc _
  have hba : Blk wa w.heap.size (hfRow c cl sz (fun _ => []) (.map none) 0 0 (.int .u64 0) (.int .i64 0) (.pointer none)) 103 := by rw [hwa]; exact Blk.new w _ _
  rw [← hwa]
  have htx := texts_any w.heap.size 4 wa
  have HA := Lib.hid (And.intro hka (And.intro hba htx)); clear hka hba htx hwa cm cp cc cs c13
  go_wp2_with (first
    | (go_at_call 39; refine HA.out.2.2.mono ?_; rintro e w1 ⟨mb, es, rfl, m1, m2, m3, m4, m5⟩; have H1 := Lib.hid (And.intro m1 (And.intro m2 (And.intro m3 (And.intro m4 m5)))); clear m1 m2 m3 m4 m5)
    | (at_range; refine wpList_range_map rfl _ 104 rfl 3 107 Tryz.underlying104 mb es rfl H1.out.1 ?_; intro w2 hw2; have hk2 : Kept [] w1 w2 := by { rw [hw2]; exact (Kept.refl [] w1).alloc _ }; have hi2 : ItAt w2 w1.heap.size mb es.length [] := by { rw [hw2]; exact heap_alloc_new w1 _ }; have H2 := Lib.hid (And.intro hk2 hi2); clear hk2 hi2 hw2))
  go_frame
  go_loopw [8] (fun s8 W => ∃ (is : List Nat) (T : Nat → List UInt8), Hid (is.Nodup ∧ (∀ i ∈ is, i < es.length) ∧ ItAt W w1.heap.size mb es.length is ∧ Put p w.heap.size 4 es is T ∧
    Blk W w.heap.size (hfRow c cl sz T (.map none) 0 0 (.int .u64 0) (.int .i64 0) (.pointer none)) 103 ∧ MapAt W mb es ∧ Kept [] w W)) (fun _ W => es.length - (W.iterSeen w1.heap.size).size)
  case atStart => exact ⟨[], fun _ => [], Lib.hid ⟨List.nodup_nil, by simp, H2.out.2, Put.start p _ _ _, (HA.out.2.1.kept H1.out.2.2.2.2 (by simp)).kept H2.out.1 (by simp), H1.out.1.kept H2.out.1 (by simp), (HA.out.1.trans H1.out.2.2.2.2 (by simp)).trans H2.out.1 (by simp)⟩⟩
  case round =>
    obtain ⟨is, T, HR⟩ := hrel
    go_wp2_with (at_next; refine wpList_next_map rfl _ rfl w1.heap.size mb es is rfl HR.out.2.2.1 HR.out.2.2.2.2.2.1 ?_ ?_)
    · intro hall
      have hba : Blk wr w.heap.size (hfRow c cl sz p.heldT (.map none) 0 0 (.int .u64 0) (.int .i64 0) (.pointer none)) 103 := by
        rw [← HR.out.2.2.2.1.done H1.out.2.2.1 hall]; exact HR.out.2.2.2.2.1
      have hkr := HR.out.2.2.2.2.2.2
      have hwne : ∀ b : Nat, w.heap.size ≤ b ∧ b ≠ w.heap.size → b ∉ [w.heap.size] := fun b hb => by simpa using hb.2
      have hbp := H.out.2.2.2.2.2.2.2.2.1.kept hkr (by simp)
      have c2 : wr.cell? ⟨bp, 2, none⟩ = some (.bool (p.has 2)) := hp_has hbp 2 (by omega)
      have c31 := hp_hdr hbp
      have htab := gt_all p.hdr B _ d wr (H.out.2.2.2.2.2.2.1.kept hkr (by simp)) H.out.1.hdr H.out.2.1 H.out.2.2.1
      have HL := Lib.hid (And.intro hba (And.intro hkr htab)); have HN := Lib.hid hwne; clear hba hkr hall hbp htab hwne
      go_upto_if 68 with fail
      go_cut [] from 66 (fun wx => ∃ hd, Hid (Blk wx w.heap.size (hfRow c cl sz p.heldT hd 0 0 (.int .u64 0) (.int .i64 0) (.pointer none)) 103 ∧ HdG (fun b => w.heap.size ≤ b ∧ b ≠ w.heap.size) wx p hd ∧ Kept [] w wx))
      case first =>
        cases h2 : p.has 2
        · rw [h2] at c2
          have HH := Lib.hid h2; clear h2
          go_wp2
          go_meet
          case rel => exact ⟨_, Lib.hid ⟨HL.out.1, .inl ⟨HH.out, rfl⟩, HL.out.2.1⟩⟩
        · rw [h2] at c2
          have HH := Lib.hid h2; clear h2
          go_wp2_with (go_at_call 40; refine HL.out.2.2.mono ?_; rintro e w3 ⟨b, es2, rfl, g1, g2, g3, g4⟩; have bf3 := HL.out.1.kept g4 (by simp); have c6 : w3.cell? ⟨w.heap.size, 6, none⟩ = some (.map none) := bf3.cell 6; have f6 := bf3.free 6; have H3 := Lib.hid (And.intro g1 (And.intro g2 (And.intro g3 (And.intro g4 bf3)))); clear g1 g2 g3 g4 bf3)
          go_meet
          case rel =>
            have hks : Kept [w.heap.size] w3 (w3.setCell ⟨w.heap.size, 6, none⟩ (.map (some b))) := (Kept.refl _ w3).setCell (by simp) _
            have hlt := HL.out.1.lt
            have h1 := H3.out.1
            refine ⟨.map (some b), Lib.hid ⟨H3.out.2.2.2.2.setCell 6 _, .inr ⟨HH.out, b, es2, rfl, ⟨by omega, by omega⟩, H3.out.2.1.kept hks (by simp; omega), ?_⟩, (HL.out.2.1.trans H3.out.2.2.2.1 (by simp)).trans hks (fun x hx => .inr (by simp at hx; omega))⟩⟩
            exact GF.kept hks HN.out _ (GF.mono (fun b hb _ => ⟨by omega, by omega⟩) _ H3.out.2.2.1)
      case rest =>
        obtain ⟨hd, HC⟩ := hcut
        rename World => w5
        have hbp := H.out.2.2.2.2.2.2.2.2.1.kept HC.out.2.2 (by simp)
        have c3 : w5.cell? ⟨bp, 3, none⟩ = some (.bool (p.has 3)) := hp_has hbp 3 (by omega)
        have cm := hp_mode hbp
        have c7 : w5.cell? ⟨w.heap.size, 7, none⟩ = some (.int .u8 0) := HC.out.1.cell 7
        have f7 := HC.out.1.free 7
        clear hbp
        go_upto_if 84 with fail
        go_cut [] from 82 (fun wx => ∃ hd, Hid (Blk wx w.heap.size (hfRow c cl sz p.heldT hd p.mode 0 (.int .u64 0) (.int .i64 0) (.pointer none)) 103 ∧ HdG (fun b => w.heap.size ≤ b ∧ b ≠ w.heap.size) wx p hd ∧ Kept [] w wx))
        case first =>
          cases h3 : p.has 3
          · rw [h3] at c3
            have HH := Lib.hid h3; clear h3
            go_wp2
            go_meet
            case rel => exact ⟨hd, Lib.hid ⟨by rw [H.out.2.2.2.1.2.2 HH.out]; exact HC.out.1, HC.out.2⟩⟩
          · rw [h3] at c3
            clear h3
            go_wp2
            go_meet
            case rel =>
              have hks : Kept [w.heap.size] w5 (w5.setCell ⟨w.heap.size, 7, none⟩ (.int .u8 p.mode)) := (Kept.refl _ w5).setCell (by simp) _
              exact ⟨hd, Lib.hid ⟨HC.out.1.setCell 7 _, HC.out.2.1.kept hks HN.out, HC.out.2.2.trans hks (fun x hx => .inr (by simp at hx; omega))⟩⟩
        case rest =>
          clear HC
          obtain ⟨hd, HC⟩ := hcut
          rename World => w6
          have hbp := H.out.2.2.2.2.2.2.2.2.1.kept HC.out.2.2 (by simp)
          have c4 : w6.cell? ⟨bp, 4, none⟩ = some (.bool (p.has 4)) := hp_has hbp 4 (by omega)
          have cp := hp_prio hbp
          have c8 : w6.cell? ⟨w.heap.size, 8, none⟩ = some (.int .u8 0) := HC.out.1.cell 8
          have f8 := HC.out.1.free 8
          clear hbp
          go_upto_if 94 with fail
          go_cut [] from 92 (fun wx => ∃ hd, Hid (Blk wx w.heap.size (hfRow c cl sz p.heldT hd p.mode p.prio (.int .u64 0) (.int .i64 0) (.pointer none)) 103 ∧ HdG (fun b => w.heap.size ≤ b ∧ b ≠ w.heap.size) wx p hd ∧ Kept [] w wx))
          case first =>
            cases h4 : p.has 4
            · rw [h4] at c4
              have HH := Lib.hid h4; clear h4
              go_wp2
              go_meet
              case rel => exact ⟨hd, Lib.hid ⟨by rw [H.out.2.2.2.2.1.2.2 HH.out]; exact HC.out.1, HC.out.2⟩⟩
            · rw [h4] at c4
              clear h4
              go_wp2
              go_meet
              case rel =>
                have hks : Kept [w.heap.size] w6 (w6.setCell ⟨w.heap.size, 8, none⟩ (.int .u8 p.prio)) := (Kept.refl _ w6).setCell (by simp) _
                exact ⟨hd, Lib.hid ⟨HC.out.1.setCell 8 _, HC.out.2.1.kept hks HN.out, HC.out.2.2.trans hks (fun x hx => .inr (by simp at hx; omega))⟩⟩
          case rest =>
            clear HC
            obtain ⟨hd, HC⟩ := hcut
            rename World => w7
            have hbp := H.out.2.2.2.2.2.2.2.2.1.kept HC.out.2.2 (by simp)
            have c9 : w7.cell? ⟨bp, 9, none⟩ = some (.bool (p.has 9)) := hp_has hbp 9 (by omega)
            have ct := hp_time hbp
            have hun := unix_any p.time H.out.2.2.2.2.2.1.1 (by have := H.out.2.2.2.2.2.1.2; omega) w7
            have HU := Lib.hid hun
            clear hbp hun
            go_upto_if 104 with fail
            go_cut [] from 102 (fun wx => ∃ hd, Hid (Blk wx w.heap.size (hfRow c cl sz p.heldT hd p.mode p.prio (.int .u64 0) (.int .i64 p.moment) (.pointer none)) 103 ∧ HdG (fun b => w.heap.size ≤ b ∧ b ≠ w.heap.size) wx p hd ∧ Kept [] w wx))
            case first =>
              cases h9 : p.has 9
              · rw [h9] at c9
                have HH := Lib.hid h9; clear h9
                go_wp2
                go_meet
                case rel => exact ⟨hd, Lib.hid ⟨by rw [show p.moment = 0 by unfold HP.moment; rw [HH.out]; rfl]; exact HC.out.1, HC.out.2⟩⟩
              · rw [h9] at c9
                have HH := Lib.hid h9; clear h9
                go_wp2_with (first
                  | (go_at_call 41; refine HU.out.mono ?_; rintro e w8 ⟨rfl, hk8⟩; have bf8 := HC.out.1.kept hk8 (by simp); have H8 := Lib.hid (And.intro hk8 bf8); clear hk8 bf8)
                  | (refine wpList_store_3 (P := Tryz.prog) rfl rfl 99 (.tmp 111) (.tmp 108) rfl w.heap.size 13 rfl 103 (hfRow c cl sz p.heldT hd p.mode p.prio (.int .u64 0) (.int .i64 0) (.pointer none)).toList H8.out.2 (by show 16 ≤ 20; decide) (.int .u64 0) (.int .i64 (p.time + 62135596800)) (.pointer none) rfl rfl rfl rfl size_time ?_; intro w9 hb9 hk9; have H9 := Lib.hid (And.intro hb9 hk9); clear hb9 hk9))
                go_meet
                case rel => exact ⟨hd, Lib.hid ⟨by rw [show p.moment = p.time + 62135596800 by unfold HP.moment; rw [HH.out]; rfl]; exact H9.out.1, (HC.out.2.1.kept H8.out.1 (by simp)).kept H9.out.2 HN.out, (HC.out.2.2.trans H8.out.1 (by simp)).trans H9.out.2 (fun x hx => .inr (by simp at hx; omega))⟩⟩
            case rest =>
              clear HC
              obtain ⟨hd, HC⟩ := hcut
              go_wp2
              go_ret2
              exact ⟨w.heap.size, hd, rfl, Nat.le_refl _, HC.out.1, HC.out.2.1, HC.out.2.2⟩
    · intro i0 k u w2' hni hei hit2 hk2 hs2 hen
      have hkw2 : Kept [] w w2' := HR.out.2.2.2.2.2.2.trans hk2 (fun x hx => .inr (by have h1 := HA.out.1.size; have h2 := H1.out.2.2.2.2.size; simp at hx; omega))
      obtain ⟨j, hj, hje⟩ := H1.out.2.1 (k, u) (List.mem_of_getElem? hei)
      have hei' : es[i0]? = some (textEnt w.heap.size 4 j) := by rw [hei, hje]
      unfold textEnt at hje
      obtain ⟨rfl, rfl⟩ : k = .int .i64 (keyOf j : Int) ∧ u = .pointer (some ⟨w.heap.size, 4 + offOf j, none⟩) := by
        simp only [Prod.mk.injEq] at hje
        exact hje
      have hk14 := keyOf_lt j hj
      have hbp2 := H.out.2.2.2.2.2.2.2.2.1.kept hkw2 (by simp)
      have ch := hp_has hbp2 (keyOf j) hk14
      have ct := hp_txt hbp2 (keyOf j) hk14
      have hlen1 : w.heap.size ≠ w1.heap.size := by have h1 := HA.out.2.1.lt; have h2 := H1.out.2.2.2.2.size; omega
      have hbf2 := HR.out.2.2.2.2.1.kept hk2 (by simpa using hlen1)
      have cf := hfRow_at hbf2 j hj
      have ff := hbf2.free (4 + offOf j)
      have hmb2 : MapAt w2' mb es := HR.out.2.2.2.2.2.1.kept hk2 (by simp; intro e; have h1 := H1.out.1.lt; omega)
      have HE := Lib.hid (And.intro hni (And.intro hei' (And.intro hj (And.intro hit2 (And.intro hk2 (And.intro hkw2 (And.intro hbf2 hmb2)))))))
      have hk14i : (keyOf j : Int) < 14 := by omega
      have hneg : ¬ (keyOf j : Int) < 0 := by omega
      have hst := HR.out.2.2.2.1.step_has hj hei'
      have hsn := HR.out.2.2.2.1.step_no hj hei'
      have HS := Lib.hid (And.intro hst hsn)
      have hrow := fun t => hfRow_put c cl sz T (.map none) 0 0 (.int .u64 0) (.int .i64 0) (.pointer none) j hj t
      have HP := Lib.hid (And.intro hrow hlen1)
      clear hst hsn hei hei' hje hj hni hit2 hk2 hkw2 hbp2 hbf2 hs2 hmb2 hrow hlen1
      generalize keyOf j = kk at *
      generalize 4 + offOf j = oo at *
      cases hh : p.has kk
      · rw [hh] at ch
        have HH := Lib.hid hh; clear hh
        go_wp2
        have hin := lt_snoc HR.out.2.1 (List.getElem?_eq_some_iff.1 HE.out.2.1).1
        have hnd := nodup_snoc HR.out.1 HE.out.1
        exact ⟨⟨is ++ [i0], T, Lib.hid ⟨hnd, hin, HE.out.2.2.2.1, HS.out.2 HH.out, HE.out.2.2.2.2.2.2.1, HE.out.2.2.2.2.2.2.2, HE.out.2.2.2.2.2.1⟩⟩, round_meas HR.out.2.2.1 HE.out.2.2.2.1 hnd hin⟩
      · rw [hh] at ch
        have HH := Lib.hid hh; clear hh
        go_wp2
        have hin := lt_snoc HR.out.2.1 (List.getElem?_eq_some_iff.1 HE.out.2.1).1
        have hnd := nodup_snoc HR.out.1 HE.out.1
        have hks : Kept [w.heap.size] w2' (w2'.setCell ⟨w.heap.size, oo, none⟩ (.string (bstr (p.txt kk)))) := (Kept.refl _ w2').setCell (by simp) _
        have hit3 := HE.out.2.2.2.1.kept hks (by simpa using Ne.symm HP.out.2)
        have hb3 := HE.out.2.2.2.2.2.2.1.setCell oo (.string (bstr (p.txt kk)))
        rw [HP.out.1] at hb3
        exact ⟨⟨is ++ [i0], _, Lib.hid ⟨hnd, hin, hit3, HS.out.1 HH.out, hb3, HE.out.2.2.2.2.2.2.2.kept hks (by simp; intro e; have h1 := H1.out.2.2.2.1; have h2 := HA.out.2.1.lt; omega), HE.out.2.2.2.2.2.1.trans hks (fun x hx => .inr (by simp at hx; omega))⟩⟩, round_meas HR.out.2.2.1 hit3 hnd hin⟩
end Go.Proofs.YtkcdakohmfodjaaGreat
namespace Go.Proofs.YtkcdakohmfodjaaGreat
open Go.RowKit Go.Sort Go.Shelf
set_option linter.unusedVariables false
set_option linter.unusedSimpArgs false
theorem GF.len {B : Nat → Prop} {w : World} : ∀ (l : List Fld) (es : List (Value × Value)), GF B w es l → es.length = l.length
  | [], es, h => by unfold GF at h; subst h; rfl
  | .mk nm u :: l, es, h => by
    unfold GF at h
    obtain ⟨y, fs, rfl, _, h3⟩ := h
    simp [GF.len l fs h3]
theorem GF.get {B : Nat → Prop} {w : World} : ∀ (l : List Fld) (es : List (Value × Value)), GF B w es l → ∀ (i : Nat) (k u : Value), es[i]? = some (k, u) → ∃ name v, l[i]? = some (.mk name v) ∧ k = .string (bstr name) ∧ GV B w u v
  | [], es, h, i, k, u, hi => by unfold GF at h; subst h; simp at hi
  | .mk nm v :: l, es, h, i, k, u, hi => by
    unfold GF at h
    obtain ⟨y, fs, rfl, h2, h3⟩ := h
    cases i with
    | zero =>
      simp only [List.getElem?_cons_zero, Option.some.injEq, Prod.mk.injEq] at hi
      obtain ⟨rfl, rfl⟩ := hi
      exact ⟨nm, v, rfl, rfl, h2⟩
    | succ i =>
      obtain ⟨name, v', a, c, e⟩ := GF.get l fs h3 i k u (by simpa using hi)
      exact ⟨name, v', by simpa using a, c, e⟩
/-- The names that came, sorted, are the names of the fields. -/
theorem names_sorted (fs : List Fld) (p : Option (List UInt8)) (d : Nat) (hok : OkFs fs p d) (is : List Nat) (h1 : is.Nodup) (h2 : ∀ i ∈ is, i < fs.length) (h3 : ∀ i, i < fs.length → i ∈ is) :
    (is.map (fun i => (fs[i]!).name)).mergeSort (fun x y => decide (x ≤ y)) = fs.map Fld.name := by
  have hp : (is.map (fun i => (fs[i]!).name)).Perm (fs.map Fld.name) := by
    have e : fs.map Fld.name = (List.range fs.length).map (fun i => (fs[i]!).name) := by
      have := range_map fs
      conv => lhs; rw [← this]
      rw [List.map_map]
      rfl
    rw [e]
    exact (range_perm h1 h2 h3).map _
  rw [mergeSort_of_perm hp]
  refine List.mergeSort_of_pairwise ?_
  rw [List.pairwise_map]
  refine (OkFs.pairs fs p d hok).imp fun {a b} h => ?_
  rw [bytesLess_eq] at h
  simp only [decide_eq_true_eq] at h ⊢
  exact List.le_of_lt h
def Tryz.sortStr_ren : Go.Shelf.Ren := ⟨fun | 190 => 216 | 125 => 162 | 258 => 218 | 128 => 174 | 129 => 175 | 302 => 219 | 303 => 220 | 304 => 221 | 305 => 222 | 306 => 223 | 307 => 224 | 308 => 225 | 309 => 226 | 310 => 227 | 333 => 228 | 329 => 179 | 330 => 180 | 334 => 229 | 335 => 230 | 336 => 231 | 344 => 232 | n => n, fun | 31 => 452 | 9 => 9 | 3 => 3 | 46 => 195 | 0 => 0 | 51 => 70 | 53 => 28 | 4 => 4 | 183 => 411 | 182 => 410 | 131 => 415 | 5 => 5 | 218 => 424 | 222 => 134 | 228 => 429 | 229 => 430 | n => n, fun | n => n⟩
theorem Tryz.sortStr : Go.Proofs.Lays.n190 Tryz.prog Tryz.sortStr_ren := {
  mixed := by kernel_rfl
  f125 := Tryz.func162.trans (congrArg some (by kernel_rfl))
  f128 := Tryz.func174.trans (congrArg some (by kernel_rfl))
  f129 := Tryz.func175.trans (congrArg some (by kernel_rfl))
  f190 := Tryz.func216.trans (congrArg some (by kernel_rfl))
  f258 := Tryz.func218.trans (congrArg some (by kernel_rfl))
  f302 := Tryz.func219.trans (congrArg some (by kernel_rfl))
  f303 := Tryz.func220.trans (congrArg some (by kernel_rfl))
  f304 := Tryz.func221.trans (congrArg some (by kernel_rfl))
  f305 := Tryz.func222.trans (congrArg some (by kernel_rfl))
  f306 := Tryz.func223.trans (congrArg some (by kernel_rfl))
  f307 := Tryz.func224.trans (congrArg some (by kernel_rfl))
  f308 := Tryz.func225.trans (congrArg some (by kernel_rfl))
  f309 := Tryz.func226.trans (congrArg some (by kernel_rfl))
  f310 := Tryz.func227.trans (congrArg some (by kernel_rfl))
  f329 := Tryz.func179.trans (congrArg some (by kernel_rfl))
  f330 := Tryz.func180.trans (congrArg some (by kernel_rfl))
  f333 := Tryz.func228.trans (congrArg some (by kernel_rfl))
  f334 := Tryz.func229.trans (congrArg some (by kernel_rfl))
  f335 := Tryz.func230.trans (congrArg some (by kernel_rfl))
  f336 := Tryz.func231.trans (congrArg some (by kernel_rfl))
  f344 := Tryz.func232.trans (congrArg some (by kernel_rfl))
  t0 := Tryz.underlying0
  a0 := Tryz.isAgg0
  z0 := Tryz.sizeOf0
  v0 := Tryz.zeroValue0
  t3 := Tryz.underlying3
  a3 := Tryz.isAgg3
  z3 := Tryz.sizeOf3
  v3 := Tryz.zeroValue3
  t4 := Tryz.underlying4
  a4 := Tryz.isAgg4
  z4 := Tryz.sizeOf4
  v4 := Tryz.zeroValue4
  t5 := Tryz.underlying5
  a5 := Tryz.isAgg5
  z5 := Tryz.sizeOf5
  v5 := Tryz.zeroValue5
  t9 := Tryz.underlying9
  a9 := Tryz.isAgg9
  z9 := Tryz.sizeOf9
  v9 := Tryz.zeroValue9
  t31 := Tryz.underlying452
  a31 := Tryz.isAgg452
  z31 := Tryz.sizeOf452
  v31 := Tryz.zeroValue452
  t46 := Tryz.underlying195
  a46 := Tryz.isAgg195
  z46 := Tryz.sizeOf195
  v46 := Tryz.zeroValue195
  t51 := Tryz.underlying70
  a51 := Tryz.isAgg70
  z51 := Tryz.sizeOf70
  v51 := Tryz.zeroValue70
  t53 := Tryz.underlying28
  a53 := Tryz.isAgg28
  z53 := Tryz.sizeOf28
  v53 := Tryz.zeroValue28
  t131 := Tryz.underlying415
  a131 := Tryz.isAgg415
  z131 := Tryz.sizeOf415
  v131 := Tryz.zeroValue415
  t182 := Tryz.underlying410
  a182 := Tryz.isAgg410
  z182 := Tryz.sizeOf410
  v182 := Tryz.zeroValue410
  t183 := Tryz.underlying411
  a183 := Tryz.isAgg411
  z183 := Tryz.sizeOf411
  v183 := Tryz.zeroValue411
  t218 := Tryz.underlying424
  a218 := Tryz.isAgg424
  z218 := Tryz.sizeOf424
  v218 := Tryz.zeroValue424
  t222 := Tryz.underlying134
  a222 := Tryz.isAgg134
  z222 := Tryz.sizeOf134
  v222 := Tryz.zeroValue134
  t228 := Tryz.underlying429
  a228 := Tryz.isAgg429
  z228 := Tryz.sizeOf429
  v228 := Tryz.zeroValue429
  t229 := Tryz.underlying430
  a229 := Tryz.isAgg430
  z229 := Tryz.sizeOf430
  v229 := Tryz.zeroValue430 }
theorem ownIStr : (Tryz.prog.info? 9).map (fun i => (i.zero.map (·.cells.size), i.size, i.bytes)) = some (some 1, 1, 16) := by kernel_rfl
theorem ownsRow_keptB {S : List Nat} {w w' : World} {B : Nat} {e : TypeId} {size : Nat} {v : Value} {n : Nat} {xs : List Value} (h : w.ownsRow B e size v n xs) (hk : Kept S w w') (hn : ∀ b, v.ownBlock = some b → b ∉ S) : w'.ownsRow B e size v n xs := by
  refine ⟨h.1, ?_⟩
  rcases h.2 with h2 | ⟨g, cap, cur, rfl, h3, h4, h5⟩
  · exact .inl h2
  · exact .inr ⟨g, cap, cur, rfl, h3, hk.heap h4 (hn g rfl), h5⟩
set_option maxHeartbeats 1000000 in
set_option maxRecDepth 100000 in
theorem names_any (fs : List Fld) (p : Option (List UInt8)) (d : Nat) (B : Nat → Prop) (w : World) (b : Nat) (es : List (Value × Value)) (hok : OkFs fs p d) (hcost : costFs fs ≤ 2000) (hm : MapAt w b es) (hpf : GF B w es fs) :
    Calls Tryz.prog 212 #[.map (some b)] w fun e w' => ∃ v, e = .returned v ∧ w'.ownsRow 0 9 1 v fs.length (fs.map fun f => .string (bstr f.name)) ∧ (∀ g, v.ownBlock = some g → w.heap.size ≤ g) ∧ Kept [] w w' := by
  obtain ⟨n, hn⟩ : ∃ n, n = es.length := ⟨_, rfl⟩
  have hlen : es.length = fs.length := GF.len fs es hpf
  have hn2 : n ≤ 2000 := by have := costFs_len fs; omega
  obtain ⟨i, z, i1, i2, i3, i4, i5⟩ := info_own ownIStr
  have HI := Lib.hid (And.intro i1 (And.intro i2 (And.intro i3 (And.intro i4 i5)))); clear i1 i2 i3 i4 i5
  have H := Lib.hid (And.intro hok (And.intro hm (And.intro hpf (And.intro hn hlen))))
  clear hcost hok hm hpf hn hlen
  go_enter Tryz.func212, Tryz.ntmps212
  go_wp2_with (at_range; refine wpList_range_map rfl _ 96 rfl 9 20 Tryz.underlying96 b es rfl H.out.2.1 ?_; intro w1 hw1; have hk1 : Kept [] w w1 := by { rw [hw1]; exact (Kept.refl [] w).alloc _ }; have hi1 : ItAt w1 w.heap.size b n [] := by { rw [hw1, H.out.2.2.2.1]; exact heap_alloc_new w _ }; have hz1 : w1.heap.size = w.heap.size + 1 := by { rw [hw1]; simp }; have H1 := Lib.hid (And.intro hk1 (And.intro hi1 hz1)); clear hk1 hi1 hz1 hw1)
  go_frame
  go_loopw [3] (fun out W => ∃ (is : List Nat), Hid (is.Nodup ∧ (∀ i ∈ is, i < n) ∧ ItAt W w.heap.size b n is ∧
    W.ownsRow 0 9 1 out is.length (is.map fun i => .string (bstr (fs[i]!).name)) ∧ (∀ g, out.ownBlock = some g → w.heap.size + 1 ≤ g) ∧ Kept [] w W)) (fun _ W => n - (W.iterSeen w.heap.size).size)
  case atStart => exact ⟨[], Lib.hid ⟨List.nodup_nil, by simp, H1.out.2.1, World.ownsRow_nil _ _ _ _, fun g hg => by simp [Value.ownBlock] at hg, H1.out.1⟩⟩
  case round =>
    obtain ⟨is, HR⟩ := hrel
    have hl2 : is.length ≤ 2000 := by have := nodup_len n is HR.out.1 HR.out.2.1; omega
    obtain ⟨ao, oc, rfl, hoc, hoo⟩ := own_slice HR.out.2.2.2.1
    have hgb : ∀ g, Value.ownBlock (.slice ao is.length oc) = some g → w.heap.size + 1 ≤ g := HR.out.2.2.2.2.1
    have HG := Lib.hid hgb; clear hgb
    have hmr : MapAt wr b es := H.out.2.1.kept HR.out.2.2.2.2.2 (by simp)
    have hit : ItAt wr w.heap.size b es.length is := by have := HR.out.2.2.1; rwa [H.out.2.2.2.1] at this
    have HT := Lib.hid (And.intro hit (And.intro hmr (And.intro hoc hoo))); clear hit hmr hoc hoo
    go_wp2_with (at_next; refine wpList_next_map rfl _ rfl w.heap.size b es is rfl HT.out.1 HT.out.2.1 ?_ ?_)
    · intro hall
      have hns := names_sorted fs p d H.out.1 is HR.out.1 (fun j hj => by have := HR.out.2.1 j hj; rw [H.out.2.2.2.1, H.out.2.2.2.2] at this; exact this) (fun j hj => hall j (by rw [H.out.2.2.2.2]; exact hj))
      have hisl : is.length = fs.length := by have := congrArg List.length hns; simpa using this
      have hmap : (is.map fun i => Value.string (bstr (fs[i]!).name)) = (is.map (fun i => (fs[i]!).name)).map encStr := by rw [List.map_map]; rfl
      have hmap2 : (fs.map fun f => Value.string (bstr f.name)) = (fs.map Fld.name).map encStr := by rw [List.map_map]; rfl
      have HN := Lib.hid (And.intro hns (And.intro hisl (And.intro hmap hmap2))); clear hns hmap hmap2 hall
      rcases HT.out.2.2.2 with ⟨h0, rfl, rfl, hob⟩ | ⟨g, rfl, hg, hcell⟩
      · have hsn : Calls Tryz.prog 216 #[.slice none 0 0] wr fun e w' => e = .returned (.tuple #[]) ∧ w' = wr := Any.slices_Sort_string_none Tryz.sortStr none 0 wr
        have HS := Lib.hid (And.intro hsn h0); clear hsn h0 hob hisl
        have h0' : is.length = 0 := HS.out.2
        rw [h0']
        clear h0'
        go_wp2_with (go_at_call 216; refine HS.out.1.mono ?_; rintro e w5 ⟨rfl, rfl⟩)
        go_ret
        have hfs : fs = [] := List.eq_nil_of_length_eq_zero (by have := HN.out.2.1; have := HS.out.2; omega)
        rw [hfs]
        exact ⟨_, rfl, World.ownsRow_nil _ _ _ _, fun g hg => by simp [Value.ownBlock] at hg, HR.out.2.2.2.2.2⟩
      · have hrow := HR.out.2.2.2.1
        rw [HN.out.2.2.1] at hrow
        rcases hrow.2 with ⟨h2, _⟩ | ⟨g2, cap, cur, h2, h3, h4, h5, h6, h7, h8⟩
        · cases h2
        · obtain ⟨rfl, rfl⟩ : g2 = g ∧ cap = oc := by cases h2; exact ⟨rfl, rfl⟩
          have hcon : Calls Tryz.prog 216 #[.slice (some ⟨g2, 0, none⟩) is.length cap] wr fun e w' => e = .returned (.tuple #[]) ∧ ∃ n os, w' = grow (putRow encStr (Sort.ahead wr n) g2 0 (fs.map Fld.name).toArray) os := by
            have hc := Any.slices_Sort_string Tryz.sortStr g2 0 cap (is.map (fun i => (fs[i]!).name)) wr (holds_of_block h4 (by simpa using h8)) (Array.getElem?_eq_some_iff.1 h4).1 (by simp; omega)
            rw [List.length_map, HN.out.1] at hc
            exact hc
          have hgb2 := HG.out g2 rfl
          have hfin : ∀ n os, (grow (putRow encStr (Sort.ahead wr n) g2 0 (fs.map Fld.name).toArray) os).ownsRow 0 9 1 (.slice (some ⟨g2, 0, none⟩) is.length cap) is.length (fs.map fun f => .string (bstr f.name)) ∧ Kept [] w (grow (putRow encStr (Sort.ahead wr n) g2 0 (fs.map Fld.name).toArray) os) := fun n os => by
            refine ⟨?_, HR.out.2.2.2.2.2.grown (grownBy_sorted _) (fun k hk => .inr (by cases hk; omega))⟩
            rw [HN.out.2.2.2]
            have := ownsRow_sorted (w := wr) (base := 0) (n := n) (os := os) (ss := is.map (fun i => (fs[i]!).name)) (ts := fs.map Fld.name) (by simp [hisl]) (Nat.zero_le g2) h4 (by simpa using h5) h6 h7
            simpa using this
          have HF := Lib.hid (And.intro hcon (And.intro hfin hgb2))
          clear hcon hfin hgb2 hrow hg hcell h2 h3 h4 h5 h6 h7 h8 hisl
          go_wp2_with (go_at_call 216; refine HF.out.1.mono ?_; rintro e w5 ⟨rfl, n5, os5, hw5⟩; have H5 := Lib.hid hw5; clear hw5)
          go_ret
          rw [H5.out, ← HN.out.2.1]
          exact ⟨_, rfl, (HF.out.2.1 n5 os5).1, fun g hg => by have h1 : g2 = g := (by cases hg; rfl); have := HF.out.2.2; omega, (HF.out.2.1 n5 os5).2⟩
    · intro i0 k u w2 hni hei hit2 hk2 hs2 hen
      obtain ⟨name, v, hfv, rfl, hpv⟩ := GF.get fs es H.out.2.2.1 i0 k u hei
      have hkX : Kept [w.heap.size] wr (w2.alloc (.cells #[.string (bstr name)] 9)) := hk2.alloc _
      have hkB : Kept [] w2 (w2.alloc (.cells #[.string (bstr name)] 9)) := (Kept.refl [] w2).alloc _
      have hownX : (w2.alloc (.cells #[.string (bstr name)] 9)).ownsRow 0 9 1 (.slice ao is.length oc) is.length (is.map fun i => .string (bstr (fs[i]!).name)) := ownsRow_keptB HR.out.2.2.2.1 hkX (fun g hg => by have := HG.out g hg; simp; omega)
      have hit3 : ItAt w2 w.heap.size b n (is ++ [i0]) := by rwa [← H.out.2.2.2.1] at hit2
      have HE := Lib.hid (And.intro hni (And.intro hfv (And.intro (hit3.kept hkB (by simp)) (And.intro hkX (And.intro hownX hei))))); clear hni hfv hit2 hit3 hk2 hs2 hei hpv hkX hkB hownX
      go_wp2_with (at_builtin; refine wpList_append2 _ rfl _ _ 452 452 rfl 9 9 Tryz.underlying452 i z 1 16 Tryz.underlying452 HI.out.1 HI.out.2.1 HI.out.2.2.1 HI.out.2.2.2.1 HI.out.2.2.2.2 (by decide) (.slice ao is.length oc) is.length _ rfl HE.out.2.2.2.2.1 ⟨w2.heap.size, 0, none⟩ 1 1 [.string (bstr name)] rfl rfl (cells_new w2 _ _) (by intro u hu; rcases List.mem_cons.1 hu with rfl | hu; rfl; cases hu) (by omega) (by omega) ?_; intro v' w8 g1 g2 g3; have H8 := Lib.hid (And.intro g1 (And.intro g2 g3)); clear g1 g2 g3)
      have hin := lt_snoc HR.out.2.1 (by rw [H.out.2.2.2.1]; exact (List.getElem?_eq_some_iff.1 HE.out.2.2.2.2.2).1)
      have hnd := nodup_snoc HR.out.1 HE.out.1
      have hk8 : Kept (Value.ownBlock (.slice ao is.length oc)).toList (w2.alloc (.cells #[.string (bstr name)] 9)) w8 := (Kept.refl _ _).grown H8.out.2.1 (fun k hk => .inl (by simp [hk]))
      have hgr : w.heap.size ∉ (Value.ownBlock (.slice ao is.length oc)).toList := fun hm => by have := HG.out _ (by simpa using hm); omega
      have hit8 := HE.out.2.2.1.kept hk8 hgr
      have hszr := HR.out.2.2.2.2.2.size
      have hszX := HE.out.2.2.2.1.size
      have hitl := HT.out.1.lt
      have hi : (fs[i0]!).name = name := by
        have := HE.out.2.1
        rw [getElem!_pos fs i0 (List.getElem?_eq_some_iff.1 this).1, (List.getElem?_eq_some_iff.1 this).2]
        rfl
      refine ⟨⟨is ++ [i0], Lib.hid ⟨hnd, hin, hit8, ?_, fun g hg => ?_, ?_⟩⟩, round_meas (by have := HT.out.1; rwa [← H.out.2.2.2.1] at this) hit8 hnd hin⟩
      · have := H8.out.1
        rw [List.map_append, List.length_append, List.map_cons, List.map_nil, hi]
        exact this
      · rcases H8.out.2.2 with e | e
        · exact HG.out g (by rw [← e]; exact hg)
        · rw [e] at hg; cases hg; omega
      · exact (HR.out.2.2.2.2.2.trans HE.out.2.2.2.1 (fun x hx => .inr (by simp at hx; omega))).trans hk8 (fun x hx => .inr (by have := HG.out x (by simpa using hx); omega))
end Go.Proofs.YtkcdakohmfodjaaGreat
