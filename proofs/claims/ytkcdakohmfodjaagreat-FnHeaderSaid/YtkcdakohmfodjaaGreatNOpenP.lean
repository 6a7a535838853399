/-
  Lemmas on the way to the statement of YtkcdakohmfodjaaGreatHeader, joined out of these texts: OpenP, FrBody. No condition.
-/
import Derived.OpenShut
import Derived.Test.YtkcdakohmfodjaaGreatNFrmOk
import Derived.Test.YtkcdakohmfodjaaGreatNHpW
import Derived.Test.YtkcdakohmfodjaaGreatNRstr
import Derived.Test.YtkcdakohmfodjaaGreatNTexts
namespace Go.Proofs.YtkcdakohmfodjaaGreat
open Go.RowKit
set_option linter.unusedVariables false
set_option linter.unusedSimpArgs false
section
variable {H : Type} {enc : TypeId × Value → H} {w : World}
theorem cells_bool : Tryz.prog.cellsOf 4 = 1 := by kernel_rfl
theorem cells_14b : Tryz.prog.cellsOf 29 = 14 := by kernel_rfl
theorem cells_14s : Tryz.prog.cellsOf 30 = 14 := by kernel_rfl
theorem cells_iP : Tryz.prog.cellsOf 33 = 32 := by kernel_rfl
theorem take_one (cs : List Value) (i : Nat) (v : Value) (h : (cs.drop i).take 1 = [v]) : cs[i]? = some v := by
  have h0 : ((cs.drop i).take 1)[0]? = some v := by rw [h]; rfl
  rw [List.getElem?_take_of_lt (by omega), List.getElem?_drop, Nat.add_zero] at h0
  exact h0
theorem open_bools (m : Nat) (cs : List Value) (x : DataW H × List MemPlace) (h : DataW.trod enc Tryz.prog w 0 (fun _ => true) true m 29 cs = some x) : ∃ f : Nat → Bool, ∀ i, i < 14 → cs[i]? = some (.bool (f i)) := by
  obtain ⟨xs, k, _, _, hl, hn, he⟩ := DataW.trod_array Tryz.underlying29 h
  have hex : ∀ i, i < 14 → ∃ b, cs[i]? = some (.bool b) := fun i hi => by
    obtain ⟨y, hy⟩ : ∃ y, xs[i]? = some y := ⟨_, List.getElem?_eq_getElem (by omega)⟩
    have h1 := he i hi
    rw [hy, cells_bool, Nat.mul_one] at h1
    obtain ⟨b, e, _⟩ := DataW.trod_bool Tryz.underlying4 h1
    exact ⟨b, take_one cs i _ e⟩
  refine ⟨fun i => if hi : i < 14 then (hex i hi).choose else false, fun i hi => ?_⟩
  simp only [hi, dif_pos]
  exact (hex i hi).choose_spec
theorem open_texts (m : Nat) (cs : List Value) (x : DataW H × List MemPlace) (h : DataW.trod enc Tryz.prog w 0 (fun _ => true) true m 30 cs = some x) (hw : ∀ k ∈ x.1.weights Tryz.prog 30, k ≤ reachBytes) :
    ∃ f : Nat → List UInt8, ∀ i, i < 14 → cs[i]? = some (.string (bstr (f i))) ∧ (f i).length ≤ 140737488355328 := by
  obtain ⟨xs, k, _, rfl, hl, hn, he⟩ := DataW.trod_array Tryz.underlying30 h
  have hex : ∀ i, i < 14 → ∃ t : List UInt8, cs[i]? = some (.string (bstr t)) ∧ t.length ≤ 140737488355328 := fun i hi => by
    obtain ⟨y, hy⟩ : ∃ y, xs[i]? = some y := ⟨_, List.getElem?_eq_getElem (by omega)⟩
    have h1 := he i hi
    rw [hy, cells_str, Nat.mul_one] at h1
    obtain ⟨s, e, g, _⟩ := DataW.trod_string Tryz.underlying9 h1
    refine ⟨s.data.toList, ?_, ?_⟩
    · rw [← bstr_self s]; exact take_one cs i _ e
    · refine reach_le (hw _ ?_)
      unfold DataW.weights
      rw [Tryz.underlying30]
      refine mem_weightsAll _ y.1 (List.mem_map.2 ⟨y, List.mem_of_getElem? hy, rfl⟩) ?_
      rw [g]
      simp [DataW.weights]
  refine ⟨fun i => if hi : i < 14 then (hex i hi).choose else [], fun i hi => ?_⟩
  simp only [hi, dif_pos]
  exact (hex i hi).choose_spec
set_option maxRecDepth 100000 in
/-- Properties that came in. -/
theorem open_props (v : Value) (d : DataW H) (p : List MemPlace) (h : DataW.Trod enc Tryz.prog w 0 (fun _ => true) true 33 v d p) (hv : ∃ cs, v = .agg cs ∧ cs.size = Tryz.prog.cellsOf 33) (hw : ∀ k ∈ d.weights Tryz.prog 33, k ≤ reachBytes) :
    ∃ (q : HP) (hv : Value), v = .agg (hpC q hv).toArray ∧ FSl (There w) w hv q.hdr ∧ WfP q := by
  obtain ⟨cs, rfl, hcs⟩ := hv
  rw [cells_iP] at hcs
  obtain ⟨fuel, h⟩ := h
  obtain ⟨xs, m, _, hd, hl, hlen, hf⟩ := DataW.trod_struct Tryz.underlying33 h
  match xs, hlen with
  | [x0, x1, x2, x3, x4, x5], _ =>
    obtain ⟨l⟩ := cs
    have hl' : l.length = 32 := hcs
    have h0 : DataW.trod enc Tryz.prog w 0 (fun _ => true) true m 29 (List.take (Tryz.prog.cellsOf 29) (List.drop 0 l)) = some x0 := hf 0 _ rfl
    have h1 : DataW.trod enc Tryz.prog w 0 (fun _ => true) true m 30 (List.take (Tryz.prog.cellsOf 30) (List.drop 14 l)) = some x1 := hf 1 _ rfl
    have h2 : DataW.trod enc Tryz.prog w 0 (fun _ => true) true m 3 (List.take (Tryz.prog.cellsOf 3) (List.drop 28 l)) = some x2 := hf 2 _ rfl
    have h3 : DataW.trod enc Tryz.prog w 0 (fun _ => true) true m 3 (List.take (Tryz.prog.cellsOf 3) (List.drop 29 l)) = some x3 := hf 3 _ rfl
    have h4 : DataW.trod enc Tryz.prog w 0 (fun _ => true) true m 2 (List.take (Tryz.prog.cellsOf 2) (List.drop 30 l)) = some x4 := hf 4 _ rfl
    have h5 : DataW.trod enc Tryz.prog w 0 (fun _ => true) true m 31 (List.take (Tryz.prog.cellsOf 31) (List.drop 31 l)) = some x5 := hf 5 _ rfl
    rw [cells_14b] at h0
    rw [cells_14s] at h1
    rw [cells_int] at h2 h3
    rw [cells_i64] at h4
    rw [cells_sF] at h5
    have hd' : d = DataW.agg [x0.1, x1.1, x2.1, x3.1, x4.1, x5.1] := congrArg Prod.fst hd
    have hwt : ∀ k ∈ x1.1.weights Tryz.prog 30 ++ x5.1.weights Tryz.prog 31, k ≤ reachBytes := by
      intro k hk
      refine hw k ?_
      rw [hd']
      unfold DataW.weights
      rw [Tryz.underlying33]
      simp only [DataW.weightsEach, List.map_cons, List.map_nil, List.append_nil]
      simp only [List.mem_append] at hk ⊢
      rcases hk with hk | hk <;> simp [hk]
    obtain ⟨fb, b1⟩ := open_bools m _ x0 h0
    obtain ⟨ft, t1⟩ := open_texts m _ x1 h1 (fun k hk => hwt k (by simp [hk]))
    obtain ⟨mo, e2, _, w2⟩ := DataW.trod_int Tryz.underlying3 h2
    obtain ⟨pr, e3, _, w3⟩ := DataW.trod_int Tryz.underlying3 h3
    obtain ⟨ti, e4, _, w4⟩ := DataW.trod_int Tryz.underlying2 h4
    obtain ⟨hv, flds, e5, f1, f2, f3⟩ := open_fslice m (fun j hj => open_value j) _ x5 h5 (fun k hk => hwt k (by simp [hk]))
    refine ⟨⟨fb, ft, mo, pr, ti, flds⟩, hv, ?_, f1, ⟨fun i hi => (t1 i hi).2, f2, f3, i64_of mo w2, i64_of pr w3, i64_of ti w4⟩⟩
    congr 2
    apply List.ext_getElem?
    intro i
    have q2 := take_one l 28 _ e2; have q3 := take_one l 29 _ e3; have q4 := take_one l 30 _ e4; have q5 := take_one l 31 _ e5
    by_cases hi : i < 14
    · have := b1 i hi
      rw [List.getElem?_take_of_lt hi, List.getElem?_drop, Nat.zero_add] at this
      rw [this]
      exact (hpB_get ⟨fb, ft, mo, pr, ti, flds⟩ hv i _ (hpB_at _ i hi)).symm
    by_cases hi2 : i < 28
    · have := (t1 (i - 14) (by omega)).1
      rw [List.getElem?_take_of_lt (by omega), List.getElem?_drop, show 14 + (i - 14) = i by omega] at this
      rw [this]
      have h9 := hpT_get ⟨fb, ft, mo, pr, ti, flds⟩ hv (i - 14) _ (hpT_at _ (i - 14) (by omega))
      rw [show 14 + (i - 14) = i by omega] at h9
      exact h9.symm
    by_cases h28 : i = 28
    · subst h28; rw [q2]; rfl
    by_cases h29 : i = 29
    · subst h29; rw [q3]; rfl
    by_cases h30 : i = 30
    · subst h30; rw [q4]; rfl
    by_cases h31 : i = 31
    · subst h31; rw [q5]; rfl
    · rw [List.getElem?_eq_none (by omega), List.getElem?_eq_none (by rw [hpC_len]; omega)]
end
theorem ta_head_meth (a : Addr) (w : World) : (Instr.typeAssert (.iface 94 (.pointer (some a))) 65 124 true).run Tryz.prog w = .ok (.tuple #[.pointer none, .bool false]) w := by kernel_rfl
theorem ta_head_head (a : Addr) (w : World) : (Instr.typeAssert (.iface 94 (.pointer (some a))) 65 94 true).run Tryz.prog w = .ok (.tuple #[.pointer (some a), .bool true]) w := by kernel_rfl
theorem build_frame1 (v : Int) (w : World) : (Instr.build 35 #[(1, .int .i64 v)]).run Tryz.prog w = .ok (.agg (frame0.set 1 (.int .i64 v)).toArray) w := by kernel_rfl
theorem frame1_one (ch : Nat) : ∀ u ∈ frame0.set 1 (.int .i64 (ch : Int)), u.oneCell' = true := by
  intro u hu
  rcases List.mem_or_eq_of_mem_set hu with h | h
  · exact frame0_one u h
  · subst h; rfl
theorem results_frame {tmps : Array Value} {f : Nat} {cs : Array Value} {b : Bool} {w : World} (h1 : tmps.getD 2 undef = .pointer (some ⟨f, 0, none⟩)) (h2 : tmps.getD 3 undef = .bool b) (hf : Blk w f cs 35)
    (hs : (Tryz.prog.info? 35).map (·.size) = some cs.size) :
    (results Tryz.f25 tmps).run Tryz.prog w = .ok (.tuple #[.agg cs, .bool b]) w := by
  have hl := run_loadVar_row (P := Tryz.prog) w f 35 35 cs (0, 0) _ hf Tryz.underlying35 rfl hs
  simp only [Array.getD_eq_getD_getElem?] at h1 h2
  simp [results, Tryz.results25, h1, h2, asAddr, hl]
end Go.Proofs.YtkcdakohmfodjaaGreat
