/-
  A frame as data: bodies.
-/
import Derived.Test.YtkcdakohmfodjaaGreatFrBody
namespace Go.Proofs.YtkcdakohmfodjaaGreat
open Go.RowKit
set_option linter.unusedVariables false
set_option linter.unusedSimpArgs false

theorem body_length (ch : Nat) (s : Value) : (bodyCells ch s).length = 40 := rfl

theorem body_one (ch : Nat) (s : Value) (hs : s.oneCell' = true) : ∀ u ∈ bodyCells ch s, u.oneCell' = true := by
  intro u hu
  rcases List.mem_or_eq_of_mem_set hu with h | h
  · rcases List.mem_or_eq_of_mem_set h with h | h
    · rcases List.mem_or_eq_of_mem_set h with h | h
      · exact frame0_one u h
      · subst h; rfl
    · subst h; rfl
  · subst h; exact hs

set_option maxHeartbeats 1000000 in
set_option maxRecDepth 100000 in
theorem frame_body0 (p ch d : Nat) (s : Value) (m : List UInt8) (n : Nat) (hmn : m.length = n) (w : World) (hch : ch ≤ 65535) (hp : Blk w p #[.int .u16 (ch : Int), s] 87) (hs : Src w s d m) (hsl : ∃ ao c, s = .slice ao n c) (hml : n ≤ 1000000)
    (F0 F1 : List Value) (F2 : Value → List Value)
    (k0 : ∀ w : World, (Instr.alloc 35 true (.tuple #[])).run Tryz.prog w = .ok (.pointer (some ⟨w.heap.size, 0, none⟩)) (w.alloc (.cells F0.toArray 35)))
    (k1 : ∀ w, (Instr.build 35 #[(1, .int .i64 (ch : Int))]).run Tryz.prog w = .ok (.agg F1.toArray) w) (l0 : F0.length = 40) (l1 : F1.length = 40) (o1 : ∀ u ∈ F1, u.oneCell' = true)
    (z1 : F1.toArray[0]? = some (.int .i64 0)) (z2 : F1.toArray[39]? = some (.slice none 0 0)) (k2 : ∀ s, (F1.set 0 (.int .i64 3)).set 39 s = F2 s) (o2 : ∀ s, s.oneCell' = true → ∀ u ∈ F2 s, u.oneCell' = true) :
    Calls Tryz.prog 25 #[.iface 85 (.pointer (some ⟨p, 0, none⟩))] w fun e w' => ∃ g c, e = .returned (.tuple #[.agg (F2 (.slice (some ⟨g, 0, none⟩) n c)).toArray, .bool true]) ∧ Row w' (.slice (some ⟨g, 0, none⟩) n c) g m ∧ w.heap.size ≤ g ∧ Kept [] w w' := by
  have e2 : IntKind.i64.wrap (ch : Int) = ch := by rw [IntKind.wrap_i64]; omega
  have l2 : ∀ s, (F2 s).length = 40 := fun s => by rw [← k2 s, List.length_set, List.length_set, l1]
  have s1 : (Tryz.prog.info? 35).map (·.size) = some F1.length := by rw [l1]; exact frame_size
  have s2 : ∀ s, (Tryz.prog.info? 35).map (·.size) = some (F2 s).length := fun s => by rw [l2]; exact frame_size
  have s3 : ∀ s, (Tryz.prog.info? 35).map (·.size) = some (F2 s).toArray.size := s2
  have m1 : F1.length = F0.length := by rw [l1, l0]
  have m2 : ∀ s, (F2 s).length = F0.length := fun s => by rw [l2, l0]
  obtain ⟨ao, c, rfl⟩ := hsl
  have hb0 : n ≤ 140737488355328 := by omega
  have t1 := ta_body_meth; have t2 := ta_body_head; have t3 := ta_body_body; have t4 := ta_body_beat
  have HP := Lib.hid hp; have HS := Lib.hid hs; have HMN := Lib.hid hmn; have K0 := Lib.hid k0; have K1 := Lib.hid k1; have O1 := Lib.hid o1; have O2 := Lib.hid o2; have Z1 := Lib.hid z1; have Z2 := Lib.hid z2; have K2 := Lib.hid k2; have M1 := Lib.hid m1; have M2 := Lib.hid m2; have S1 := Lib.hid s1; have S2 := Lib.hid s2; have S3 := Lib.hid s3
  clear hp hs hmn k0 k1 l0 l1 l2 o1 o2 z1 z2 k2 m1 m2 s1 s2 s3 hml
  go_enter Tryz.func25, Tryz.ntmps25
  go_wp2_with (first
    | (refine wpList_alloc rfl 2 rfl 35 rfl F0.toArray (K0.out _) ?_; intro w1 h1 h2 h3; have H1 := Lib.hid (And.intro h1 (And.intro h2 h3)); clear h1 h2 h3)
    | (refine wpList_alloc rfl 4 rfl 35 rfl F0.toArray (K0.out _) ?_; intro w2 h1 h2 h3; have H2 := Lib.hid (And.intro h1 (And.intro h2 h3)); clear h1 h2 h3)
    | (go_at_call 45; refine (channel_body p ch _ (H1.out.2.1.cell (HP.out.cell 0) (by simp))).mono ?_; rintro e w2 ⟨rfl, rfl⟩)
    | (refine wpList_build rfl 35 #[(1, .tmp 13)] rfl #[(1, .int .i64 (ch : Int))] (by simp [Act.eval]) _ (K1.out _) ?_)
    | (refine wpList_store_row (P := Tryz.prog) rfl rfl 35 (.tmp 4) (.tmp 14) rfl w1.heap.size rfl 35 F0 F1 H2.out.1 rfl M1.out O1.out S1.out ?_; intro w3 g1 g2; have k3 : Kept [] w w3 := (H1.out.2.1.trans H2.out.2.1 (S := []) (S' := []) (by simp)).trans g2 (S' := [w1.heap.size]) (fun x hx => .inr (by have := H1.out.2.2; simp at hx; omega)); have p1 : (w3.alloc (.cells #[] 5)).cell? ⟨p, 1, none⟩ = some (.slice ao n c) := (k3.alloc (.cells #[] 5)).cell (HP.out.cell 1) (by simp); have HG := Lib.hid (And.intro g1 g2); have HK3 := Lib.hid k3; have HE := Lib.hid ((Kept.refl [] w3).alloc (.cells #[] 5)); clear g1 g2 k3)
    | (refine wpList_append_to rfl (.tmp 56) (.tmp 60) 22 22 rfl Tryz.underlying22 Tryz.underlying22 _ _ [] m 0 n n (Nat.zero_add _) rfl HMN.out w3.heap.size 0 rfl rfl rfl (empty_row w3) d ((HS.out.kept HK3.out (by simp)).kept HE.out (by simp)) hb0 [] w3 HE.out (Nat.le_refl _) ?_; intro g c4 w4 r1 r2 r3; have b4 := HG.out.1.kept r2 (by simp); have q0 : w4.cell? ⟨w1.heap.size, 0, none⟩ = some (.int .i64 0) := (b4.cell 0).trans Z1.out; have f0 := b4.free 0; have q39 : w4.cell? ⟨w1.heap.size, 39, none⟩ = some (.slice none 0 0) := (b4.cell 39).trans Z2.out; have f39 := b4.free 39; have HR := Lib.hid (And.intro r1 (And.intro r2 (And.intro r3 b4))); clear r1 r2 r3 b4)
    | (refine wpList_load_row (P := Tryz.prog) rfl 35 (.tmp 4) rfl w1.heap.size rfl 35 (F2 (.slice (some ⟨g, 0, none⟩) n c4)).toArray (by have := (HR.out.2.2.2.setCell_list 0 (.int .i64 3)).setCell_list 39 (.slice (some ⟨g, 0, none⟩) n c4); rw [K2.out] at this; exact this) _ Tryz.underlying35 rfl (S3.out _) ?_)
    | (refine wpList_store_row (P := Tryz.prog) rfl rfl 35 (.tmp 2) (.tmp 68) rfl w.heap.size rfl 35 F0 (F2 (.slice (some ⟨g, 0, none⟩) n c4)) (((((H1.out.1.kept H2.out.2.1 (by simp)).kept HG.out.2 (nin1 (by have := H1.out.2.2; omega))).kept HR.out.2.1 (by simp)).setCell_other (by simp only []; have := H1.out.2.2; omega) _).setCell_other (by simp only []; have := H1.out.2.2; omega) _) rfl (M2.out _) (O2.out _ rfl) (S2.out _) ?_; intro w6 g1 g2; have H6 := Lib.hid (And.intro g1 g2); clear g1 g2))
  have hk : Kept [] w w6 := by
    have k4 : Kept [] w w4 := HK3.out.trans HR.out.2.1 (by simp)
    have hb := H1.out.2.2
    exact ((k4.setCell (p := ⟨w1.heap.size, 0, none⟩) (.inr (by simp only []; omega)) (.int .i64 3)).setCell (p := ⟨w1.heap.size, 39, none⟩) (.inr (by simp only []; omega)) (.slice (some ⟨g, 0, none⟩) n c4)).trans H6.out.2 (S' := [w.heap.size]) (fun x hx => .inr (by simp at hx; omega))
  have hg : w.heap.size < w3.heap.size := Nat.lt_of_lt_of_le H1.out.2.2 (Nat.le_trans H2.out.2.1.size HG.out.2.size)
  have hg1 : w1.heap.size < w3.heap.size := Nat.lt_of_lt_of_le H2.out.2.2 HG.out.2.size
  have hr : Row w6 (.slice (some ⟨g, 0, none⟩) n c4) g m := by
    have r := HR.out.1
    rw [List.nil_append] at r
    have hgw := HR.out.2.2.1
    have kk : Kept [w1.heap.size, w.heap.size] w4 w6 := (Kept.setCell (Kept.setCell (Kept.refl [w1.heap.size, w.heap.size] w4) (p := ⟨w1.heap.size, 0, none⟩) (by simp) (.int .i64 3)) (p := ⟨w1.heap.size, 39, none⟩) (by simp) (.slice (some ⟨g, 0, none⟩) n c4)).trans H6.out.2 (fun x hx => .inl (by simp at hx ⊢; omega))
    exact r.kept kk (nin2 (by omega) (by omega))
  exact bodyPost_ret (v := .tuple #[.agg (F2 (.slice (some ⟨g, 0, none⟩) n c4)).toArray, .bool true]) (results_frame rfl rfl H6.out.1 (S3.out _)) rfl ⟨g, c4, rfl, hr, by have := HR.out.2.2.1; omega, hk⟩

theorem frame_body (p ch d : Nat) (s : Value) (m : List UInt8) (n : Nat) (hmn : m.length = n) (w : World) (hch : ch ≤ 65535) (hp : Blk w p #[.int .u16 (ch : Int), s] 87) (hs : Src w s d m) (hsl : ∃ ao c, s = .slice ao n c) (hml : n ≤ 1000000) :
    Calls Tryz.prog 25 #[.iface 85 (.pointer (some ⟨p, 0, none⟩))] w fun e w' => ∃ g c, e = .returned (.tuple #[.agg (bodyCells ch (.slice (some ⟨g, 0, none⟩) n c)).toArray, .bool true]) ∧ Row w' (.slice (some ⟨g, 0, none⟩) n c) g m ∧ w.heap.size ≤ g ∧ Kept [] w w' :=
  frame_body0 p ch d s m n hmn w hch hp hs hsl hml frame0 (frame0.set 1 (.int .i64 (ch : Int))) (bodyCells ch) alloc_frame (fun w => build_frame1 (ch : Int) w) rfl rfl (frame1_one ch) rfl rfl (fun _ => rfl) (body_one ch)

end Go.Proofs.YtkcdakohmfodjaaGreat
