/-
  Lemmas on the way to the statement of YtkcdakohmfodjaaGreatMethodRead, joined out of these texts: Zab. No condition.
-/
import Derived.BigRegion
import Derived.Deep.RegionHeld3
import Derived.Test.YtkcdakohmfodjaaGreatNToldV
import Derived.Test.YtkcdakohmfodjaaGreatNZai
namespace Go.Proofs.YtkcdakohmfodjaaGreat
open Go.RowKit
set_option linter.unusedVariables false
set_option linter.unusedSimpArgs false
set_option maxHeartbeats 400000 in
theorem zzBit_any (p : Bool) (w : World) : Calls Tryz.prog 149 #[.bool p] w fun e w' => e = .returned (.int .u64 (p.toNat : Int)) ∧ w' = w := by
  cases p
  · go_enter Tryz.func149, Tryz.ntmps149
    go_wp2
    go_ret
    exact ⟨rfl, rfl⟩
  · go_enter Tryz.func149, Tryz.ntmps149
    go_wp2
    go_ret
    exact ⟨rfl, rfl⟩
theorem zzflat_get : ∀ (l : List (MArg × Value)) (i : Nat) (p : MArg × Value), l[i]? = some p → ∀ j u, (zzCells p.1 p.2)[j]? = some u → (l.flatMap fun p => zzCells p.1 p.2)[i * 4 + j]? = some u
  | [], i, p, h, j, u, hu => by simp at h
  | x :: l, i, p, h, j, u, hu => by
    have h4 : (zzCells x.1 x.2).length = 4 := rfl
    rw [List.flatMap_cons]
    cases i with
    | zero =>
      simp only [List.getElem?_cons_zero, Option.some.injEq] at h
      subst h
      have hj : j < 4 := by rw [← h4]; exact (List.getElem?_eq_some_iff.1 hu).1
      rw [Nat.zero_mul, Nat.zero_add, List.getElem?_append_left (by rw [h4]; exact hj)]
      exact hu
    | succ i =>
      rw [List.getElem?_append_right (by rw [h4]; omega), h4, show (i + 1) * 4 + j - 4 = i * 4 + j by omega]
      exact zzflat_get l i p (by simpa using h) j u hu
theorem zz_build {B : Nat → Prop} {base g : Nat} {w : World} (l : List (MArg × Value)) (c : Nat) (hc : l.length ≤ c) (hb : Blk w g (l.flatMap fun p => zzCells p.1 p.2).toArray 171) (hg : base ≤ g) (ht : ∀ p ∈ l, TvAt B w p.1 p.2) :
    ZzAt B base w (.slice (some ⟨g, 0, none⟩) l.length c) (l.map Prod.fst) := by
  refine ⟨some ⟨g, 0, none⟩, c, by simp, by simpa using hc, fun i a hi => ?_⟩
  rw [List.getElem?_map] at hi
  cases hp : l[i]? with
  | none => rw [hp] at hi; cases hi
  | some p =>
    rw [hp] at hi
    simp only [Option.map_some, Option.some.injEq] at hi
    subst hi
    refine ⟨g, p.2, rfl, hg, hb.lt, ht p (List.mem_of_getElem? hp), fun j u hu => ?_⟩
    rw [hb.cell]
    simpa using zzflat_get l i p hp j u hu
theorem zzBit_eq (p : Bool) (w : World) : Calls Tryz.prog 149 #[.bool p] w fun e w' => e = .returned (.int .u64 (p.toNat : Int)) ∧ w = w' := (zzBit_any p w).mono fun e w' h => ⟨h.1, h.2.symm⟩
/-- Each argument's table is there. -/
def TvAll (B : Nat → Prop) (w : World) : List (MArg × Value) → Prop
  | [] => True
  | p :: l => TvAt B w p.1 p.2 ∧ TvAll B w l
theorem TvAll.all {B : Nat → Prop} {w : World} : ∀ {l : List (MArg × Value)}, TvAll B w l → ∀ p ∈ l, TvAt B w p.1 p.2
  | [], _, p, hp => by simp at hp
  | x :: l, h, p, hp => by
    rcases List.mem_cons.1 hp with rfl | hp
    · exact h.1
    · exact TvAll.all h.2 p hp
theorem msg_of {B : Nat → Prop} {w : World} {msg c m n : Nat} {T PT : TypeId} {C : Array Value} (pr : List (MArg × Value)) (hn : pr.length = n) (hB : B msg) (h : Blk w msg C T) (hid : IdOk c m PT) (ht : TvAll B w pr)
    (hz : ∀ w, Blk w msg C T → Calls Tryz.prog 66 #[.iface PT (.pointer (some ⟨msg, 0, none⟩))] w fun e w' => e = .returned (.slice (some ⟨w.heap.size, 0, none⟩) n n) ∧ Blk w' w.heap.size (pr.flatMap fun p => zzCells p.1 p.2).toArray 171 ∧ Kept [] w w') :
    MsgOk B w (.iface PT (.pointer (some ⟨msg, 0, none⟩))) c m (pr.map Prod.fst) := by
  intro S w' hS hk
  refine ⟨hid _ w', (hz w' (h.kept hk (hS msg hB))).mono ?_⟩
  rintro e w'' ⟨rfl, hb, hk2⟩
  subst hn
  exact ⟨_, rfl, zz_build pr _ (Nat.le_refl _) hb (Nat.le_refl _) (fun p hp => ((ht.all p hp).kept hk hS).kept hk2 (by simp)), hk2⟩
theorem msg_of0 {B : Nat → Prop} {w : World} {msg c m : Nat} {T PT : TypeId} {C : Array Value} (hB : B msg) (h : Blk w msg C T) (hid : IdOk c m PT)
    (hz : ∀ w, Blk w msg C T → Calls Tryz.prog 66 #[.iface PT (.pointer (some ⟨msg, 0, none⟩))] w fun e w' => e = .returned (.slice none 0 0) ∧ Kept [] w w') :
    MsgOk B w (.iface PT (.pointer (some ⟨msg, 0, none⟩))) c m [] := by
  intro S w' hS hk
  refine ⟨hid _ w', (hz w' (h.kept hk (hS msg hB))).mono ?_⟩
  rintro e w'' ⟨rfl, hk2⟩
  exact ⟨_, rfl, ⟨none, 0, rfl, Nat.le_refl _, fun i a hi => by simp at hi⟩, hk2⟩
theorem Blk.cd {w : World} {b : Nat} {cs : Array Value} {T : TypeId} {o : Obj} (h : Blk w b cs T) (i : Nat) : (w.alloc o).drew.cell? ⟨b, i, none⟩ = cs[i]? := (h.alloc o).drew.cell i
theorem Blk.ca {w : World} {b : Nat} {cs : Array Value} {T : TypeId} {o : Obj} (h : Blk w b cs T) (i : Nat) : (w.alloc o).cell? ⟨b, i, none⟩ = cs[i]? := (h.alloc o).cell i
theorem za_1 (w : World) (cs : Array Value) (T : TypeId) : Blk (w.alloc (.cells cs T)) w.heap.size cs T ∧ Kept [] w (w.alloc (.cells cs T)) := ⟨Blk.new w _ _, (Kept.refl [] w).alloc _⟩
theorem za_2 (w : World) (cs : Array Value) (T : TypeId) : Blk (w.alloc (.cells cs T)).drew w.heap.size cs T ∧ Kept [] w (w.alloc (.cells cs T)).drew := ⟨(Blk.new w _ _).drew, ((Kept.refl [] w).alloc _).drew⟩
theorem za_3 (w : World) (cs : Array Value) (T : TypeId) : Blk (w.drew.alloc (.cells cs T)) w.heap.size cs T ∧ Kept [] w (w.drew.alloc (.cells cs T)) := ⟨Blk.new w.drew _ _, ((Kept.refl [] w).drew).alloc _⟩
end Go.Proofs.YtkcdakohmfodjaaGreat
