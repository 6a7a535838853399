/-
  Bytes that are no frame of a body: ParseFrame says no.
-/
import Derived.Test.YtkcdakohmfodjaaGreatPf
import Derived.Test.YtkcdakohmfodjaaGreatFb
import Derived.Test.YtkcdakohmfodjaaGreatWrite
import Derived.Lib.EndianMore
namespace Go.Proofs.YtkcdakohmfodjaaGreat
open Go.RowKit
set_option linter.unusedVariables false
set_option linter.unusedSimpArgs false

/-- Bytes that ReadFrame refuses. -/
inductive Bad : List UInt8 → Prop
  | short (l : List UInt8) : l.length < 7 → Bad l
  | body (c0 c1 s0 s1 s2 s3 : UInt8) (n : Nat) (rest : List UInt8) : Lib.beNat [s0, s1, s2, s3] = n → n ≤ 65536 → rest.length < n → Bad (3 :: c0 :: c1 :: s0 :: s1 :: s2 :: s3 :: rest)
  | noMark (c0 c1 s0 s1 s2 s3 : UInt8) (n : Nat) (rest : List UInt8) : Lib.beNat [s0, s1, s2, s3] = n → n ≤ 65536 → rest.length = n → Bad (3 :: c0 :: c1 :: s0 :: s1 :: s2 :: s3 :: rest)
  | mark (c0 c1 s0 s1 s2 s3 z : UInt8) (n : Nat) (rest more : List UInt8) : Lib.beNat [s0, s1, s2, s3] = n → n ≤ 65536 → rest.length = n → z ≠ 206 → more.length ≤ 65536 → Bad (3 :: c0 :: c1 :: s0 :: s1 :: s2 :: s3 :: (rest ++ z :: more))
  | kind (kd c0 c1 s0 s1 s2 s3 : UInt8) (rest : List UInt8) : kd ≠ 1 → kd ≠ 2 → kd ≠ 3 → kd ≠ 8 → rest.length ≤ 262144 → Bad (kd :: c0 :: c1 :: s0 :: s1 :: s2 :: s3 :: rest)

theorem u8_beq {a b : UInt8} (n : Nat) (hb : b.toNat = n) (h : a ≠ b) : ((a.toNat : Int) == (n : Int)) = false := by
  rw [beq_eq_false_iff_ne]
  intro e
  exact h (UInt8.toNat_inj.1 (by omega))

theorem body_parsed (rr mb b d ch n : Nat) (rest rest' : List UInt8) (w2 : World) (h : RS w2 rr mb b d (rest ++ rest')) (hl : Small (rest ++ rest').length) (hn : n ≤ 65536) (hr : rest.length = n) :
    Calls Tryz.prog 62 #[.pointer (some ⟨rr, 0, none⟩), .int .u16 (ch : Int), .int .u32 (n : Int)] w2 fun e w' =>
      ∃ F, e = .returned (.tuple #[F, .nilIface]) ∧ Parsed rr mb b d rest' (fun F w' => ∃ f g c, F = .iface 85 (.pointer (some ⟨f, 0, none⟩)) ∧ w2.heap.size ≤ f ∧ w2.heap.size ≤ g ∧ f ≠ g ∧
        Blk w' f #[.int .u16 (ch : Int), .slice (some ⟨g, 0, none⟩) n c] 87 ∧ Blk w' g (u8s rest).toArray 5) F w2 w' := by
  by_cases h0 : n = 0
  · subst h0
    have hr0 : rest = [] := List.eq_nil_of_length_eq_zero hr
    subst hr0
    refine (parseBody_none rr mb b d ch _ w2 h).mono fun e w' hh => ?_
    obtain ⟨f, g, rfl, h1, h2, h3, h4, h5, h6⟩ := hh
    refine ⟨_, rfl, h5, h6.mono (by simp), f, g, 0, rfl, h1, h2, ?_, h3, h4⟩
    rintro rfl
    have e1 : w'.heap[f]? = _ := h3
    have e2 : w'.heap[f]? = _ := h4
    rw [e1] at e2; simp at e2
  · refine (parseBody_ok rr mb b d ch n _ w2 h hl hn (by omega) (by simp; omega)).mono fun e w' hh => ?_
    obtain ⟨f, g, rfl, h1, h2, h3, h4, h5, h6⟩ := hh
    rw [List.drop_left' hr] at h5
    rw [List.take_left' hr] at h4
    refine ⟨_, rfl, h5, h6, f, g, n, rfl, h1, h2, ?_, h3, h4⟩
    rintro rfl
    have e1 : w'.heap[f]? = _ := h3
    have e2 : w'.heap[f]? = _ := h4
    rw [e1] at e2; simp at e2

theorem Parsed.weaken {rr mb b d : Nat} {rest' : List UInt8} {R : Value → World → Prop} {F : Value} {w2 w' : World} (h : Parsed rr mb b d rest' R F w2 w') : Parsed rr mb b d rest' (fun _ _ => True) F w2 w' := ⟨h.rs, h.kept, trivial⟩

theorem bad_read {l : List UInt8} (hb : Bad l) (hl : l.length ≤ 1000000) (rr mb b d : Nat) (w : World) (h : RS w rr mb b d l) :
    Calls Tryz.prog 43 #[.pointer (some ⟨rr, 0, none⟩)] w fun e w' => ∃ v, Err' v ∧ e = .returned (.tuple #[.nilIface, v]) ∧ Kept [b] w w' ∧ HasB w' b := by
  cases hb with
  | short _ hs =>
    refine (frame_short rr mb b d l w h hs).mono fun e w' hh => ?_
    obtain ⟨v, hv, h1⟩ := hh
    exact ⟨v, .inl hv, h1⟩
  | body c0 c1 s0 s1 s2 s3 n rest hn hn2 hr =>
    refine frame_err rr mb b d c0 c1 s0 s1 s2 s3 rest w h (by simp at hl; unfold Small; omega) fun w2 hrs _ => ?_
    rw [hn]
    refine (parseBody_short rr mb b d _ n rest w2 hrs hn2 hr).mono fun e w' hh => hh
  | noMark c0 c1 s0 s1 s2 s3 n rest hn hn2 hr =>
    refine frame_cut rr mb b d c0 c1 s0 s1 s2 s3 rest w h (by simp at hl; unfold Small; omega) fun w2 hrs _ => ?_
    rw [hn]
    refine (body_parsed rr mb b d _ n rest [] w2 (by simpa using hrs) (by simp at hl; unfold Small; simp; omega) hn2 hr).mono fun e w' hh => ?_
    obtain ⟨F, h1, h2⟩ := hh
    exact ⟨F, h1, h2.weaken⟩
  | mark c0 c1 s0 s1 s2 s3 z n rest more hn hn2 hr hz hmore =>
    refine frame_bad rr mb b d c0 c1 s0 s1 s2 s3 (rest ++ z :: more) w h (by simp at hl; unfold Small; simp; omega) z more ?_ (by unfold Small; omega) fun w2 hrs _ => ?_
    · have := u8_beq (a := z) (b := 206) 206 rfl hz
      simpa [bne] using this
    rw [hn]
    refine (body_parsed rr mb b d _ n rest (z :: more) w2 hrs (by simp at hl; unfold Small; simp; omega) hn2 hr).mono fun e w' hh => ?_
    obtain ⟨F, h1, h2⟩ := hh
    exact ⟨F, h1, h2.weaken⟩
  | kind kd c0 c1 s0 s1 s2 s3 rest h1 h2 h3 h8 hr =>
    exact frame_unknown rr mb b d kd c0 c1 s0 s1 s2 s3 rest w h (by unfold Small; omega) (u8_beq 1 rfl h1) (u8_beq 2 rfl h2) (u8_beq 3 rfl h3) (u8_beq 8 rfl h8)

theorem bad_parse {l : List UInt8} (hb : Bad l) (hl : l.length ≤ 1000000) (s : Value) (d0 : Nat) (w : World) (hs : BytesAt w s d0 l) :
    Calls Tryz.prog 9 #[s] w fun e w' => e = .returned (.tuple #[.agg frame0.toArray, .int .i64 0, .bool false]) ∧ Kept [] w w' := by
  have hsl : ∃ ao n c, s = .slice ao n c := by obtain ⟨off, c, h, _⟩ := hs; exact ⟨_, _, _, h⟩
  refine parse_bad s w hsl fun w1 hk => ?_
  refine (zzread_any s d0 l w1 (hs.kept hk (by simp)) (by omega) (fun F v n w' => Err' v ∧ Kept [] w1 w') fun w2 rr mb b d hrs hrr hmb hbb hd hk2 => ?_).mono fun e w' hh => ?_
  · refine (bad_read hb hl rr mb b d w2 hrs).mono fun e w' hh => ?_
    obtain ⟨v, hv, rfl, h1, ao, n, c, h2⟩ := hh
    exact ⟨_, v, ao, n, c, rfl, h2, hv, hk2.trans h1 (by simp; omega)⟩
  · exact hh

end Go.Proofs.YtkcdakohmfodjaaGreat
