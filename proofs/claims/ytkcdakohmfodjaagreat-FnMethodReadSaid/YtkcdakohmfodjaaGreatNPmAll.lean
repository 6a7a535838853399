/-
  Lemmas on the way to the statement of YtkcdakohmfodjaaGreatMethodRead, joined out of these texts: PmAll. No condition.
-/
import Derived.Test.YtkcdakohmfodjaaGreatNConvS
import Derived.Test.YtkcdakohmfodjaaGreatNMrA
import Derived.Test.YtkcdakohmfodjaaGreatNMrB
import Derived.Test.YtkcdakohmfodjaaGreatNPw0
import Derived.Test.YtkcdakohmfodjaaGreatNPw1
import Derived.Test.YtkcdakohmfodjaaGreatNPw2
import Derived.Test.YtkcdakohmfodjaaGreatNPw3
import Derived.Test.YtkcdakohmfodjaaGreatNPw4
import Derived.Test.YtkcdakohmfodjaaGreatNPw5
import Derived.Test.YtkcdakohmfodjaaGreatNPw6
import Derived.Test.YtkcdakohmfodjaaGreatNPw7
import Derived.Test.YtkcdakohmfodjaaGreatNToldV
import Derived.Test.YtkcdakohmfodjaaGreatNZaA
import Derived.Test.YtkcdakohmfodjaaGreatNZaB
import Derived.Test.YtkcdakohmfodjaaGreatNZaC
import Derived.Test.YtkcdakohmfodjaaGreatNZaD
namespace Go.Proofs.YtkcdakohmfodjaaGreat
open Go.RowKit
set_option linter.unusedVariables false
set_option linter.unusedSimpArgs false
theorem pmc_connectionStart : PmC 10 10 [111, 111, 116, 76, 76] := by
  intro args hp hwf rest ch sz w rr mb b d h hl
  obtain ⟨n0, rs, rfl, hn0, hp0⟩ := proper_o hp
  obtain ⟨n1, rs, rfl, hn1, hp1⟩ := proper_o hp0
  obtain ⟨f2, rs, rfl, hf2, hp2⟩ := proper_t hp1
  obtain ⟨t3, rs, rfl, ht3, hp3⟩ := proper_L hp2
  obtain ⟨t4, rs, rfl, ht4, hp4⟩ := proper_L hp3
  obtain rfl := proper_nil hp4
  have hwf2 := (hwf ⟨7, 0, [], f2⟩ (by simp)).2.1
  rw [show methodB 10 10 [111, 111, 116, 76, 76] [⟨0, n0, [], []⟩, ⟨0, n1, [], []⟩, ⟨7, 0, [], f2⟩, ⟨5, 0, t3, []⟩, ⟨5, 0, t4, []⟩] ++ rest = Lib.beBytes 2 10 ++ (Lib.beBytes 2 10 ++ (Lib.beBytes 1 n0 ++ (Lib.beBytes 1 n1 ++ (encT f2 ++ (Lib.beBytes 4 t3.length ++ (t3 ++ (Lib.beBytes 4 t4.length ++ (t4 ++ rest)))))))) by simp [methodB, encM, itemM, flushM, MArg.zero]] at h hl
  exact pmw_0.1 _ rest _ (fun tabs cells => ∃ tb, tabs = [(.map (some tb), f2)] ∧ cells = [.int .u8 (n0 : Int), .int .u8 (n1 : Int), .map (some tb), .string ⟨t3.toArray⟩, .string ⟨t4.toArray⟩]) ch sz (fun w msg h => (mr_connectionStart n0 n1 f2 t3 t4 hn0 hn1 hwf2 hf2 ht3 ht4 rest h).mono fun e w' ⟨h1, loc, tb, h2⟩ => ⟨h1, loc, _, _, ⟨tb, rfl, rfl⟩, h2⟩) (fun tabs cells ⟨tb, h1, h2⟩ B w msg hB hb ht => by subst h1 h2; exact msg_connectionStart n0 n1 f2 t3 t4 tb hn0 hn1 B w msg hB hb (ht (.map (some tb), f2) (by simp)) hwf2 hf2) h hl
theorem pmc_connectionStartOk : PmC 10 11 [116, 83, 76, 83] := by
  intro args hp hwf rest ch sz w rr mb b d h hl
  obtain ⟨f0, rs, rfl, hf0, hp0⟩ := proper_t hp
  obtain ⟨t1, rs, rfl, ht1, hp1⟩ := proper_S hp0
  obtain ⟨t2, rs, rfl, ht2, hp2⟩ := proper_L hp1
  obtain ⟨t3, rs, rfl, ht3, hp3⟩ := proper_S hp2
  obtain rfl := proper_nil hp3
  have hwf0 := (hwf ⟨7, 0, [], f0⟩ (by simp)).2.1
  rw [show methodB 10 11 [116, 83, 76, 83] [⟨7, 0, [], f0⟩, ⟨4, 0, t1, []⟩, ⟨5, 0, t2, []⟩, ⟨4, 0, t3, []⟩] ++ rest = Lib.beBytes 2 10 ++ (Lib.beBytes 2 11 ++ (encT f0 ++ (Lib.beBytes 1 t1.length ++ (t1 ++ (Lib.beBytes 4 t2.length ++ (t2 ++ (Lib.beBytes 1 t3.length ++ (t3 ++ rest)))))))) by simp [methodB, encM, itemM, flushM, MArg.zero]] at h hl
  exact pmw_0.2.1 _ rest _ (fun tabs cells => ∃ tb, tabs = [(.map (some tb), f0)] ∧ cells = [.map (some tb), .string ⟨t1.toArray⟩, .string ⟨t2.toArray⟩, .string ⟨t3.toArray⟩]) ch sz (fun w msg h => (mr_connectionStartOk f0 t1 t2 t3 hwf0 hf0 ht1 ht2 ht3 rest h).mono fun e w' ⟨h1, loc, tb, h2⟩ => ⟨h1, loc, _, _, ⟨tb, rfl, rfl⟩, h2⟩) (fun tabs cells ⟨tb, h1, h2⟩ B w msg hB hb ht => by subst h1 h2; exact msg_connectionStartOk f0 t1 t2 t3 tb  B w msg hB hb (ht (.map (some tb), f0) (by simp)) hwf0 hf0) h hl
theorem pmc_connectionSecure : PmC 10 20 [76] := by
  intro args hp hwf rest ch sz w rr mb b d h hl
  obtain ⟨t0, rs, rfl, ht0, hp0⟩ := proper_L hp
  obtain rfl := proper_nil hp0
  rw [show methodB 10 20 [76] [⟨5, 0, t0, []⟩] ++ rest = Lib.beBytes 2 10 ++ (Lib.beBytes 2 20 ++ (Lib.beBytes 4 t0.length ++ (t0 ++ rest))) by simp [methodB, encM, itemM, flushM, MArg.zero]] at h hl
  exact pmw_0.2.2.1 _ rest _ (fun tabs cells => tabs = [] ∧ cells = [.string ⟨t0.toArray⟩]) ch sz (fun w msg h => (mr_connectionSecure t0 ht0 rest h).mono fun e w' ⟨h1, loc, h2⟩ => ⟨h1, loc, _, _, ⟨rfl, rfl⟩, h2⟩) (fun tabs cells ⟨h1, h2⟩ B w msg hB hb _ => by subst h1 h2; exact msg_connectionSecure t0  B w msg hB hb) h hl
theorem pmc_connectionSecureOk : PmC 10 21 [76] := by
  intro args hp hwf rest ch sz w rr mb b d h hl
  obtain ⟨t0, rs, rfl, ht0, hp0⟩ := proper_L hp
  obtain rfl := proper_nil hp0
  rw [show methodB 10 21 [76] [⟨5, 0, t0, []⟩] ++ rest = Lib.beBytes 2 10 ++ (Lib.beBytes 2 21 ++ (Lib.beBytes 4 t0.length ++ (t0 ++ rest))) by simp [methodB, encM, itemM, flushM, MArg.zero]] at h hl
  exact pmw_0.2.2.2.1 _ rest _ (fun tabs cells => tabs = [] ∧ cells = [.string ⟨t0.toArray⟩]) ch sz (fun w msg h => (mr_connectionSecureOk t0 ht0 rest h).mono fun e w' ⟨h1, loc, h2⟩ => ⟨h1, loc, _, _, ⟨rfl, rfl⟩, h2⟩) (fun tabs cells ⟨h1, h2⟩ B w msg hB hb _ => by subst h1 h2; exact msg_connectionSecureOk t0  B w msg hB hb) h hl
theorem pmc_connectionTune : PmC 10 30 [115, 108, 115] := by
  intro args hp hwf rest ch sz w rr mb b d h hl
  obtain ⟨n0, rs, rfl, hn0, hp0⟩ := proper_s hp
  obtain ⟨n1, rs, rfl, hn1, hp1⟩ := proper_l hp0
  obtain ⟨n2, rs, rfl, hn2, hp2⟩ := proper_s hp1
  obtain rfl := proper_nil hp2
  rw [show methodB 10 30 [115, 108, 115] [⟨1, n0, [], []⟩, ⟨2, n1, [], []⟩, ⟨1, n2, [], []⟩] ++ rest = Lib.beBytes 2 10 ++ (Lib.beBytes 2 30 ++ (Lib.beBytes 2 n0 ++ (Lib.beBytes 4 n1 ++ (Lib.beBytes 2 n2 ++ rest)))) by simp [methodB, encM, itemM, flushM, MArg.zero]] at h hl
  exact pmw_0.2.2.2.2.1 _ rest _ (fun tabs cells => tabs = [] ∧ cells = [.int .u16 (n0 : Int), .int .u32 (n1 : Int), .int .u16 (n2 : Int)]) ch sz (fun w msg h => (mr_connectionTune n0 n1 n2 hn0 hn1 hn2 rest h).mono fun e w' ⟨h1, loc, h2⟩ => ⟨h1, loc, _, _, ⟨rfl, rfl⟩, h2⟩) (fun tabs cells ⟨h1, h2⟩ B w msg hB hb _ => by subst h1 h2; exact msg_connectionTune n0 n1 n2 hn0 hn1 hn2 B w msg hB hb) h hl
theorem pmc_connectionTuneOk : PmC 10 31 [115, 108, 115] := by
  intro args hp hwf rest ch sz w rr mb b d h hl
  obtain ⟨n0, rs, rfl, hn0, hp0⟩ := proper_s hp
  obtain ⟨n1, rs, rfl, hn1, hp1⟩ := proper_l hp0
  obtain ⟨n2, rs, rfl, hn2, hp2⟩ := proper_s hp1
  obtain rfl := proper_nil hp2
  rw [show methodB 10 31 [115, 108, 115] [⟨1, n0, [], []⟩, ⟨2, n1, [], []⟩, ⟨1, n2, [], []⟩] ++ rest = Lib.beBytes 2 10 ++ (Lib.beBytes 2 31 ++ (Lib.beBytes 2 n0 ++ (Lib.beBytes 4 n1 ++ (Lib.beBytes 2 n2 ++ rest)))) by simp [methodB, encM, itemM, flushM, MArg.zero]] at h hl
  exact pmw_0.2.2.2.2.2.1 _ rest _ (fun tabs cells => tabs = [] ∧ cells = [.int .u16 (n0 : Int), .int .u32 (n1 : Int), .int .u16 (n2 : Int)]) ch sz (fun w msg h => (mr_connectionTuneOk n0 n1 n2 hn0 hn1 hn2 rest h).mono fun e w' ⟨h1, loc, h2⟩ => ⟨h1, loc, _, _, ⟨rfl, rfl⟩, h2⟩) (fun tabs cells ⟨h1, h2⟩ B w msg hB hb _ => by subst h1 h2; exact msg_connectionTuneOk n0 n1 n2 hn0 hn1 hn2 B w msg hB hb) h hl
theorem pmc_connectionOpen : PmC 10 40 [83, 50, 51] := by
  intro args hp hwf rest ch sz w rr mb b d h hl
  obtain ⟨t0, rs, rfl, ht0, hp0⟩ := proper_S hp
  have hp1 := proper_skip (by decide) hp0
  have hp2 := proper_skip (by decide) hp1
  obtain rfl := proper_nil hp2
  rw [show methodB 10 40 [83, 50, 51] [⟨4, 0, t0, []⟩] ++ rest = Lib.beBytes 2 10 ++ (Lib.beBytes 2 40 ++ (Lib.beBytes 1 t0.length ++ (t0 ++ (Lib.beBytes 1 ([] : List UInt8).length ++ (([] : List UInt8) ++ (Lib.beBytes 1 (0) ++ rest)))))) by simp [methodB, encM, itemM, flushM, MArg.zero]] at h hl
  exact pmw_0.2.2.2.2.2.2.1 _ rest _ (fun tabs cells => tabs = [] ∧ cells = [.string ⟨t0.toArray⟩, .string ⟨([] : List UInt8).toArray⟩, .bool false]) ch sz (fun w msg h => (mr_connectionOpen t0 ht0 rest h).mono fun e w' ⟨h1, loc, h2⟩ => ⟨h1, loc, _, _, ⟨rfl, rfl⟩, h2⟩) (fun tabs cells ⟨h1, h2⟩ B w msg hB hb _ => by subst h1 h2; exact msg_connectionOpen t0  B w msg hB hb) h hl
theorem pmc_connectionOpenOk : PmC 10 41 [50] := by
  intro args hp hwf rest ch sz w rr mb b d h hl
  have hp0 := proper_skip (by decide) hp
  obtain rfl := proper_nil hp0
  rw [show methodB 10 41 [50] [] ++ rest = Lib.beBytes 2 10 ++ (Lib.beBytes 2 41 ++ (Lib.beBytes 1 ([] : List UInt8).length ++ (([] : List UInt8) ++ rest))) by simp [methodB, encM, itemM, flushM, MArg.zero]] at h hl
  exact pmw_0.2.2.2.2.2.2.2 _ rest _ (fun tabs cells => tabs = [] ∧ cells = [.string ⟨([] : List UInt8).toArray⟩]) ch sz (fun w msg h => (mr_connectionOpenOk   rest h).mono fun e w' ⟨h1, loc, h2⟩ => ⟨h1, loc, _, _, ⟨rfl, rfl⟩, h2⟩) (fun tabs cells ⟨h1, h2⟩ B w msg hB hb _ => by subst h1 h2; exact msg_connectionOpenOk   B w msg hB hb) h hl
theorem pmc_connectionClose : PmC 10 50 [115, 83, 115, 115] := by
  intro args hp hwf rest ch sz w rr mb b d h hl
  obtain ⟨n0, rs, rfl, hn0, hp0⟩ := proper_s hp
  obtain ⟨t1, rs, rfl, ht1, hp1⟩ := proper_S hp0
  obtain ⟨n2, rs, rfl, hn2, hp2⟩ := proper_s hp1
  obtain ⟨n3, rs, rfl, hn3, hp3⟩ := proper_s hp2
  obtain rfl := proper_nil hp3
  rw [show methodB 10 50 [115, 83, 115, 115] [⟨1, n0, [], []⟩, ⟨4, 0, t1, []⟩, ⟨1, n2, [], []⟩, ⟨1, n3, [], []⟩] ++ rest = Lib.beBytes 2 10 ++ (Lib.beBytes 2 50 ++ (Lib.beBytes 2 n0 ++ (Lib.beBytes 1 t1.length ++ (t1 ++ (Lib.beBytes 2 n2 ++ (Lib.beBytes 2 n3 ++ rest)))))) by simp [methodB, encM, itemM, flushM, MArg.zero]] at h hl
  exact pmw_1.1 _ rest _ (fun tabs cells => tabs = [] ∧ cells = [.int .u16 (n0 : Int), .string ⟨t1.toArray⟩, .int .u16 (n2 : Int), .int .u16 (n3 : Int)]) ch sz (fun w msg h => (mr_connectionClose n0 t1 n2 n3 hn0 ht1 hn2 hn3 rest h).mono fun e w' ⟨h1, loc, h2⟩ => ⟨h1, loc, _, _, ⟨rfl, rfl⟩, h2⟩) (fun tabs cells ⟨h1, h2⟩ B w msg hB hb _ => by subst h1 h2; exact msg_connectionClose n0 t1 n2 n3 hn0 hn2 hn3 B w msg hB hb) h hl
theorem pmc_connectionCloseOk : PmC 10 51 [] := by
  intro args hp hwf rest ch sz w rr mb b d h hl
  obtain rfl := proper_nil hp
  rw [show methodB 10 51 [] [] ++ rest = Lib.beBytes 2 10 ++ (Lib.beBytes 2 51 ++ rest) by simp [methodB, encM, itemM, flushM, MArg.zero]] at h hl
  exact pmw_1.2.1 _ rest _ (fun tabs cells => tabs = [] ∧ cells = []) ch sz (fun w msg h => (mr_connectionCloseOk   rest h).mono fun e w' ⟨h1, loc, h2⟩ => ⟨h1, loc, _, _, ⟨rfl, rfl⟩, h2⟩) (fun tabs cells ⟨h1, h2⟩ B w msg hB hb _ => by subst h1 h2; exact msg_connectionCloseOk   B w msg hB hb) h hl
theorem pmc_connectionBlocked : PmC 10 60 [83] := by
  intro args hp hwf rest ch sz w rr mb b d h hl
  obtain ⟨t0, rs, rfl, ht0, hp0⟩ := proper_S hp
  obtain rfl := proper_nil hp0
  rw [show methodB 10 60 [83] [⟨4, 0, t0, []⟩] ++ rest = Lib.beBytes 2 10 ++ (Lib.beBytes 2 60 ++ (Lib.beBytes 1 t0.length ++ (t0 ++ rest))) by simp [methodB, encM, itemM, flushM, MArg.zero]] at h hl
  exact pmw_1.2.2.1 _ rest _ (fun tabs cells => tabs = [] ∧ cells = [.string ⟨t0.toArray⟩]) ch sz (fun w msg h => (mr_connectionBlocked t0 ht0 rest h).mono fun e w' ⟨h1, loc, h2⟩ => ⟨h1, loc, _, _, ⟨rfl, rfl⟩, h2⟩) (fun tabs cells ⟨h1, h2⟩ B w msg hB hb _ => by subst h1 h2; exact msg_connectionBlocked t0  B w msg hB hb) h hl
theorem pmc_connectionUnblocked : PmC 10 61 [] := by
  intro args hp hwf rest ch sz w rr mb b d h hl
  obtain rfl := proper_nil hp
  rw [show methodB 10 61 [] [] ++ rest = Lib.beBytes 2 10 ++ (Lib.beBytes 2 61 ++ rest) by simp [methodB, encM, itemM, flushM, MArg.zero]] at h hl
  exact pmw_1.2.2.2.1 _ rest _ (fun tabs cells => tabs = [] ∧ cells = []) ch sz (fun w msg h => (mr_connectionUnblocked   rest h).mono fun e w' ⟨h1, loc, h2⟩ => ⟨h1, loc, _, _, ⟨rfl, rfl⟩, h2⟩) (fun tabs cells ⟨h1, h2⟩ B w msg hB hb _ => by subst h1 h2; exact msg_connectionUnblocked   B w msg hB hb) h hl
theorem pmc_connectionUpdateSecret : PmC 10 70 [76, 83] := by
  intro args hp hwf rest ch sz w rr mb b d h hl
  obtain ⟨t0, rs, rfl, ht0, hp0⟩ := proper_L hp
  obtain ⟨t1, rs, rfl, ht1, hp1⟩ := proper_S hp0
  obtain rfl := proper_nil hp1
  rw [show methodB 10 70 [76, 83] [⟨5, 0, t0, []⟩, ⟨4, 0, t1, []⟩] ++ rest = Lib.beBytes 2 10 ++ (Lib.beBytes 2 70 ++ (Lib.beBytes 4 t0.length ++ (t0 ++ (Lib.beBytes 1 t1.length ++ (t1 ++ rest))))) by simp [methodB, encM, itemM, flushM, MArg.zero]] at h hl
  exact pmw_1.2.2.2.2.1 _ rest _ (fun tabs cells => tabs = [] ∧ cells = [.string ⟨t0.toArray⟩, .string ⟨t1.toArray⟩]) ch sz (fun w msg h => (mr_connectionUpdateSecret t0 t1 ht0 ht1 rest h).mono fun e w' ⟨h1, loc, h2⟩ => ⟨h1, loc, _, _, ⟨rfl, rfl⟩, h2⟩) (fun tabs cells ⟨h1, h2⟩ B w msg hB hb _ => by subst h1 h2; exact msg_connectionUpdateSecret t0 t1  B w msg hB hb) h hl
theorem pmc_connectionUpdateSecretOk : PmC 10 71 [] := by
  intro args hp hwf rest ch sz w rr mb b d h hl
  obtain rfl := proper_nil hp
  rw [show methodB 10 71 [] [] ++ rest = Lib.beBytes 2 10 ++ (Lib.beBytes 2 71 ++ rest) by simp [methodB, encM, itemM, flushM, MArg.zero]] at h hl
  exact pmw_1.2.2.2.2.2.1 _ rest _ (fun tabs cells => tabs = [] ∧ cells = []) ch sz (fun w msg h => (mr_connectionUpdateSecretOk   rest h).mono fun e w' ⟨h1, loc, h2⟩ => ⟨h1, loc, _, _, ⟨rfl, rfl⟩, h2⟩) (fun tabs cells ⟨h1, h2⟩ B w msg hB hb _ => by subst h1 h2; exact msg_connectionUpdateSecretOk   B w msg hB hb) h hl
theorem pmc_channelOpen : PmC 20 10 [50] := by
  intro args hp hwf rest ch sz w rr mb b d h hl
  have hp0 := proper_skip (by decide) hp
  obtain rfl := proper_nil hp0
  rw [show methodB 20 10 [50] [] ++ rest = Lib.beBytes 2 20 ++ (Lib.beBytes 2 10 ++ (Lib.beBytes 1 ([] : List UInt8).length ++ (([] : List UInt8) ++ rest))) by simp [methodB, encM, itemM, flushM, MArg.zero]] at h hl
  exact pmw_1.2.2.2.2.2.2.1 _ rest _ (fun tabs cells => tabs = [] ∧ cells = [.string ⟨([] : List UInt8).toArray⟩]) ch sz (fun w msg h => (mr_channelOpen   rest h).mono fun e w' ⟨h1, loc, h2⟩ => ⟨h1, loc, _, _, ⟨rfl, rfl⟩, h2⟩) (fun tabs cells ⟨h1, h2⟩ B w msg hB hb _ => by subst h1 h2; exact msg_channelOpen   B w msg hB hb) h hl
theorem pmc_channelOpenOk : PmC 20 11 [52] := by
  intro args hp hwf rest ch sz w rr mb b d h hl
  have hp0 := proper_skip (by decide) hp
  obtain rfl := proper_nil hp0
  rw [show methodB 20 11 [52] [] ++ rest = Lib.beBytes 2 20 ++ (Lib.beBytes 2 11 ++ (Lib.beBytes 4 ([] : List UInt8).length ++ (([] : List UInt8) ++ rest))) by simp [methodB, encM, itemM, flushM, MArg.zero]] at h hl
  exact pmw_1.2.2.2.2.2.2.2 _ rest _ (fun tabs cells => tabs = [] ∧ cells = [.string ⟨([] : List UInt8).toArray⟩]) ch sz (fun w msg h => (mr_channelOpenOk   rest h).mono fun e w' ⟨h1, loc, h2⟩ => ⟨h1, loc, _, _, ⟨rfl, rfl⟩, h2⟩) (fun tabs cells ⟨h1, h2⟩ B w msg hB hb _ => by subst h1 h2; exact msg_channelOpenOk   B w msg hB hb) h hl
theorem pmc_channelFlow : PmC 20 20 [98] := by
  intro args hp hwf rest ch sz w rr mb b d h hl
  obtain ⟨p0, rs, rfl, hp0⟩ := proper_b hp
  obtain rfl := proper_nil hp0
  rw [show methodB 20 20 [98] [⟨6, p0.toNat, [], []⟩] ++ rest = Lib.beBytes 2 20 ++ (Lib.beBytes 2 20 ++ (Lib.beBytes 1 (0 + p0.toNat % 2 * 2 ^ 0) ++ rest)) by simp [methodB, encM, itemM, flushM, MArg.zero]] at h hl
  exact pmw_2.1 _ rest _ (fun tabs cells => tabs = [] ∧ cells = [.bool p0]) ch sz (fun w msg h => (mr_channelFlow p0  rest h).mono fun e w' ⟨h1, loc, h2⟩ => ⟨h1, loc, _, _, ⟨rfl, rfl⟩, h2⟩) (fun tabs cells ⟨h1, h2⟩ B w msg hB hb _ => by subst h1 h2; exact msg_channelFlow p0  B w msg hB hb) h hl
theorem pmc_channelFlowOk : PmC 20 21 [98] := by
  intro args hp hwf rest ch sz w rr mb b d h hl
  obtain ⟨p0, rs, rfl, hp0⟩ := proper_b hp
  obtain rfl := proper_nil hp0
  rw [show methodB 20 21 [98] [⟨6, p0.toNat, [], []⟩] ++ rest = Lib.beBytes 2 20 ++ (Lib.beBytes 2 21 ++ (Lib.beBytes 1 (0 + p0.toNat % 2 * 2 ^ 0) ++ rest)) by simp [methodB, encM, itemM, flushM, MArg.zero]] at h hl
  exact pmw_2.2.1 _ rest _ (fun tabs cells => tabs = [] ∧ cells = [.bool p0]) ch sz (fun w msg h => (mr_channelFlowOk p0  rest h).mono fun e w' ⟨h1, loc, h2⟩ => ⟨h1, loc, _, _, ⟨rfl, rfl⟩, h2⟩) (fun tabs cells ⟨h1, h2⟩ B w msg hB hb _ => by subst h1 h2; exact msg_channelFlowOk p0  B w msg hB hb) h hl
theorem pmc_channelClose : PmC 20 40 [115, 83, 115, 115] := by
  intro args hp hwf rest ch sz w rr mb b d h hl
  obtain ⟨n0, rs, rfl, hn0, hp0⟩ := proper_s hp
  obtain ⟨t1, rs, rfl, ht1, hp1⟩ := proper_S hp0
  obtain ⟨n2, rs, rfl, hn2, hp2⟩ := proper_s hp1
  obtain ⟨n3, rs, rfl, hn3, hp3⟩ := proper_s hp2
  obtain rfl := proper_nil hp3
  rw [show methodB 20 40 [115, 83, 115, 115] [⟨1, n0, [], []⟩, ⟨4, 0, t1, []⟩, ⟨1, n2, [], []⟩, ⟨1, n3, [], []⟩] ++ rest = Lib.beBytes 2 20 ++ (Lib.beBytes 2 40 ++ (Lib.beBytes 2 n0 ++ (Lib.beBytes 1 t1.length ++ (t1 ++ (Lib.beBytes 2 n2 ++ (Lib.beBytes 2 n3 ++ rest)))))) by simp [methodB, encM, itemM, flushM, MArg.zero]] at h hl
  exact pmw_2.2.2.1 _ rest _ (fun tabs cells => tabs = [] ∧ cells = [.int .u16 (n0 : Int), .string ⟨t1.toArray⟩, .int .u16 (n2 : Int), .int .u16 (n3 : Int)]) ch sz (fun w msg h => (mr_channelClose n0 t1 n2 n3 hn0 ht1 hn2 hn3 rest h).mono fun e w' ⟨h1, loc, h2⟩ => ⟨h1, loc, _, _, ⟨rfl, rfl⟩, h2⟩) (fun tabs cells ⟨h1, h2⟩ B w msg hB hb _ => by subst h1 h2; exact msg_channelClose n0 t1 n2 n3 hn0 hn2 hn3 B w msg hB hb) h hl
theorem pmc_channelCloseOk : PmC 20 41 [] := by
  intro args hp hwf rest ch sz w rr mb b d h hl
  obtain rfl := proper_nil hp
  rw [show methodB 20 41 [] [] ++ rest = Lib.beBytes 2 20 ++ (Lib.beBytes 2 41 ++ rest) by simp [methodB, encM, itemM, flushM, MArg.zero]] at h hl
  exact pmw_2.2.2.2.1 _ rest _ (fun tabs cells => tabs = [] ∧ cells = []) ch sz (fun w msg h => (mr_channelCloseOk   rest h).mono fun e w' ⟨h1, loc, h2⟩ => ⟨h1, loc, _, _, ⟨rfl, rfl⟩, h2⟩) (fun tabs cells ⟨h1, h2⟩ B w msg hB hb _ => by subst h1 h2; exact msg_channelCloseOk   B w msg hB hb) h hl
theorem pmc_exchangeDeclare : PmC 40 10 [49, 83, 83, 98, 98, 98, 98, 98, 116] := by
  intro args hp hwf rest ch sz w rr mb b d h hl
  have hp0 := proper_skip (by decide) hp
  obtain ⟨t0, rs, rfl, ht0, hp1⟩ := proper_S hp0
  obtain ⟨t1, rs, rfl, ht1, hp2⟩ := proper_S hp1
  obtain ⟨p2, rs, rfl, hp3⟩ := proper_b hp2
  obtain ⟨p3, rs, rfl, hp4⟩ := proper_b hp3
  obtain ⟨p4, rs, rfl, hp5⟩ := proper_b hp4
  obtain ⟨p5, rs, rfl, hp6⟩ := proper_b hp5
  obtain ⟨p6, rs, rfl, hp7⟩ := proper_b hp6
  obtain ⟨f7, rs, rfl, hf7, hp8⟩ := proper_t hp7
  obtain rfl := proper_nil hp8
  have hwf7 := (hwf ⟨7, 0, [], f7⟩ (by simp)).2.1
  rw [show methodB 40 10 [49, 83, 83, 98, 98, 98, 98, 98, 116] [⟨4, 0, t0, []⟩, ⟨4, 0, t1, []⟩, ⟨6, p2.toNat, [], []⟩, ⟨6, p3.toNat, [], []⟩, ⟨6, p4.toNat, [], []⟩, ⟨6, p5.toNat, [], []⟩, ⟨6, p6.toNat, [], []⟩, ⟨7, 0, [], f7⟩] ++ rest = Lib.beBytes 2 40 ++ (Lib.beBytes 2 10 ++ (Lib.beBytes 2 0 ++ (Lib.beBytes 1 t0.length ++ (t0 ++ (Lib.beBytes 1 t1.length ++ (t1 ++ (Lib.beBytes 1 (0 + p2.toNat % 2 * 2 ^ 0 + p3.toNat % 2 * 2 ^ 1 + p4.toNat % 2 * 2 ^ 2 + p5.toNat % 2 * 2 ^ 3 + p6.toNat % 2 * 2 ^ 4) ++ (encT f7 ++ rest)))))))) by simp [methodB, encM, itemM, flushM, MArg.zero]] at h hl
  exact pmw_2.2.2.2.2.1 _ rest _ (fun tabs cells => ∃ tb, tabs = [(.map (some tb), f7)] ∧ cells = [.int .u16 ((0 : Nat) : Int), .string ⟨t0.toArray⟩, .string ⟨t1.toArray⟩, .bool p2, .bool p3, .bool p4, .bool p5, .bool p6, .map (some tb)]) ch sz (fun w msg h => (mr_exchangeDeclare t0 t1 p2 p3 p4 p5 p6 f7 ht0 ht1 hwf7 hf7 rest h).mono fun e w' ⟨h1, loc, tb, h2⟩ => ⟨h1, loc, _, _, ⟨tb, rfl, rfl⟩, h2⟩) (fun tabs cells ⟨tb, h1, h2⟩ B w msg hB hb ht => by subst h1 h2; exact msg_exchangeDeclare t0 t1 p2 p3 p4 p5 p6 f7 tb  B w msg hB hb (ht (.map (some tb), f7) (by simp)) hwf7 hf7) h hl
theorem pmc_exchangeDeclareOk : PmC 40 11 [] := by
  intro args hp hwf rest ch sz w rr mb b d h hl
  obtain rfl := proper_nil hp
  rw [show methodB 40 11 [] [] ++ rest = Lib.beBytes 2 40 ++ (Lib.beBytes 2 11 ++ rest) by simp [methodB, encM, itemM, flushM, MArg.zero]] at h hl
  exact pmw_2.2.2.2.2.2.1 _ rest _ (fun tabs cells => tabs = [] ∧ cells = []) ch sz (fun w msg h => (mr_exchangeDeclareOk   rest h).mono fun e w' ⟨h1, loc, h2⟩ => ⟨h1, loc, _, _, ⟨rfl, rfl⟩, h2⟩) (fun tabs cells ⟨h1, h2⟩ B w msg hB hb _ => by subst h1 h2; exact msg_exchangeDeclareOk   B w msg hB hb) h hl
theorem pmc_exchangeDelete : PmC 40 20 [49, 83, 98, 98] := by
  intro args hp hwf rest ch sz w rr mb b d h hl
  have hp0 := proper_skip (by decide) hp
  obtain ⟨t0, rs, rfl, ht0, hp1⟩ := proper_S hp0
  obtain ⟨p1, rs, rfl, hp2⟩ := proper_b hp1
  obtain ⟨p2, rs, rfl, hp3⟩ := proper_b hp2
  obtain rfl := proper_nil hp3
  rw [show methodB 40 20 [49, 83, 98, 98] [⟨4, 0, t0, []⟩, ⟨6, p1.toNat, [], []⟩, ⟨6, p2.toNat, [], []⟩] ++ rest = Lib.beBytes 2 40 ++ (Lib.beBytes 2 20 ++ (Lib.beBytes 2 0 ++ (Lib.beBytes 1 t0.length ++ (t0 ++ (Lib.beBytes 1 (0 + p1.toNat % 2 * 2 ^ 0 + p2.toNat % 2 * 2 ^ 1) ++ rest))))) by simp [methodB, encM, itemM, flushM, MArg.zero]] at h hl
  exact pmw_2.2.2.2.2.2.2.1 _ rest _ (fun tabs cells => tabs = [] ∧ cells = [.int .u16 ((0 : Nat) : Int), .string ⟨t0.toArray⟩, .bool p1, .bool p2]) ch sz (fun w msg h => (mr_exchangeDelete t0 p1 p2 ht0 rest h).mono fun e w' ⟨h1, loc, h2⟩ => ⟨h1, loc, _, _, ⟨rfl, rfl⟩, h2⟩) (fun tabs cells ⟨h1, h2⟩ B w msg hB hb _ => by subst h1 h2; exact msg_exchangeDelete t0 p1 p2  B w msg hB hb) h hl
theorem pmc_exchangeDeleteOk : PmC 40 21 [] := by
  intro args hp hwf rest ch sz w rr mb b d h hl
  obtain rfl := proper_nil hp
  rw [show methodB 40 21 [] [] ++ rest = Lib.beBytes 2 40 ++ (Lib.beBytes 2 21 ++ rest) by simp [methodB, encM, itemM, flushM, MArg.zero]] at h hl
  exact pmw_2.2.2.2.2.2.2.2 _ rest _ (fun tabs cells => tabs = [] ∧ cells = []) ch sz (fun w msg h => (mr_exchangeDeleteOk   rest h).mono fun e w' ⟨h1, loc, h2⟩ => ⟨h1, loc, _, _, ⟨rfl, rfl⟩, h2⟩) (fun tabs cells ⟨h1, h2⟩ B w msg hB hb _ => by subst h1 h2; exact msg_exchangeDeleteOk   B w msg hB hb) h hl
theorem pmc_exchangeBind : PmC 40 30 [49, 83, 83, 83, 98, 116] := by
  intro args hp hwf rest ch sz w rr mb b d h hl
  have hp0 := proper_skip (by decide) hp
  obtain ⟨t0, rs, rfl, ht0, hp1⟩ := proper_S hp0
  obtain ⟨t1, rs, rfl, ht1, hp2⟩ := proper_S hp1
  obtain ⟨t2, rs, rfl, ht2, hp3⟩ := proper_S hp2
  obtain ⟨p3, rs, rfl, hp4⟩ := proper_b hp3
  obtain ⟨f4, rs, rfl, hf4, hp5⟩ := proper_t hp4
  obtain rfl := proper_nil hp5
  have hwf4 := (hwf ⟨7, 0, [], f4⟩ (by simp)).2.1
  rw [show methodB 40 30 [49, 83, 83, 83, 98, 116] [⟨4, 0, t0, []⟩, ⟨4, 0, t1, []⟩, ⟨4, 0, t2, []⟩, ⟨6, p3.toNat, [], []⟩, ⟨7, 0, [], f4⟩] ++ rest = Lib.beBytes 2 40 ++ (Lib.beBytes 2 30 ++ (Lib.beBytes 2 0 ++ (Lib.beBytes 1 t0.length ++ (t0 ++ (Lib.beBytes 1 t1.length ++ (t1 ++ (Lib.beBytes 1 t2.length ++ (t2 ++ (Lib.beBytes 1 (0 + p3.toNat % 2 * 2 ^ 0) ++ (encT f4 ++ rest)))))))))) by simp [methodB, encM, itemM, flushM, MArg.zero]] at h hl
  exact pmw_3.1 _ rest _ (fun tabs cells => ∃ tb, tabs = [(.map (some tb), f4)] ∧ cells = [.int .u16 ((0 : Nat) : Int), .string ⟨t0.toArray⟩, .string ⟨t1.toArray⟩, .string ⟨t2.toArray⟩, .bool p3, .map (some tb)]) ch sz (fun w msg h => (mr_exchangeBind t0 t1 t2 p3 f4 ht0 ht1 ht2 hwf4 hf4 rest h).mono fun e w' ⟨h1, loc, tb, h2⟩ => ⟨h1, loc, _, _, ⟨tb, rfl, rfl⟩, h2⟩) (fun tabs cells ⟨tb, h1, h2⟩ B w msg hB hb ht => by subst h1 h2; exact msg_exchangeBind t0 t1 t2 p3 f4 tb  B w msg hB hb (ht (.map (some tb), f4) (by simp)) hwf4 hf4) h hl
theorem pmc_exchangeBindOk : PmC 40 31 [] := by
  intro args hp hwf rest ch sz w rr mb b d h hl
  obtain rfl := proper_nil hp
  rw [show methodB 40 31 [] [] ++ rest = Lib.beBytes 2 40 ++ (Lib.beBytes 2 31 ++ rest) by simp [methodB, encM, itemM, flushM, MArg.zero]] at h hl
  exact pmw_3.2.1 _ rest _ (fun tabs cells => tabs = [] ∧ cells = []) ch sz (fun w msg h => (mr_exchangeBindOk   rest h).mono fun e w' ⟨h1, loc, h2⟩ => ⟨h1, loc, _, _, ⟨rfl, rfl⟩, h2⟩) (fun tabs cells ⟨h1, h2⟩ B w msg hB hb _ => by subst h1 h2; exact msg_exchangeBindOk   B w msg hB hb) h hl
theorem pmc_exchangeUnbind : PmC 40 40 [49, 83, 83, 83, 98, 116] := by
  intro args hp hwf rest ch sz w rr mb b d h hl
  have hp0 := proper_skip (by decide) hp
  obtain ⟨t0, rs, rfl, ht0, hp1⟩ := proper_S hp0
  obtain ⟨t1, rs, rfl, ht1, hp2⟩ := proper_S hp1
  obtain ⟨t2, rs, rfl, ht2, hp3⟩ := proper_S hp2
  obtain ⟨p3, rs, rfl, hp4⟩ := proper_b hp3
  obtain ⟨f4, rs, rfl, hf4, hp5⟩ := proper_t hp4
  obtain rfl := proper_nil hp5
  have hwf4 := (hwf ⟨7, 0, [], f4⟩ (by simp)).2.1
  rw [show methodB 40 40 [49, 83, 83, 83, 98, 116] [⟨4, 0, t0, []⟩, ⟨4, 0, t1, []⟩, ⟨4, 0, t2, []⟩, ⟨6, p3.toNat, [], []⟩, ⟨7, 0, [], f4⟩] ++ rest = Lib.beBytes 2 40 ++ (Lib.beBytes 2 40 ++ (Lib.beBytes 2 0 ++ (Lib.beBytes 1 t0.length ++ (t0 ++ (Lib.beBytes 1 t1.length ++ (t1 ++ (Lib.beBytes 1 t2.length ++ (t2 ++ (Lib.beBytes 1 (0 + p3.toNat % 2 * 2 ^ 0) ++ (encT f4 ++ rest)))))))))) by simp [methodB, encM, itemM, flushM, MArg.zero]] at h hl
  exact pmw_3.2.2.1 _ rest _ (fun tabs cells => ∃ tb, tabs = [(.map (some tb), f4)] ∧ cells = [.int .u16 ((0 : Nat) : Int), .string ⟨t0.toArray⟩, .string ⟨t1.toArray⟩, .string ⟨t2.toArray⟩, .bool p3, .map (some tb)]) ch sz (fun w msg h => (mr_exchangeUnbind t0 t1 t2 p3 f4 ht0 ht1 ht2 hwf4 hf4 rest h).mono fun e w' ⟨h1, loc, tb, h2⟩ => ⟨h1, loc, _, _, ⟨tb, rfl, rfl⟩, h2⟩) (fun tabs cells ⟨tb, h1, h2⟩ B w msg hB hb ht => by subst h1 h2; exact msg_exchangeUnbind t0 t1 t2 p3 f4 tb  B w msg hB hb (ht (.map (some tb), f4) (by simp)) hwf4 hf4) h hl
theorem pmc_exchangeUnbindOk : PmC 40 51 [] := by
  intro args hp hwf rest ch sz w rr mb b d h hl
  obtain rfl := proper_nil hp
  rw [show methodB 40 51 [] [] ++ rest = Lib.beBytes 2 40 ++ (Lib.beBytes 2 51 ++ rest) by simp [methodB, encM, itemM, flushM, MArg.zero]] at h hl
  exact pmw_3.2.2.2.1 _ rest _ (fun tabs cells => tabs = [] ∧ cells = []) ch sz (fun w msg h => (mr_exchangeUnbindOk   rest h).mono fun e w' ⟨h1, loc, h2⟩ => ⟨h1, loc, _, _, ⟨rfl, rfl⟩, h2⟩) (fun tabs cells ⟨h1, h2⟩ B w msg hB hb _ => by subst h1 h2; exact msg_exchangeUnbindOk   B w msg hB hb) h hl
theorem pmc_queueDeclare : PmC 50 10 [49, 83, 98, 98, 98, 98, 98, 116] := by
  intro args hp hwf rest ch sz w rr mb b d h hl
  have hp0 := proper_skip (by decide) hp
  obtain ⟨t0, rs, rfl, ht0, hp1⟩ := proper_S hp0
  obtain ⟨p1, rs, rfl, hp2⟩ := proper_b hp1
  obtain ⟨p2, rs, rfl, hp3⟩ := proper_b hp2
  obtain ⟨p3, rs, rfl, hp4⟩ := proper_b hp3
  obtain ⟨p4, rs, rfl, hp5⟩ := proper_b hp4
  obtain ⟨p5, rs, rfl, hp6⟩ := proper_b hp5
  obtain ⟨f6, rs, rfl, hf6, hp7⟩ := proper_t hp6
  obtain rfl := proper_nil hp7
  have hwf6 := (hwf ⟨7, 0, [], f6⟩ (by simp)).2.1
  rw [show methodB 50 10 [49, 83, 98, 98, 98, 98, 98, 116] [⟨4, 0, t0, []⟩, ⟨6, p1.toNat, [], []⟩, ⟨6, p2.toNat, [], []⟩, ⟨6, p3.toNat, [], []⟩, ⟨6, p4.toNat, [], []⟩, ⟨6, p5.toNat, [], []⟩, ⟨7, 0, [], f6⟩] ++ rest = Lib.beBytes 2 50 ++ (Lib.beBytes 2 10 ++ (Lib.beBytes 2 0 ++ (Lib.beBytes 1 t0.length ++ (t0 ++ (Lib.beBytes 1 (0 + p1.toNat % 2 * 2 ^ 0 + p2.toNat % 2 * 2 ^ 1 + p3.toNat % 2 * 2 ^ 2 + p4.toNat % 2 * 2 ^ 3 + p5.toNat % 2 * 2 ^ 4) ++ (encT f6 ++ rest)))))) by simp [methodB, encM, itemM, flushM, MArg.zero]] at h hl
  exact pmw_3.2.2.2.2.1 _ rest _ (fun tabs cells => ∃ tb, tabs = [(.map (some tb), f6)] ∧ cells = [.int .u16 ((0 : Nat) : Int), .string ⟨t0.toArray⟩, .bool p1, .bool p2, .bool p3, .bool p4, .bool p5, .map (some tb)]) ch sz (fun w msg h => (mr_queueDeclare t0 p1 p2 p3 p4 p5 f6 ht0 hwf6 hf6 rest h).mono fun e w' ⟨h1, loc, tb, h2⟩ => ⟨h1, loc, _, _, ⟨tb, rfl, rfl⟩, h2⟩) (fun tabs cells ⟨tb, h1, h2⟩ B w msg hB hb ht => by subst h1 h2; exact msg_queueDeclare t0 p1 p2 p3 p4 p5 f6 tb  B w msg hB hb (ht (.map (some tb), f6) (by simp)) hwf6 hf6) h hl
theorem pmc_queueDeclareOk : PmC 50 11 [83, 108, 108] := by
  intro args hp hwf rest ch sz w rr mb b d h hl
  obtain ⟨t0, rs, rfl, ht0, hp0⟩ := proper_S hp
  obtain ⟨n1, rs, rfl, hn1, hp1⟩ := proper_l hp0
  obtain ⟨n2, rs, rfl, hn2, hp2⟩ := proper_l hp1
  obtain rfl := proper_nil hp2
  rw [show methodB 50 11 [83, 108, 108] [⟨4, 0, t0, []⟩, ⟨2, n1, [], []⟩, ⟨2, n2, [], []⟩] ++ rest = Lib.beBytes 2 50 ++ (Lib.beBytes 2 11 ++ (Lib.beBytes 1 t0.length ++ (t0 ++ (Lib.beBytes 4 n1 ++ (Lib.beBytes 4 n2 ++ rest))))) by simp [methodB, encM, itemM, flushM, MArg.zero]] at h hl
  exact pmw_3.2.2.2.2.2.1 _ rest _ (fun tabs cells => tabs = [] ∧ cells = [.string ⟨t0.toArray⟩, .int .u32 (n1 : Int), .int .u32 (n2 : Int)]) ch sz (fun w msg h => (mr_queueDeclareOk t0 n1 n2 ht0 hn1 hn2 rest h).mono fun e w' ⟨h1, loc, h2⟩ => ⟨h1, loc, _, _, ⟨rfl, rfl⟩, h2⟩) (fun tabs cells ⟨h1, h2⟩ B w msg hB hb _ => by subst h1 h2; exact msg_queueDeclareOk t0 n1 n2 hn1 hn2 B w msg hB hb) h hl
theorem pmc_queueBind : PmC 50 20 [49, 83, 83, 83, 98, 116] := by
  intro args hp hwf rest ch sz w rr mb b d h hl
  have hp0 := proper_skip (by decide) hp
  obtain ⟨t0, rs, rfl, ht0, hp1⟩ := proper_S hp0
  obtain ⟨t1, rs, rfl, ht1, hp2⟩ := proper_S hp1
  obtain ⟨t2, rs, rfl, ht2, hp3⟩ := proper_S hp2
  obtain ⟨p3, rs, rfl, hp4⟩ := proper_b hp3
  obtain ⟨f4, rs, rfl, hf4, hp5⟩ := proper_t hp4
  obtain rfl := proper_nil hp5
  have hwf4 := (hwf ⟨7, 0, [], f4⟩ (by simp)).2.1
  rw [show methodB 50 20 [49, 83, 83, 83, 98, 116] [⟨4, 0, t0, []⟩, ⟨4, 0, t1, []⟩, ⟨4, 0, t2, []⟩, ⟨6, p3.toNat, [], []⟩, ⟨7, 0, [], f4⟩] ++ rest = Lib.beBytes 2 50 ++ (Lib.beBytes 2 20 ++ (Lib.beBytes 2 0 ++ (Lib.beBytes 1 t0.length ++ (t0 ++ (Lib.beBytes 1 t1.length ++ (t1 ++ (Lib.beBytes 1 t2.length ++ (t2 ++ (Lib.beBytes 1 (0 + p3.toNat % 2 * 2 ^ 0) ++ (encT f4 ++ rest)))))))))) by simp [methodB, encM, itemM, flushM, MArg.zero]] at h hl
  exact pmw_3.2.2.2.2.2.2.1 _ rest _ (fun tabs cells => ∃ tb, tabs = [(.map (some tb), f4)] ∧ cells = [.int .u16 ((0 : Nat) : Int), .string ⟨t0.toArray⟩, .string ⟨t1.toArray⟩, .string ⟨t2.toArray⟩, .bool p3, .map (some tb)]) ch sz (fun w msg h => (mr_queueBind t0 t1 t2 p3 f4 ht0 ht1 ht2 hwf4 hf4 rest h).mono fun e w' ⟨h1, loc, tb, h2⟩ => ⟨h1, loc, _, _, ⟨tb, rfl, rfl⟩, h2⟩) (fun tabs cells ⟨tb, h1, h2⟩ B w msg hB hb ht => by subst h1 h2; exact msg_queueBind t0 t1 t2 p3 f4 tb  B w msg hB hb (ht (.map (some tb), f4) (by simp)) hwf4 hf4) h hl
theorem pmc_queueBindOk : PmC 50 21 [] := by
  intro args hp hwf rest ch sz w rr mb b d h hl
  obtain rfl := proper_nil hp
  rw [show methodB 50 21 [] [] ++ rest = Lib.beBytes 2 50 ++ (Lib.beBytes 2 21 ++ rest) by simp [methodB, encM, itemM, flushM, MArg.zero]] at h hl
  exact pmw_3.2.2.2.2.2.2.2 _ rest _ (fun tabs cells => tabs = [] ∧ cells = []) ch sz (fun w msg h => (mr_queueBindOk   rest h).mono fun e w' ⟨h1, loc, h2⟩ => ⟨h1, loc, _, _, ⟨rfl, rfl⟩, h2⟩) (fun tabs cells ⟨h1, h2⟩ B w msg hB hb _ => by subst h1 h2; exact msg_queueBindOk   B w msg hB hb) h hl
theorem pmc_queueUnbind : PmC 50 50 [49, 83, 83, 83, 116] := by
  intro args hp hwf rest ch sz w rr mb b d h hl
  have hp0 := proper_skip (by decide) hp
  obtain ⟨t0, rs, rfl, ht0, hp1⟩ := proper_S hp0
  obtain ⟨t1, rs, rfl, ht1, hp2⟩ := proper_S hp1
  obtain ⟨t2, rs, rfl, ht2, hp3⟩ := proper_S hp2
  obtain ⟨f3, rs, rfl, hf3, hp4⟩ := proper_t hp3
  obtain rfl := proper_nil hp4
  have hwf3 := (hwf ⟨7, 0, [], f3⟩ (by simp)).2.1
  rw [show methodB 50 50 [49, 83, 83, 83, 116] [⟨4, 0, t0, []⟩, ⟨4, 0, t1, []⟩, ⟨4, 0, t2, []⟩, ⟨7, 0, [], f3⟩] ++ rest = Lib.beBytes 2 50 ++ (Lib.beBytes 2 50 ++ (Lib.beBytes 2 0 ++ (Lib.beBytes 1 t0.length ++ (t0 ++ (Lib.beBytes 1 t1.length ++ (t1 ++ (Lib.beBytes 1 t2.length ++ (t2 ++ (encT f3 ++ rest))))))))) by simp [methodB, encM, itemM, flushM, MArg.zero]] at h hl
  exact pmw_4.1 _ rest _ (fun tabs cells => ∃ tb, tabs = [(.map (some tb), f3)] ∧ cells = [.int .u16 ((0 : Nat) : Int), .string ⟨t0.toArray⟩, .string ⟨t1.toArray⟩, .string ⟨t2.toArray⟩, .map (some tb)]) ch sz (fun w msg h => (mr_queueUnbind t0 t1 t2 f3 ht0 ht1 ht2 hwf3 hf3 rest h).mono fun e w' ⟨h1, loc, tb, h2⟩ => ⟨h1, loc, _, _, ⟨tb, rfl, rfl⟩, h2⟩) (fun tabs cells ⟨tb, h1, h2⟩ B w msg hB hb ht => by subst h1 h2; exact msg_queueUnbind t0 t1 t2 f3 tb  B w msg hB hb (ht (.map (some tb), f3) (by simp)) hwf3 hf3) h hl
theorem pmc_queueUnbindOk : PmC 50 51 [] := by
  intro args hp hwf rest ch sz w rr mb b d h hl
  obtain rfl := proper_nil hp
  rw [show methodB 50 51 [] [] ++ rest = Lib.beBytes 2 50 ++ (Lib.beBytes 2 51 ++ rest) by simp [methodB, encM, itemM, flushM, MArg.zero]] at h hl
  exact pmw_4.2.1 _ rest _ (fun tabs cells => tabs = [] ∧ cells = []) ch sz (fun w msg h => (mr_queueUnbindOk   rest h).mono fun e w' ⟨h1, loc, h2⟩ => ⟨h1, loc, _, _, ⟨rfl, rfl⟩, h2⟩) (fun tabs cells ⟨h1, h2⟩ B w msg hB hb _ => by subst h1 h2; exact msg_queueUnbindOk   B w msg hB hb) h hl
theorem pmc_queuePurge : PmC 50 30 [49, 83, 98] := by
  intro args hp hwf rest ch sz w rr mb b d h hl
  have hp0 := proper_skip (by decide) hp
  obtain ⟨t0, rs, rfl, ht0, hp1⟩ := proper_S hp0
  obtain ⟨p1, rs, rfl, hp2⟩ := proper_b hp1
  obtain rfl := proper_nil hp2
  rw [show methodB 50 30 [49, 83, 98] [⟨4, 0, t0, []⟩, ⟨6, p1.toNat, [], []⟩] ++ rest = Lib.beBytes 2 50 ++ (Lib.beBytes 2 30 ++ (Lib.beBytes 2 0 ++ (Lib.beBytes 1 t0.length ++ (t0 ++ (Lib.beBytes 1 (0 + p1.toNat % 2 * 2 ^ 0) ++ rest))))) by simp [methodB, encM, itemM, flushM, MArg.zero]] at h hl
  exact pmw_4.2.2.1 _ rest _ (fun tabs cells => tabs = [] ∧ cells = [.int .u16 ((0 : Nat) : Int), .string ⟨t0.toArray⟩, .bool p1]) ch sz (fun w msg h => (mr_queuePurge t0 p1 ht0 rest h).mono fun e w' ⟨h1, loc, h2⟩ => ⟨h1, loc, _, _, ⟨rfl, rfl⟩, h2⟩) (fun tabs cells ⟨h1, h2⟩ B w msg hB hb _ => by subst h1 h2; exact msg_queuePurge t0 p1  B w msg hB hb) h hl
theorem pmc_queuePurgeOk : PmC 50 31 [108] := by
  intro args hp hwf rest ch sz w rr mb b d h hl
  obtain ⟨n0, rs, rfl, hn0, hp0⟩ := proper_l hp
  obtain rfl := proper_nil hp0
  rw [show methodB 50 31 [108] [⟨2, n0, [], []⟩] ++ rest = Lib.beBytes 2 50 ++ (Lib.beBytes 2 31 ++ (Lib.beBytes 4 n0 ++ rest)) by simp [methodB, encM, itemM, flushM, MArg.zero]] at h hl
  exact pmw_4.2.2.2.1 _ rest _ (fun tabs cells => tabs = [] ∧ cells = [.int .u32 (n0 : Int)]) ch sz (fun w msg h => (mr_queuePurgeOk n0 hn0 rest h).mono fun e w' ⟨h1, loc, h2⟩ => ⟨h1, loc, _, _, ⟨rfl, rfl⟩, h2⟩) (fun tabs cells ⟨h1, h2⟩ B w msg hB hb _ => by subst h1 h2; exact msg_queuePurgeOk n0 hn0 B w msg hB hb) h hl
theorem pmc_queueDelete : PmC 50 40 [49, 83, 98, 98, 98] := by
  intro args hp hwf rest ch sz w rr mb b d h hl
  have hp0 := proper_skip (by decide) hp
  obtain ⟨t0, rs, rfl, ht0, hp1⟩ := proper_S hp0
  obtain ⟨p1, rs, rfl, hp2⟩ := proper_b hp1
  obtain ⟨p2, rs, rfl, hp3⟩ := proper_b hp2
  obtain ⟨p3, rs, rfl, hp4⟩ := proper_b hp3
  obtain rfl := proper_nil hp4
  rw [show methodB 50 40 [49, 83, 98, 98, 98] [⟨4, 0, t0, []⟩, ⟨6, p1.toNat, [], []⟩, ⟨6, p2.toNat, [], []⟩, ⟨6, p3.toNat, [], []⟩] ++ rest = Lib.beBytes 2 50 ++ (Lib.beBytes 2 40 ++ (Lib.beBytes 2 0 ++ (Lib.beBytes 1 t0.length ++ (t0 ++ (Lib.beBytes 1 (0 + p1.toNat % 2 * 2 ^ 0 + p2.toNat % 2 * 2 ^ 1 + p3.toNat % 2 * 2 ^ 2) ++ rest))))) by simp [methodB, encM, itemM, flushM, MArg.zero]] at h hl
  exact pmw_4.2.2.2.2.1 _ rest _ (fun tabs cells => tabs = [] ∧ cells = [.int .u16 ((0 : Nat) : Int), .string ⟨t0.toArray⟩, .bool p1, .bool p2, .bool p3]) ch sz (fun w msg h => (mr_queueDelete t0 p1 p2 p3 ht0 rest h).mono fun e w' ⟨h1, loc, h2⟩ => ⟨h1, loc, _, _, ⟨rfl, rfl⟩, h2⟩) (fun tabs cells ⟨h1, h2⟩ B w msg hB hb _ => by subst h1 h2; exact msg_queueDelete t0 p1 p2 p3  B w msg hB hb) h hl
theorem pmc_queueDeleteOk : PmC 50 41 [108] := by
  intro args hp hwf rest ch sz w rr mb b d h hl
  obtain ⟨n0, rs, rfl, hn0, hp0⟩ := proper_l hp
  obtain rfl := proper_nil hp0
  rw [show methodB 50 41 [108] [⟨2, n0, [], []⟩] ++ rest = Lib.beBytes 2 50 ++ (Lib.beBytes 2 41 ++ (Lib.beBytes 4 n0 ++ rest)) by simp [methodB, encM, itemM, flushM, MArg.zero]] at h hl
  exact pmw_4.2.2.2.2.2.1 _ rest _ (fun tabs cells => tabs = [] ∧ cells = [.int .u32 (n0 : Int)]) ch sz (fun w msg h => (mr_queueDeleteOk n0 hn0 rest h).mono fun e w' ⟨h1, loc, h2⟩ => ⟨h1, loc, _, _, ⟨rfl, rfl⟩, h2⟩) (fun tabs cells ⟨h1, h2⟩ B w msg hB hb _ => by subst h1 h2; exact msg_queueDeleteOk n0 hn0 B w msg hB hb) h hl
theorem pmc_basicQos : PmC 60 10 [108, 115, 98] := by
  intro args hp hwf rest ch sz w rr mb b d h hl
  obtain ⟨n0, rs, rfl, hn0, hp0⟩ := proper_l hp
  obtain ⟨n1, rs, rfl, hn1, hp1⟩ := proper_s hp0
  obtain ⟨p2, rs, rfl, hp2⟩ := proper_b hp1
  obtain rfl := proper_nil hp2
  rw [show methodB 60 10 [108, 115, 98] [⟨2, n0, [], []⟩, ⟨1, n1, [], []⟩, ⟨6, p2.toNat, [], []⟩] ++ rest = Lib.beBytes 2 60 ++ (Lib.beBytes 2 10 ++ (Lib.beBytes 4 n0 ++ (Lib.beBytes 2 n1 ++ (Lib.beBytes 1 (0 + p2.toNat % 2 * 2 ^ 0) ++ rest)))) by simp [methodB, encM, itemM, flushM, MArg.zero]] at h hl
  exact pmw_4.2.2.2.2.2.2.1 _ rest _ (fun tabs cells => tabs = [] ∧ cells = [.int .u32 (n0 : Int), .int .u16 (n1 : Int), .bool p2]) ch sz (fun w msg h => (mr_basicQos n0 n1 p2 hn0 hn1 rest h).mono fun e w' ⟨h1, loc, h2⟩ => ⟨h1, loc, _, _, ⟨rfl, rfl⟩, h2⟩) (fun tabs cells ⟨h1, h2⟩ B w msg hB hb _ => by subst h1 h2; exact msg_basicQos n0 n1 p2 hn0 hn1 B w msg hB hb) h hl
theorem pmc_basicQosOk : PmC 60 11 [] := by
  intro args hp hwf rest ch sz w rr mb b d h hl
  obtain rfl := proper_nil hp
  rw [show methodB 60 11 [] [] ++ rest = Lib.beBytes 2 60 ++ (Lib.beBytes 2 11 ++ rest) by simp [methodB, encM, itemM, flushM, MArg.zero]] at h hl
  exact pmw_4.2.2.2.2.2.2.2 _ rest _ (fun tabs cells => tabs = [] ∧ cells = []) ch sz (fun w msg h => (mr_basicQosOk   rest h).mono fun e w' ⟨h1, loc, h2⟩ => ⟨h1, loc, _, _, ⟨rfl, rfl⟩, h2⟩) (fun tabs cells ⟨h1, h2⟩ B w msg hB hb _ => by subst h1 h2; exact msg_basicQosOk   B w msg hB hb) h hl
theorem pmc_basicConsume : PmC 60 20 [49, 83, 83, 98, 98, 98, 98, 116] := by
  intro args hp hwf rest ch sz w rr mb b d h hl
  have hp0 := proper_skip (by decide) hp
  obtain ⟨t0, rs, rfl, ht0, hp1⟩ := proper_S hp0
  obtain ⟨t1, rs, rfl, ht1, hp2⟩ := proper_S hp1
  obtain ⟨p2, rs, rfl, hp3⟩ := proper_b hp2
  obtain ⟨p3, rs, rfl, hp4⟩ := proper_b hp3
  obtain ⟨p4, rs, rfl, hp5⟩ := proper_b hp4
  obtain ⟨p5, rs, rfl, hp6⟩ := proper_b hp5
  obtain ⟨f6, rs, rfl, hf6, hp7⟩ := proper_t hp6
  obtain rfl := proper_nil hp7
  have hwf6 := (hwf ⟨7, 0, [], f6⟩ (by simp)).2.1
  rw [show methodB 60 20 [49, 83, 83, 98, 98, 98, 98, 116] [⟨4, 0, t0, []⟩, ⟨4, 0, t1, []⟩, ⟨6, p2.toNat, [], []⟩, ⟨6, p3.toNat, [], []⟩, ⟨6, p4.toNat, [], []⟩, ⟨6, p5.toNat, [], []⟩, ⟨7, 0, [], f6⟩] ++ rest = Lib.beBytes 2 60 ++ (Lib.beBytes 2 20 ++ (Lib.beBytes 2 0 ++ (Lib.beBytes 1 t0.length ++ (t0 ++ (Lib.beBytes 1 t1.length ++ (t1 ++ (Lib.beBytes 1 (0 + p2.toNat % 2 * 2 ^ 0 + p3.toNat % 2 * 2 ^ 1 + p4.toNat % 2 * 2 ^ 2 + p5.toNat % 2 * 2 ^ 3) ++ (encT f6 ++ rest)))))))) by simp [methodB, encM, itemM, flushM, MArg.zero]] at h hl
  exact pmw_5.1 _ rest _ (fun tabs cells => ∃ tb, tabs = [(.map (some tb), f6)] ∧ cells = [.int .u16 ((0 : Nat) : Int), .string ⟨t0.toArray⟩, .string ⟨t1.toArray⟩, .bool p2, .bool p3, .bool p4, .bool p5, .map (some tb)]) ch sz (fun w msg h => (mr_basicConsume t0 t1 p2 p3 p4 p5 f6 ht0 ht1 hwf6 hf6 rest h).mono fun e w' ⟨h1, loc, tb, h2⟩ => ⟨h1, loc, _, _, ⟨tb, rfl, rfl⟩, h2⟩) (fun tabs cells ⟨tb, h1, h2⟩ B w msg hB hb ht => by subst h1 h2; exact msg_basicConsume t0 t1 p2 p3 p4 p5 f6 tb  B w msg hB hb (ht (.map (some tb), f6) (by simp)) hwf6 hf6) h hl
theorem pmc_basicConsumeOk : PmC 60 21 [83] := by
  intro args hp hwf rest ch sz w rr mb b d h hl
  obtain ⟨t0, rs, rfl, ht0, hp0⟩ := proper_S hp
  obtain rfl := proper_nil hp0
  rw [show methodB 60 21 [83] [⟨4, 0, t0, []⟩] ++ rest = Lib.beBytes 2 60 ++ (Lib.beBytes 2 21 ++ (Lib.beBytes 1 t0.length ++ (t0 ++ rest))) by simp [methodB, encM, itemM, flushM, MArg.zero]] at h hl
  exact pmw_5.2.1 _ rest _ (fun tabs cells => tabs = [] ∧ cells = [.string ⟨t0.toArray⟩]) ch sz (fun w msg h => (mr_basicConsumeOk t0 ht0 rest h).mono fun e w' ⟨h1, loc, h2⟩ => ⟨h1, loc, _, _, ⟨rfl, rfl⟩, h2⟩) (fun tabs cells ⟨h1, h2⟩ B w msg hB hb _ => by subst h1 h2; exact msg_basicConsumeOk t0  B w msg hB hb) h hl
theorem pmc_basicCancel : PmC 60 30 [83, 98] := by
  intro args hp hwf rest ch sz w rr mb b d h hl
  obtain ⟨t0, rs, rfl, ht0, hp0⟩ := proper_S hp
  obtain ⟨p1, rs, rfl, hp1⟩ := proper_b hp0
  obtain rfl := proper_nil hp1
  rw [show methodB 60 30 [83, 98] [⟨4, 0, t0, []⟩, ⟨6, p1.toNat, [], []⟩] ++ rest = Lib.beBytes 2 60 ++ (Lib.beBytes 2 30 ++ (Lib.beBytes 1 t0.length ++ (t0 ++ (Lib.beBytes 1 (0 + p1.toNat % 2 * 2 ^ 0) ++ rest)))) by simp [methodB, encM, itemM, flushM, MArg.zero]] at h hl
  exact pmw_5.2.2.1 _ rest _ (fun tabs cells => tabs = [] ∧ cells = [.string ⟨t0.toArray⟩, .bool p1]) ch sz (fun w msg h => (mr_basicCancel t0 p1 ht0 rest h).mono fun e w' ⟨h1, loc, h2⟩ => ⟨h1, loc, _, _, ⟨rfl, rfl⟩, h2⟩) (fun tabs cells ⟨h1, h2⟩ B w msg hB hb _ => by subst h1 h2; exact msg_basicCancel t0 p1  B w msg hB hb) h hl
theorem pmc_basicCancelOk : PmC 60 31 [83] := by
  intro args hp hwf rest ch sz w rr mb b d h hl
  obtain ⟨t0, rs, rfl, ht0, hp0⟩ := proper_S hp
  obtain rfl := proper_nil hp0
  rw [show methodB 60 31 [83] [⟨4, 0, t0, []⟩] ++ rest = Lib.beBytes 2 60 ++ (Lib.beBytes 2 31 ++ (Lib.beBytes 1 t0.length ++ (t0 ++ rest))) by simp [methodB, encM, itemM, flushM, MArg.zero]] at h hl
  exact pmw_5.2.2.2.1 _ rest _ (fun tabs cells => tabs = [] ∧ cells = [.string ⟨t0.toArray⟩]) ch sz (fun w msg h => (mr_basicCancelOk t0 ht0 rest h).mono fun e w' ⟨h1, loc, h2⟩ => ⟨h1, loc, _, _, ⟨rfl, rfl⟩, h2⟩) (fun tabs cells ⟨h1, h2⟩ B w msg hB hb _ => by subst h1 h2; exact msg_basicCancelOk t0  B w msg hB hb) h hl
theorem pmc_basicPublish : PmC 60 40 [49, 83, 83, 98, 98] := by
  intro args hp hwf rest ch sz w rr mb b d h hl
  have hp0 := proper_skip (by decide) hp
  obtain ⟨t0, rs, rfl, ht0, hp1⟩ := proper_S hp0
  obtain ⟨t1, rs, rfl, ht1, hp2⟩ := proper_S hp1
  obtain ⟨p2, rs, rfl, hp3⟩ := proper_b hp2
  obtain ⟨p3, rs, rfl, hp4⟩ := proper_b hp3
  obtain rfl := proper_nil hp4
  rw [show methodB 60 40 [49, 83, 83, 98, 98] [⟨4, 0, t0, []⟩, ⟨4, 0, t1, []⟩, ⟨6, p2.toNat, [], []⟩, ⟨6, p3.toNat, [], []⟩] ++ rest = Lib.beBytes 2 60 ++ (Lib.beBytes 2 40 ++ (Lib.beBytes 2 0 ++ (Lib.beBytes 1 t0.length ++ (t0 ++ (Lib.beBytes 1 t1.length ++ (t1 ++ (Lib.beBytes 1 (0 + p2.toNat % 2 * 2 ^ 0 + p3.toNat % 2 * 2 ^ 1) ++ rest))))))) by simp [methodB, encM, itemM, flushM, MArg.zero]] at h hl
  exact pmw_5.2.2.2.2.1 _ rest _ (fun tabs cells => tabs = [] ∧ cells = [.int .u16 ((0 : Nat) : Int), .string ⟨t0.toArray⟩, .string ⟨t1.toArray⟩, .bool p2, .bool p3, .string ⟨#[]⟩, .string ⟨#[]⟩, .map none, .int .u8 0, .int .u8 0, .string ⟨#[]⟩, .string ⟨#[]⟩, .string ⟨#[]⟩, .string ⟨#[]⟩, .int .u64 0, .int .i64 0, .pointer none, .string ⟨#[]⟩, .string ⟨#[]⟩, .string ⟨#[]⟩, .string ⟨#[]⟩, .slice none 0 0]) ch sz (fun w msg h => (mr_basicPublish t0 t1 p2 p3 ht0 ht1 rest h).mono fun e w' ⟨h1, loc, h2⟩ => ⟨h1, loc, _, _, ⟨rfl, rfl⟩, h2⟩) (fun tabs cells ⟨h1, h2⟩ B w msg hB hb _ => by subst h1 h2; exact msg_basicPublish t0 t1 p2 p3  B w msg hB hb) h hl
theorem pmc_basicReturn : PmC 60 50 [115, 83, 83, 83] := by
  intro args hp hwf rest ch sz w rr mb b d h hl
  obtain ⟨n0, rs, rfl, hn0, hp0⟩ := proper_s hp
  obtain ⟨t1, rs, rfl, ht1, hp1⟩ := proper_S hp0
  obtain ⟨t2, rs, rfl, ht2, hp2⟩ := proper_S hp1
  obtain ⟨t3, rs, rfl, ht3, hp3⟩ := proper_S hp2
  obtain rfl := proper_nil hp3
  rw [show methodB 60 50 [115, 83, 83, 83] [⟨1, n0, [], []⟩, ⟨4, 0, t1, []⟩, ⟨4, 0, t2, []⟩, ⟨4, 0, t3, []⟩] ++ rest = Lib.beBytes 2 60 ++ (Lib.beBytes 2 50 ++ (Lib.beBytes 2 n0 ++ (Lib.beBytes 1 t1.length ++ (t1 ++ (Lib.beBytes 1 t2.length ++ (t2 ++ (Lib.beBytes 1 t3.length ++ (t3 ++ rest)))))))) by simp [methodB, encM, itemM, flushM, MArg.zero]] at h hl
  exact pmw_5.2.2.2.2.2.1 _ rest _ (fun tabs cells => tabs = [] ∧ cells = [.int .u16 (n0 : Int), .string ⟨t1.toArray⟩, .string ⟨t2.toArray⟩, .string ⟨t3.toArray⟩, .string ⟨#[]⟩, .string ⟨#[]⟩, .map none, .int .u8 0, .int .u8 0, .string ⟨#[]⟩, .string ⟨#[]⟩, .string ⟨#[]⟩, .string ⟨#[]⟩, .int .u64 0, .int .i64 0, .pointer none, .string ⟨#[]⟩, .string ⟨#[]⟩, .string ⟨#[]⟩, .string ⟨#[]⟩, .slice none 0 0]) ch sz (fun w msg h => (mr_basicReturn n0 t1 t2 t3 hn0 ht1 ht2 ht3 rest h).mono fun e w' ⟨h1, loc, h2⟩ => ⟨h1, loc, _, _, ⟨rfl, rfl⟩, h2⟩) (fun tabs cells ⟨h1, h2⟩ B w msg hB hb _ => by subst h1 h2; exact msg_basicReturn n0 t1 t2 t3 hn0 B w msg hB hb) h hl
theorem pmc_basicDeliver : PmC 60 60 [83, 113, 98, 83, 83] := by
  intro args hp hwf rest ch sz w rr mb b d h hl
  obtain ⟨t0, rs, rfl, ht0, hp0⟩ := proper_S hp
  obtain ⟨n1, rs, rfl, hp1⟩ := proper_q hp0
  obtain ⟨p2, rs, rfl, hp2⟩ := proper_b hp1
  obtain ⟨t3, rs, rfl, ht3, hp3⟩ := proper_S hp2
  obtain ⟨t4, rs, rfl, ht4, hp4⟩ := proper_S hp3
  obtain rfl := proper_nil hp4
  have hn1 := (hwf ⟨3, n1, [], []⟩ (by simp)).2.2.2.1
  rw [show methodB 60 60 [83, 113, 98, 83, 83] [⟨4, 0, t0, []⟩, ⟨3, n1, [], []⟩, ⟨6, p2.toNat, [], []⟩, ⟨4, 0, t3, []⟩, ⟨4, 0, t4, []⟩] ++ rest = Lib.beBytes 2 60 ++ (Lib.beBytes 2 60 ++ (Lib.beBytes 1 t0.length ++ (t0 ++ (Lib.beBytes 8 n1 ++ (Lib.beBytes 1 (0 + p2.toNat % 2 * 2 ^ 0) ++ (Lib.beBytes 1 t3.length ++ (t3 ++ (Lib.beBytes 1 t4.length ++ (t4 ++ rest))))))))) by simp [methodB, encM, itemM, flushM, MArg.zero]] at h hl
  exact pmw_5.2.2.2.2.2.2.1 _ rest _ (fun tabs cells => tabs = [] ∧ cells = [.string ⟨t0.toArray⟩, .int .u64 (n1 : Int), .bool p2, .string ⟨t3.toArray⟩, .string ⟨t4.toArray⟩, .string ⟨#[]⟩, .string ⟨#[]⟩, .map none, .int .u8 0, .int .u8 0, .string ⟨#[]⟩, .string ⟨#[]⟩, .string ⟨#[]⟩, .string ⟨#[]⟩, .int .u64 0, .int .i64 0, .pointer none, .string ⟨#[]⟩, .string ⟨#[]⟩, .string ⟨#[]⟩, .string ⟨#[]⟩, .slice none 0 0]) ch sz (fun w msg h => (mr_basicDeliver t0 n1 p2 t3 t4 ht0 hn1 ht3 ht4 rest h).mono fun e w' ⟨h1, loc, h2⟩ => ⟨h1, loc, _, _, ⟨rfl, rfl⟩, h2⟩) (fun tabs cells ⟨h1, h2⟩ B w msg hB hb _ => by subst h1 h2; exact msg_basicDeliver t0 n1 p2 t3 t4 hn1 B w msg hB hb) h hl
theorem pmc_basicGet : PmC 60 70 [49, 83, 98] := by
  intro args hp hwf rest ch sz w rr mb b d h hl
  have hp0 := proper_skip (by decide) hp
  obtain ⟨t0, rs, rfl, ht0, hp1⟩ := proper_S hp0
  obtain ⟨p1, rs, rfl, hp2⟩ := proper_b hp1
  obtain rfl := proper_nil hp2
  rw [show methodB 60 70 [49, 83, 98] [⟨4, 0, t0, []⟩, ⟨6, p1.toNat, [], []⟩] ++ rest = Lib.beBytes 2 60 ++ (Lib.beBytes 2 70 ++ (Lib.beBytes 2 0 ++ (Lib.beBytes 1 t0.length ++ (t0 ++ (Lib.beBytes 1 (0 + p1.toNat % 2 * 2 ^ 0) ++ rest))))) by simp [methodB, encM, itemM, flushM, MArg.zero]] at h hl
  exact pmw_5.2.2.2.2.2.2.2 _ rest _ (fun tabs cells => tabs = [] ∧ cells = [.int .u16 ((0 : Nat) : Int), .string ⟨t0.toArray⟩, .bool p1]) ch sz (fun w msg h => (mr_basicGet t0 p1 ht0 rest h).mono fun e w' ⟨h1, loc, h2⟩ => ⟨h1, loc, _, _, ⟨rfl, rfl⟩, h2⟩) (fun tabs cells ⟨h1, h2⟩ B w msg hB hb _ => by subst h1 h2; exact msg_basicGet t0 p1  B w msg hB hb) h hl
theorem pmc_basicGetOk : PmC 60 71 [113, 98, 83, 83, 108] := by
  intro args hp hwf rest ch sz w rr mb b d h hl
  obtain ⟨n0, rs, rfl, hp0⟩ := proper_q hp
  obtain ⟨p1, rs, rfl, hp1⟩ := proper_b hp0
  obtain ⟨t2, rs, rfl, ht2, hp2⟩ := proper_S hp1
  obtain ⟨t3, rs, rfl, ht3, hp3⟩ := proper_S hp2
  obtain ⟨n4, rs, rfl, hn4, hp4⟩ := proper_l hp3
  obtain rfl := proper_nil hp4
  have hn0 := (hwf ⟨3, n0, [], []⟩ (by simp)).2.2.2.1
  rw [show methodB 60 71 [113, 98, 83, 83, 108] [⟨3, n0, [], []⟩, ⟨6, p1.toNat, [], []⟩, ⟨4, 0, t2, []⟩, ⟨4, 0, t3, []⟩, ⟨2, n4, [], []⟩] ++ rest = Lib.beBytes 2 60 ++ (Lib.beBytes 2 71 ++ (Lib.beBytes 8 n0 ++ (Lib.beBytes 1 (0 + p1.toNat % 2 * 2 ^ 0) ++ (Lib.beBytes 1 t2.length ++ (t2 ++ (Lib.beBytes 1 t3.length ++ (t3 ++ (Lib.beBytes 4 n4 ++ rest)))))))) by simp [methodB, encM, itemM, flushM, MArg.zero]] at h hl
  exact pmw_6.1 _ rest _ (fun tabs cells => tabs = [] ∧ cells = [.int .u64 (n0 : Int), .bool p1, .string ⟨t2.toArray⟩, .string ⟨t3.toArray⟩, .int .u32 (n4 : Int), .string ⟨#[]⟩, .string ⟨#[]⟩, .map none, .int .u8 0, .int .u8 0, .string ⟨#[]⟩, .string ⟨#[]⟩, .string ⟨#[]⟩, .string ⟨#[]⟩, .int .u64 0, .int .i64 0, .pointer none, .string ⟨#[]⟩, .string ⟨#[]⟩, .string ⟨#[]⟩, .string ⟨#[]⟩, .slice none 0 0]) ch sz (fun w msg h => (mr_basicGetOk n0 p1 t2 t3 n4 hn0 ht2 ht3 hn4 rest h).mono fun e w' ⟨h1, loc, h2⟩ => ⟨h1, loc, _, _, ⟨rfl, rfl⟩, h2⟩) (fun tabs cells ⟨h1, h2⟩ B w msg hB hb _ => by subst h1 h2; exact msg_basicGetOk n0 p1 t2 t3 n4 hn0 hn4 B w msg hB hb) h hl
theorem pmc_basicGetEmpty : PmC 60 72 [50] := by
  intro args hp hwf rest ch sz w rr mb b d h hl
  have hp0 := proper_skip (by decide) hp
  obtain rfl := proper_nil hp0
  rw [show methodB 60 72 [50] [] ++ rest = Lib.beBytes 2 60 ++ (Lib.beBytes 2 72 ++ (Lib.beBytes 1 ([] : List UInt8).length ++ (([] : List UInt8) ++ rest))) by simp [methodB, encM, itemM, flushM, MArg.zero]] at h hl
  exact pmw_6.2.1 _ rest _ (fun tabs cells => tabs = [] ∧ cells = [.string ⟨([] : List UInt8).toArray⟩]) ch sz (fun w msg h => (mr_basicGetEmpty   rest h).mono fun e w' ⟨h1, loc, h2⟩ => ⟨h1, loc, _, _, ⟨rfl, rfl⟩, h2⟩) (fun tabs cells ⟨h1, h2⟩ B w msg hB hb _ => by subst h1 h2; exact msg_basicGetEmpty   B w msg hB hb) h hl
theorem pmc_basicAck : PmC 60 80 [113, 98] := by
  intro args hp hwf rest ch sz w rr mb b d h hl
  obtain ⟨n0, rs, rfl, hp0⟩ := proper_q hp
  obtain ⟨p1, rs, rfl, hp1⟩ := proper_b hp0
  obtain rfl := proper_nil hp1
  have hn0 := (hwf ⟨3, n0, [], []⟩ (by simp)).2.2.2.1
  rw [show methodB 60 80 [113, 98] [⟨3, n0, [], []⟩, ⟨6, p1.toNat, [], []⟩] ++ rest = Lib.beBytes 2 60 ++ (Lib.beBytes 2 80 ++ (Lib.beBytes 8 n0 ++ (Lib.beBytes 1 (0 + p1.toNat % 2 * 2 ^ 0) ++ rest))) by simp [methodB, encM, itemM, flushM, MArg.zero]] at h hl
  exact pmw_6.2.2.1 _ rest _ (fun tabs cells => tabs = [] ∧ cells = [.int .u64 (n0 : Int), .bool p1]) ch sz (fun w msg h => (mr_basicAck n0 p1 hn0 rest h).mono fun e w' ⟨h1, loc, h2⟩ => ⟨h1, loc, _, _, ⟨rfl, rfl⟩, h2⟩) (fun tabs cells ⟨h1, h2⟩ B w msg hB hb _ => by subst h1 h2; exact msg_basicAck n0 p1 hn0 B w msg hB hb) h hl
theorem pmc_basicReject : PmC 60 90 [113, 98] := by
  intro args hp hwf rest ch sz w rr mb b d h hl
  obtain ⟨n0, rs, rfl, hp0⟩ := proper_q hp
  obtain ⟨p1, rs, rfl, hp1⟩ := proper_b hp0
  obtain rfl := proper_nil hp1
  have hn0 := (hwf ⟨3, n0, [], []⟩ (by simp)).2.2.2.1
  rw [show methodB 60 90 [113, 98] [⟨3, n0, [], []⟩, ⟨6, p1.toNat, [], []⟩] ++ rest = Lib.beBytes 2 60 ++ (Lib.beBytes 2 90 ++ (Lib.beBytes 8 n0 ++ (Lib.beBytes 1 (0 + p1.toNat % 2 * 2 ^ 0) ++ rest))) by simp [methodB, encM, itemM, flushM, MArg.zero]] at h hl
  exact pmw_6.2.2.2.1 _ rest _ (fun tabs cells => tabs = [] ∧ cells = [.int .u64 (n0 : Int), .bool p1]) ch sz (fun w msg h => (mr_basicReject n0 p1 hn0 rest h).mono fun e w' ⟨h1, loc, h2⟩ => ⟨h1, loc, _, _, ⟨rfl, rfl⟩, h2⟩) (fun tabs cells ⟨h1, h2⟩ B w msg hB hb _ => by subst h1 h2; exact msg_basicReject n0 p1 hn0 B w msg hB hb) h hl
theorem pmc_basicRecoverAsync : PmC 60 100 [98] := by
  intro args hp hwf rest ch sz w rr mb b d h hl
  obtain ⟨p0, rs, rfl, hp0⟩ := proper_b hp
  obtain rfl := proper_nil hp0
  rw [show methodB 60 100 [98] [⟨6, p0.toNat, [], []⟩] ++ rest = Lib.beBytes 2 60 ++ (Lib.beBytes 2 100 ++ (Lib.beBytes 1 (0 + p0.toNat % 2 * 2 ^ 0) ++ rest)) by simp [methodB, encM, itemM, flushM, MArg.zero]] at h hl
  exact pmw_6.2.2.2.2.1 _ rest _ (fun tabs cells => tabs = [] ∧ cells = [.bool p0]) ch sz (fun w msg h => (mr_basicRecoverAsync p0  rest h).mono fun e w' ⟨h1, loc, h2⟩ => ⟨h1, loc, _, _, ⟨rfl, rfl⟩, h2⟩) (fun tabs cells ⟨h1, h2⟩ B w msg hB hb _ => by subst h1 h2; exact msg_basicRecoverAsync p0  B w msg hB hb) h hl
theorem pmc_basicRecover : PmC 60 110 [98] := by
  intro args hp hwf rest ch sz w rr mb b d h hl
  obtain ⟨p0, rs, rfl, hp0⟩ := proper_b hp
  obtain rfl := proper_nil hp0
  rw [show methodB 60 110 [98] [⟨6, p0.toNat, [], []⟩] ++ rest = Lib.beBytes 2 60 ++ (Lib.beBytes 2 110 ++ (Lib.beBytes 1 (0 + p0.toNat % 2 * 2 ^ 0) ++ rest)) by simp [methodB, encM, itemM, flushM, MArg.zero]] at h hl
  exact pmw_6.2.2.2.2.2.1 _ rest _ (fun tabs cells => tabs = [] ∧ cells = [.bool p0]) ch sz (fun w msg h => (mr_basicRecover p0  rest h).mono fun e w' ⟨h1, loc, h2⟩ => ⟨h1, loc, _, _, ⟨rfl, rfl⟩, h2⟩) (fun tabs cells ⟨h1, h2⟩ B w msg hB hb _ => by subst h1 h2; exact msg_basicRecover p0  B w msg hB hb) h hl
theorem pmc_basicRecoverOk : PmC 60 111 [] := by
  intro args hp hwf rest ch sz w rr mb b d h hl
  obtain rfl := proper_nil hp
  rw [show methodB 60 111 [] [] ++ rest = Lib.beBytes 2 60 ++ (Lib.beBytes 2 111 ++ rest) by simp [methodB, encM, itemM, flushM, MArg.zero]] at h hl
  exact pmw_6.2.2.2.2.2.2.1 _ rest _ (fun tabs cells => tabs = [] ∧ cells = []) ch sz (fun w msg h => (mr_basicRecoverOk   rest h).mono fun e w' ⟨h1, loc, h2⟩ => ⟨h1, loc, _, _, ⟨rfl, rfl⟩, h2⟩) (fun tabs cells ⟨h1, h2⟩ B w msg hB hb _ => by subst h1 h2; exact msg_basicRecoverOk   B w msg hB hb) h hl
theorem pmc_basicNack : PmC 60 120 [113, 98, 98] := by
  intro args hp hwf rest ch sz w rr mb b d h hl
  obtain ⟨n0, rs, rfl, hp0⟩ := proper_q hp
  obtain ⟨p1, rs, rfl, hp1⟩ := proper_b hp0
  obtain ⟨p2, rs, rfl, hp2⟩ := proper_b hp1
  obtain rfl := proper_nil hp2
  have hn0 := (hwf ⟨3, n0, [], []⟩ (by simp)).2.2.2.1
  rw [show methodB 60 120 [113, 98, 98] [⟨3, n0, [], []⟩, ⟨6, p1.toNat, [], []⟩, ⟨6, p2.toNat, [], []⟩] ++ rest = Lib.beBytes 2 60 ++ (Lib.beBytes 2 120 ++ (Lib.beBytes 8 n0 ++ (Lib.beBytes 1 (0 + p1.toNat % 2 * 2 ^ 0 + p2.toNat % 2 * 2 ^ 1) ++ rest))) by simp [methodB, encM, itemM, flushM, MArg.zero]] at h hl
  exact pmw_6.2.2.2.2.2.2.2 _ rest _ (fun tabs cells => tabs = [] ∧ cells = [.int .u64 (n0 : Int), .bool p1, .bool p2]) ch sz (fun w msg h => (mr_basicNack n0 p1 p2 hn0 rest h).mono fun e w' ⟨h1, loc, h2⟩ => ⟨h1, loc, _, _, ⟨rfl, rfl⟩, h2⟩) (fun tabs cells ⟨h1, h2⟩ B w msg hB hb _ => by subst h1 h2; exact msg_basicNack n0 p1 p2 hn0 B w msg hB hb) h hl
theorem pmc_txSelect : PmC 90 10 [] := by
  intro args hp hwf rest ch sz w rr mb b d h hl
  obtain rfl := proper_nil hp
  rw [show methodB 90 10 [] [] ++ rest = Lib.beBytes 2 90 ++ (Lib.beBytes 2 10 ++ rest) by simp [methodB, encM, itemM, flushM, MArg.zero]] at h hl
  exact pmw_7.1 _ rest _ (fun tabs cells => tabs = [] ∧ cells = []) ch sz (fun w msg h => (mr_txSelect   rest h).mono fun e w' ⟨h1, loc, h2⟩ => ⟨h1, loc, _, _, ⟨rfl, rfl⟩, h2⟩) (fun tabs cells ⟨h1, h2⟩ B w msg hB hb _ => by subst h1 h2; exact msg_txSelect   B w msg hB hb) h hl
theorem pmc_txSelectOk : PmC 90 11 [] := by
  intro args hp hwf rest ch sz w rr mb b d h hl
  obtain rfl := proper_nil hp
  rw [show methodB 90 11 [] [] ++ rest = Lib.beBytes 2 90 ++ (Lib.beBytes 2 11 ++ rest) by simp [methodB, encM, itemM, flushM, MArg.zero]] at h hl
  exact pmw_7.2.1 _ rest _ (fun tabs cells => tabs = [] ∧ cells = []) ch sz (fun w msg h => (mr_txSelectOk   rest h).mono fun e w' ⟨h1, loc, h2⟩ => ⟨h1, loc, _, _, ⟨rfl, rfl⟩, h2⟩) (fun tabs cells ⟨h1, h2⟩ B w msg hB hb _ => by subst h1 h2; exact msg_txSelectOk   B w msg hB hb) h hl
theorem pmc_txCommit : PmC 90 20 [] := by
  intro args hp hwf rest ch sz w rr mb b d h hl
  obtain rfl := proper_nil hp
  rw [show methodB 90 20 [] [] ++ rest = Lib.beBytes 2 90 ++ (Lib.beBytes 2 20 ++ rest) by simp [methodB, encM, itemM, flushM, MArg.zero]] at h hl
  exact pmw_7.2.2.1 _ rest _ (fun tabs cells => tabs = [] ∧ cells = []) ch sz (fun w msg h => (mr_txCommit   rest h).mono fun e w' ⟨h1, loc, h2⟩ => ⟨h1, loc, _, _, ⟨rfl, rfl⟩, h2⟩) (fun tabs cells ⟨h1, h2⟩ B w msg hB hb _ => by subst h1 h2; exact msg_txCommit   B w msg hB hb) h hl
theorem pmc_txCommitOk : PmC 90 21 [] := by
  intro args hp hwf rest ch sz w rr mb b d h hl
  obtain rfl := proper_nil hp
  rw [show methodB 90 21 [] [] ++ rest = Lib.beBytes 2 90 ++ (Lib.beBytes 2 21 ++ rest) by simp [methodB, encM, itemM, flushM, MArg.zero]] at h hl
  exact pmw_7.2.2.2.1 _ rest _ (fun tabs cells => tabs = [] ∧ cells = []) ch sz (fun w msg h => (mr_txCommitOk   rest h).mono fun e w' ⟨h1, loc, h2⟩ => ⟨h1, loc, _, _, ⟨rfl, rfl⟩, h2⟩) (fun tabs cells ⟨h1, h2⟩ B w msg hB hb _ => by subst h1 h2; exact msg_txCommitOk   B w msg hB hb) h hl
theorem pmc_txRollback : PmC 90 30 [] := by
  intro args hp hwf rest ch sz w rr mb b d h hl
  obtain rfl := proper_nil hp
  rw [show methodB 90 30 [] [] ++ rest = Lib.beBytes 2 90 ++ (Lib.beBytes 2 30 ++ rest) by simp [methodB, encM, itemM, flushM, MArg.zero]] at h hl
  exact pmw_7.2.2.2.2.1 _ rest _ (fun tabs cells => tabs = [] ∧ cells = []) ch sz (fun w msg h => (mr_txRollback   rest h).mono fun e w' ⟨h1, loc, h2⟩ => ⟨h1, loc, _, _, ⟨rfl, rfl⟩, h2⟩) (fun tabs cells ⟨h1, h2⟩ B w msg hB hb _ => by subst h1 h2; exact msg_txRollback   B w msg hB hb) h hl
theorem pmc_txRollbackOk : PmC 90 31 [] := by
  intro args hp hwf rest ch sz w rr mb b d h hl
  obtain rfl := proper_nil hp
  rw [show methodB 90 31 [] [] ++ rest = Lib.beBytes 2 90 ++ (Lib.beBytes 2 31 ++ rest) by simp [methodB, encM, itemM, flushM, MArg.zero]] at h hl
  exact pmw_7.2.2.2.2.2.1 _ rest _ (fun tabs cells => tabs = [] ∧ cells = []) ch sz (fun w msg h => (mr_txRollbackOk   rest h).mono fun e w' ⟨h1, loc, h2⟩ => ⟨h1, loc, _, _, ⟨rfl, rfl⟩, h2⟩) (fun tabs cells ⟨h1, h2⟩ B w msg hB hb _ => by subst h1 h2; exact msg_txRollbackOk   B w msg hB hb) h hl
theorem pmc_confirmSelect : PmC 85 10 [98] := by
  intro args hp hwf rest ch sz w rr mb b d h hl
  obtain ⟨p0, rs, rfl, hp0⟩ := proper_b hp
  obtain rfl := proper_nil hp0
  rw [show methodB 85 10 [98] [⟨6, p0.toNat, [], []⟩] ++ rest = Lib.beBytes 2 85 ++ (Lib.beBytes 2 10 ++ (Lib.beBytes 1 (0 + p0.toNat % 2 * 2 ^ 0) ++ rest)) by simp [methodB, encM, itemM, flushM, MArg.zero]] at h hl
  exact pmw_7.2.2.2.2.2.2.1 _ rest _ (fun tabs cells => tabs = [] ∧ cells = [.bool p0]) ch sz (fun w msg h => (mr_confirmSelect p0  rest h).mono fun e w' ⟨h1, loc, h2⟩ => ⟨h1, loc, _, _, ⟨rfl, rfl⟩, h2⟩) (fun tabs cells ⟨h1, h2⟩ B w msg hB hb _ => by subst h1 h2; exact msg_confirmSelect p0  B w msg hB hb) h hl
theorem pmc_confirmSelectOk : PmC 85 11 [] := by
  intro args hp hwf rest ch sz w rr mb b d h hl
  obtain rfl := proper_nil hp
  rw [show methodB 85 11 [] [] ++ rest = Lib.beBytes 2 85 ++ (Lib.beBytes 2 11 ++ rest) by simp [methodB, encM, itemM, flushM, MArg.zero]] at h hl
  exact pmw_7.2.2.2.2.2.2.2 _ rest _ (fun tabs cells => tabs = [] ∧ cells = []) ch sz (fun w msg h => (mr_confirmSelectOk   rest h).mono fun e w' ⟨h1, loc, h2⟩ => ⟨h1, loc, _, _, ⟨rfl, rfl⟩, h2⟩) (fun tabs cells ⟨h1, h2⟩ B w msg hB hb _ => by subst h1 h2; exact msg_confirmSelectOk   B w msg hB hb) h hl
theorem pmc_all : ∀ e ∈ knownL, PmC e.1 e.2.1 e.2.2 := by
  simp only [knownL, List.forall_mem_cons, List.not_mem_nil, false_implies, implies_true, and_true]
  exact ⟨pmc_connectionStart, pmc_connectionStartOk, pmc_connectionSecure, pmc_connectionSecureOk, pmc_connectionTune, pmc_connectionTuneOk, pmc_connectionOpen, pmc_connectionOpenOk, pmc_connectionClose, pmc_connectionCloseOk, pmc_connectionBlocked, pmc_connectionUnblocked, pmc_connectionUpdateSecret, pmc_connectionUpdateSecretOk, pmc_channelOpen, pmc_channelOpenOk, pmc_channelFlow, pmc_channelFlowOk, pmc_channelClose, pmc_channelCloseOk, pmc_exchangeDeclare, pmc_exchangeDeclareOk, pmc_exchangeDelete, pmc_exchangeDeleteOk, pmc_exchangeBind, pmc_exchangeBindOk, pmc_exchangeUnbind, pmc_exchangeUnbindOk, pmc_queueDeclare, pmc_queueDeclareOk, pmc_queueBind, pmc_queueBindOk, pmc_queuePurge, pmc_queuePurgeOk, pmc_queueDelete, pmc_queueDeleteOk, pmc_queueUnbind, pmc_queueUnbindOk, pmc_basicQos, pmc_basicQosOk, pmc_basicConsume, pmc_basicConsumeOk, pmc_basicCancel, pmc_basicCancelOk, pmc_basicPublish, pmc_basicReturn, pmc_basicDeliver, pmc_basicGet, pmc_basicGetOk, pmc_basicGetEmpty, pmc_basicAck, pmc_basicReject, pmc_basicRecoverAsync, pmc_basicRecover, pmc_basicRecoverOk, pmc_basicNack, pmc_confirmSelect, pmc_confirmSelectOk, pmc_txSelect, pmc_txSelectOk, pmc_txCommit, pmc_txCommitOk, pmc_txRollback, pmc_txRollbackOk⟩
end Go.Proofs.YtkcdakohmfodjaaGreat
