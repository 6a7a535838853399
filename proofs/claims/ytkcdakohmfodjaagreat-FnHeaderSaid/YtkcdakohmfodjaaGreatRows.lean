/-
  NARROWER THAN 'FOR EVERY INPUT', by the rows' own cells (each row's printed sentence says how): FnMethodRead: loops · FnHeader: loops.
  DERIVED. THE GIVEN ROWS OF THIS SEAT. 4 by the template 'for every input the law returns true; each argument reads behind the call as it read before'; 0 by the template 'total and deterministic' (their statements: YtkcdakohmfodjaaGreatTotals.lean).
  GIVEN WITH THE SEED: the statements are not yours to turn. If you find one false, say at which input.
  Laid BY PROGRAM, IN A SANDBOX (cutbox-rows.mjs): the forced cells as the released guide's own fill.sh prints them over the translation f27f4161464f41b2… (all of the seat's roots in one cut). By AI agents, Wed Nov 11 2026. No macro, syntax, notation, axiom, sorry.
-/
import Derived.Test.YtkcdakohmfodjaaGreatChecked
import GoSem.Claim
import GoSem.ClaimJoined
import GoSem.ClaimMapViews
import Derived.JoinedTies
import Derived.KernelRfl
namespace Go.Proofs.YtkcdakohmfodjaaGreat
/- THE CELL 'sum', in the pinned program and in every row, IS THE sha256 OF THE DUMP (.gsa) THAT YtkcdakohmfodjaaGreatProg.lean LOADS. Nothing in Lean hashes anything: it is a label: what it is worth is what the hold of that sum in a sandbox is worth. -/
noncomputable def Tryz.pinned : Pinned := { name := "ytkcdakohmfodjaagreat", sum := "f27f4161464f41b2757860d80bcf6c778de3f58414f0704111245a480d789d33", checked := Tryz.checked }
namespace Rows
def none {H : Type} : Left H := { results := [], args := [] }

/-- 'laws.FnBroken': WHATEVER THE INPUT: true; the input reads as it did. -/
def fnBrokenSpec : ChangeSpec := { name := "fnBroken", fn := fun _ => fun
  | [d1, d2, d3, d4, d5] => { results := [.lit (.bool true)], args := [d1, d2, d3, d4, d5] }
  | _ => none }
def fnBrokenRow : OpenClaim := { program := "ytkcdakohmfodjaagreat", sum := "f27f4161464f41b2757860d80bcf6c778de3f58414f0704111245a480d789d33", func := "amqp091/laws.FnBroken", spec := "fnBroken", inPlace := ["math.Float32frombits", "math.Float64frombits"], unfollowed := true, recurses := true, apart := false }
def FnBrokenSaid : Prop := fnBrokenRow.holds Tryz.pinned (OpenSpec.ofChange fnBrokenSpec)

/-- ITS FALSE NEIGHBOUR: 'it returns false'. Refute it at one input. -/
def fnBrokenWrong : ChangeSpec := { name := "fnBroken", fn := fun _ => fun
  | [d1, d2, d3, d4, d5] => { results := [.lit (.bool false)], args := [d1, d2, d3, d4, d5] }
  | _ => none }
def FnBrokenWrongFalsely : Prop := fnBrokenRow.holds Tryz.pinned (OpenSpec.ofChange fnBrokenWrong)

/-- 'laws.FnMethodRead': WHATEVER THE INPUT: true; the input reads as it did. -/
def fnMethodReadSpec : ChangeSpec := { name := "fnMethodRead", fn := fun _ => fun
  | [d1, d2, d3] => { results := [.lit (.bool true)], args := [d1, d2, d3] }
  | _ => none }
def fnMethodReadRow : OpenClaim := { program := "ytkcdakohmfodjaagreat", sum := "f27f4161464f41b2757860d80bcf6c778de3f58414f0704111245a480d789d33", func := "amqp091/laws.FnMethodRead", spec := "fnMethodRead", inPlace := ["math.Float32bits", "math.Float64bits", "math.Float32frombits", "math.Float64frombits"], unfollowed := true, recurses := true, loops := true, apart := false }
def FnMethodReadSaid : Prop := fnMethodReadRow.holds Tryz.pinned (OpenSpec.ofChange fnMethodReadSpec)

/-- ITS FALSE NEIGHBOUR: 'it returns false'. Refute it at one input. -/
def fnMethodReadWrong : ChangeSpec := { name := "fnMethodRead", fn := fun _ => fun
  | [d1, d2, d3] => { results := [.lit (.bool false)], args := [d1, d2, d3] }
  | _ => none }
def FnMethodReadWrongFalsely : Prop := fnMethodReadRow.holds Tryz.pinned (OpenSpec.ofChange fnMethodReadWrong)

/-- 'laws.FnBody': WHATEVER THE INPUT: true; the input reads as it did. -/
def fnBodySpec : ChangeSpec := { name := "fnBody", fn := fun _ => fun
  | [d1, d2] => { results := [.lit (.bool true)], args := [d1, d2] }
  | _ => none }
def fnBodyRow : OpenClaim := { program := "ytkcdakohmfodjaagreat", sum := "f27f4161464f41b2757860d80bcf6c778de3f58414f0704111245a480d789d33", func := "amqp091/laws.FnBody", spec := "fnBody", inPlace := ["math.Float32frombits", "math.Float64frombits"], unfollowed := true, recurses := true, apart := false }
def FnBodySaid : Prop := fnBodyRow.holds Tryz.pinned (OpenSpec.ofChange fnBodySpec)

/-- ITS FALSE NEIGHBOUR: 'it returns false'. Refute it at one input. -/
def fnBodyWrong : ChangeSpec := { name := "fnBody", fn := fun _ => fun
  | [d1, d2] => { results := [.lit (.bool false)], args := [d1, d2] }
  | _ => none }
def FnBodyWrongFalsely : Prop := fnBodyRow.holds Tryz.pinned (OpenSpec.ofChange fnBodyWrong)

/-- 'laws.FnHeader': WHATEVER THE INPUT: true; the input reads as it did. -/
def fnHeaderSpec : ChangeSpec := { name := "fnHeader", fn := fun _ => fun
  | [d1, d2, d3, d4] => { results := [.lit (.bool true)], args := [d1, d2, d3, d4] }
  | _ => none }
def fnHeaderRow : OpenClaim := { program := "ytkcdakohmfodjaagreat", sum := "f27f4161464f41b2757860d80bcf6c778de3f58414f0704111245a480d789d33", func := "amqp091/laws.FnHeader", spec := "fnHeader", inPlace := ["math.Float32bits", "math.Float64bits", "math.Float32frombits", "math.Float64frombits"], unfollowed := true, recurses := true, loops := true, apart := false }
def FnHeaderSaid : Prop := fnHeaderRow.holds Tryz.pinned (OpenSpec.ofChange fnHeaderSpec)

/-- ITS FALSE NEIGHBOUR: 'it returns false'. Refute it at one input. -/
def fnHeaderWrong : ChangeSpec := { name := "fnHeader", fn := fun _ => fun
  | [d1, d2, d3, d4] => { results := [.lit (.bool false)], args := [d1, d2, d3, d4] }
  | _ => none }
def FnHeaderWrongFalsely : Prop := fnHeaderRow.holds Tryz.pinned (OpenSpec.ofChange fnHeaderWrong)

/- THE SECOND FORM. 'bulk': how many values and letters a reading holds, each counted each time it is reached (what is shared counts as often as it is met; a slice's spare places count too). A statement '..UptoSaid' is the law's where the arguments, and the package variables that the reading takes, are together of bulk at most 1048576: NARROWER than '..Said'. Prove '..Said' where nothing that the law and all that it calls make is longer than what came in: it says more and counts as full. Else prove '..UptoSaid'. A law counts once. -/
mutual
def uptoBulk {H : Type} : DataW H → Nat
  | .lit (.string bytes) => bytes.length + 1
  | .lit _ => 1
  | .nil => 1
  | .ptr d => uptoBulk d + 1
  | .slice elems spare => uptoBulkAll elems + uptoBulkAll spare + 1
  | .agg parts => uptoBulkAll parts + 1
  | .iface _ d => uptoBulk d + 1
  | .map entries => uptoBulkEntries entries + 1
  | .held _ => 1
def uptoBulkAll {H : Type} : List (DataW H) → Nat
  | [] => 0
  | d :: r => uptoBulk d + uptoBulkAll r
def uptoBulkEntries {H : Type} : List (Lit × DataW H) → Nat
  | [] => 0
  | x :: r => uptoBulkEntry x + uptoBulkEntries r
def uptoBulkEntry {H : Type} : Lit × DataW H → Nat
  | (.string bytes, d) => bytes.length + uptoBulk d + 1
  | (_, d) => uptoBulk d + 1
 end
def uptoSmall : (H : Type) → List (DataW H) → Bool := fun _ ds => decide (uptoBulkAll ds ≤ 1048576)
def OpenSpec.upto (s : _root_.Go.ChangeSpec) : _root_.Go.OpenSpec := { _root_.Go.OpenSpec.ofChange s with cond := some uptoSmall }

/-- 'laws.FnBroken', WHERE WHAT IT READS IS OF BULK AT MOST 1048576: true; the input reads as it did. -/
def fnBrokenUptoRow : OpenClaim := { program := "ytkcdakohmfodjaagreat", sum := "f27f4161464f41b2757860d80bcf6c778de3f58414f0704111245a480d789d33", func := "amqp091/laws.FnBroken", spec := "fnBroken", inPlace := ["math.Float32frombits", "math.Float64frombits"], unfollowed := true, recurses := true, apart := false, narrowed := true }
def FnBrokenUptoSaid : Prop := fnBrokenUptoRow.holds Tryz.pinned (OpenSpec.upto fnBrokenSpec)

/-- 'laws.FnMethodRead', WHERE WHAT IT READS IS OF BULK AT MOST 1048576: true; the input reads as it did. -/
def fnMethodReadUptoRow : OpenClaim := { program := "ytkcdakohmfodjaagreat", sum := "f27f4161464f41b2757860d80bcf6c778de3f58414f0704111245a480d789d33", func := "amqp091/laws.FnMethodRead", spec := "fnMethodRead", inPlace := ["math.Float32bits", "math.Float64bits", "math.Float32frombits", "math.Float64frombits"], unfollowed := true, recurses := true, loops := true, apart := false, narrowed := true }
def FnMethodReadUptoSaid : Prop := fnMethodReadUptoRow.holds Tryz.pinned (OpenSpec.upto fnMethodReadSpec)

/-- 'laws.FnBody', WHERE WHAT IT READS IS OF BULK AT MOST 1048576: true; the input reads as it did. -/
def fnBodyUptoRow : OpenClaim := { program := "ytkcdakohmfodjaagreat", sum := "f27f4161464f41b2757860d80bcf6c778de3f58414f0704111245a480d789d33", func := "amqp091/laws.FnBody", spec := "fnBody", inPlace := ["math.Float32frombits", "math.Float64frombits"], unfollowed := true, recurses := true, apart := false, narrowed := true }
def FnBodyUptoSaid : Prop := fnBodyUptoRow.holds Tryz.pinned (OpenSpec.upto fnBodySpec)

/-- 'laws.FnHeader', WHERE WHAT IT READS IS OF BULK AT MOST 1048576: true; the input reads as it did. -/
def fnHeaderUptoRow : OpenClaim := { program := "ytkcdakohmfodjaagreat", sum := "f27f4161464f41b2757860d80bcf6c778de3f58414f0704111245a480d789d33", func := "amqp091/laws.FnHeader", spec := "fnHeader", inPlace := ["math.Float32bits", "math.Float64bits", "math.Float32frombits", "math.Float64frombits"], unfollowed := true, recurses := true, loops := true, apart := false, narrowed := true }
def FnHeaderUptoSaid : Prop := fnHeaderUptoRow.holds Tryz.pinned (OpenSpec.upto fnHeaderSpec)

end Rows
end Go.Proofs.YtkcdakohmfodjaaGreat
