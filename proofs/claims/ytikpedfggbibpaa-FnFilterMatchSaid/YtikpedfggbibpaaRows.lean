/-
  NARROWER THAN 'FOR EVERY INPUT', by the rows' own cells (each row's printed sentence says how): FnFitsLess: loops · FnFilterMatch: loops · FnDiff: loops · FnDiffIgnores: loops.
  DERIVED. THE GIVEN ROWS OF THIS SEAT. 4 by the template 'for every input the law returns true; each argument reads behind the call as it read before'; 0 by the template 'total and deterministic' (their statements: YtikpedfggbibpaaTotals.lean).
  GIVEN WITH THE SEED: the statements are not yours to turn. If you find one false, say at which input.
  Laid BY PROGRAM, IN A SANDBOX (cutbox-rows.mjs): the forced cells as the released guide's own fill.sh prints them over the translation 4775ea2a01afc1c0… (all of the seat's roots in one cut). By AI agents, Wed Nov 11 2026. No macro, syntax, notation, axiom, sorry.
-/
import Derived.Test.YtikpedfggbibpaaChecked
import GoSem.Claim
import GoSem.ClaimJoined
import GoSem.ClaimMapViews
import Derived.JoinedTies
import Derived.KernelRfl
namespace Go.Proofs.Ytikpedfggbibpaa
/- THE CELL 'sum', in the pinned program and in every row, IS THE sha256 OF THE DUMP (.gsa) THAT YtikpedfggbibpaaProg.lean LOADS. Nothing in Lean hashes anything: it is a label: what it is worth is what the hold of that sum in a sandbox is worth. -/
noncomputable def Try.pinned : Pinned := { name := "ytikpedfggbibpaa", sum := "4775ea2a01afc1c000f08a85a66ed68b49a14f9a1b3598376bfcfbb84ef5c292", checked := Try.checked }
namespace Rows
def none {H : Type} : Left H := { results := [], args := [] }

/-- 'laws.FnFitsLess': WHATEVER THE INPUT: true; the input reads as it did. -/
def fnFitsLessSpec : ChangeSpec := { name := "fnFitsLess", fn := fun _ => fun
  | [d1, d2, d3] => { results := [.lit (.bool true)], args := [d1, d2, d3] }
  | _ => none }
def fnFitsLessRow : OpenClaim := { program := "ytikpedfggbibpaa", sum := "4775ea2a01afc1c000f08a85a66ed68b49a14f9a1b3598376bfcfbb84ef5c292", func := "pub-hodometer/laws.FnFitsLess", spec := "fnFitsLess", inPlace := ["math.Float64bits", "math.Float64frombits"], unfollowed := true, recurses := true, loops := true, apart := false }
def FnFitsLessSaid : Prop := fnFitsLessRow.holds Try.pinned (OpenSpec.ofChange fnFitsLessSpec)

/-- ITS FALSE NEIGHBOUR: 'it returns false'. Refute it at one input. -/
def fnFitsLessWrong : ChangeSpec := { name := "fnFitsLess", fn := fun _ => fun
  | [d1, d2, d3] => { results := [.lit (.bool false)], args := [d1, d2, d3] }
  | _ => none }
def FnFitsLessWrongFalsely : Prop := fnFitsLessRow.holds Try.pinned (OpenSpec.ofChange fnFitsLessWrong)

/-- 'laws.FnFilterMatch': WHATEVER THE INPUT: true; the input reads as it did. -/
def fnFilterMatchSpec : ChangeSpec := { name := "fnFilterMatch", fn := fun _ => fun
  | [d1, d2] => { results := [.lit (.bool true)], args := [d1, d2] }
  | _ => none }
def fnFilterMatchRow : OpenClaim := { program := "ytikpedfggbibpaa", sum := "4775ea2a01afc1c000f08a85a66ed68b49a14f9a1b3598376bfcfbb84ef5c292", func := "pub-hodometer/laws.FnFilterMatch", spec := "fnFilterMatch", inPlace := ["math.Float64bits", "math.Float64frombits"], unfollowed := true, recurses := true, loops := true, apart := false }
def FnFilterMatchSaid : Prop := fnFilterMatchRow.holds Try.pinned (OpenSpec.ofChange fnFilterMatchSpec)

/-- ITS FALSE NEIGHBOUR: 'it returns false'. Refute it at one input. -/
def fnFilterMatchWrong : ChangeSpec := { name := "fnFilterMatch", fn := fun _ => fun
  | [d1, d2] => { results := [.lit (.bool false)], args := [d1, d2] }
  | _ => none }
def FnFilterMatchWrongFalsely : Prop := fnFilterMatchRow.holds Try.pinned (OpenSpec.ofChange fnFilterMatchWrong)

/-- 'laws.FnDiff': WHATEVER THE INPUT: true; the input reads as it did. -/
def fnDiffSpec : ChangeSpec := { name := "fnDiff", fn := fun _ => fun
  | [d1, d2] => { results := [.lit (.bool true)], args := [d1, d2] }
  | _ => none }
def fnDiffRow : OpenClaim := { program := "ytikpedfggbibpaa", sum := "4775ea2a01afc1c000f08a85a66ed68b49a14f9a1b3598376bfcfbb84ef5c292", func := "pub-hodometer/laws.FnDiff", spec := "fnDiff", inPlace := ["math.Float64bits", "math.Float64frombits"], unfollowed := true, recurses := true, loops := true, apart := false }
def FnDiffSaid : Prop := fnDiffRow.holds Try.pinned (OpenSpec.ofChange fnDiffSpec)

/-- ITS FALSE NEIGHBOUR: 'it returns false'. Refute it at one input. -/
def fnDiffWrong : ChangeSpec := { name := "fnDiff", fn := fun _ => fun
  | [d1, d2] => { results := [.lit (.bool false)], args := [d1, d2] }
  | _ => none }
def FnDiffWrongFalsely : Prop := fnDiffRow.holds Try.pinned (OpenSpec.ofChange fnDiffWrong)

/-- 'laws.FnDiffIgnores': WHATEVER THE INPUT: true; the input reads as it did. -/
def fnDiffIgnoresSpec : ChangeSpec := { name := "fnDiffIgnores", fn := fun _ => fun
  | [d1, d2, d3] => { results := [.lit (.bool true)], args := [d1, d2, d3] }
  | _ => none }
def fnDiffIgnoresRow : OpenClaim := { program := "ytikpedfggbibpaa", sum := "4775ea2a01afc1c000f08a85a66ed68b49a14f9a1b3598376bfcfbb84ef5c292", func := "pub-hodometer/laws.FnDiffIgnores", spec := "fnDiffIgnores", inPlace := ["math.Float64bits", "math.Float64frombits"], unfollowed := true, recurses := true, loops := true, apart := false }
def FnDiffIgnoresSaid : Prop := fnDiffIgnoresRow.holds Try.pinned (OpenSpec.ofChange fnDiffIgnoresSpec)

/-- ITS FALSE NEIGHBOUR: 'it returns false'. Refute it at one input. -/
def fnDiffIgnoresWrong : ChangeSpec := { name := "fnDiffIgnores", fn := fun _ => fun
  | [d1, d2, d3] => { results := [.lit (.bool false)], args := [d1, d2, d3] }
  | _ => none }
def FnDiffIgnoresWrongFalsely : Prop := fnDiffIgnoresRow.holds Try.pinned (OpenSpec.ofChange fnDiffIgnoresWrong)

/- THE SECOND FORM. 'bulk': how many values and letters a reading holds, each counted each time it is reached (what is shared counts as often as it is met; a slice's spare places count too). A statement '..UptoSaid' is the law's where the arguments, and the package variables that the reading takes, are together of bulk at most 1048576: NARROWER than '..Said'. Prove '..Said' where nothing that the law and all that it calls make is longer than what came in: it says more and counts as full. Else prove '..UptoSaid'. A law counts once. -/
mutual
def uptoBulk {H : Type} : DataW H → Nat
  | .lit (.string bytes) => bytes.length + 1
  | .lit _ => 1
  | .nil => 1
  | .ptr d => uptoBulk d + 1
  | .slice elems spare => uptoBulkAll elems + uptoBulkAll spare + 1
  | .agg parts => uptoBulkAll parts + 1
  | .iface _ d => uptoBulk d + 1
  | .map entries => uptoBulkEntries entries + 1
  | .held _ => 1
def uptoBulkAll {H : Type} : List (DataW H) → Nat
  | [] => 0
  | d :: r => uptoBulk d + uptoBulkAll r
def uptoBulkEntries {H : Type} : List (Lit × DataW H) → Nat
  | [] => 0
  | x :: r => uptoBulkEntry x + uptoBulkEntries r
def uptoBulkEntry {H : Type} : Lit × DataW H → Nat
  | (.string bytes, d) => bytes.length + uptoBulk d + 1
  | (_, d) => uptoBulk d + 1
 end
def uptoSmall : (H : Type) → List (DataW H) → Bool := fun _ ds => decide (uptoBulkAll ds ≤ 1048576)
def OpenSpec.upto (s : _root_.Go.ChangeSpec) : _root_.Go.OpenSpec := { _root_.Go.OpenSpec.ofChange s with cond := some uptoSmall }

/-- 'laws.FnFitsLess', WHERE WHAT IT READS IS OF BULK AT MOST 1048576: true; the input reads as it did. -/
def fnFitsLessUptoRow : OpenClaim := { program := "ytikpedfggbibpaa", sum := "4775ea2a01afc1c000f08a85a66ed68b49a14f9a1b3598376bfcfbb84ef5c292", func := "pub-hodometer/laws.FnFitsLess", spec := "fnFitsLess", inPlace := ["math.Float64bits", "math.Float64frombits"], unfollowed := true, recurses := true, loops := true, apart := false, narrowed := true }
def FnFitsLessUptoSaid : Prop := fnFitsLessUptoRow.holds Try.pinned (OpenSpec.upto fnFitsLessSpec)

/-- 'laws.FnFilterMatch', WHERE WHAT IT READS IS OF BULK AT MOST 1048576: true; the input reads as it did. -/
def fnFilterMatchUptoRow : OpenClaim := { program := "ytikpedfggbibpaa", sum := "4775ea2a01afc1c000f08a85a66ed68b49a14f9a1b3598376bfcfbb84ef5c292", func := "pub-hodometer/laws.FnFilterMatch", spec := "fnFilterMatch", inPlace := ["math.Float64bits", "math.Float64frombits"], unfollowed := true, recurses := true, loops := true, apart := false, narrowed := true }
def FnFilterMatchUptoSaid : Prop := fnFilterMatchUptoRow.holds Try.pinned (OpenSpec.upto fnFilterMatchSpec)

/-- 'laws.FnDiff', WHERE WHAT IT READS IS OF BULK AT MOST 1048576: true; the input reads as it did. -/
def fnDiffUptoRow : OpenClaim := { program := "ytikpedfggbibpaa", sum := "4775ea2a01afc1c000f08a85a66ed68b49a14f9a1b3598376bfcfbb84ef5c292", func := "pub-hodometer/laws.FnDiff", spec := "fnDiff", inPlace := ["math.Float64bits", "math.Float64frombits"], unfollowed := true, recurses := true, loops := true, apart := false, narrowed := true }
def FnDiffUptoSaid : Prop := fnDiffUptoRow.holds Try.pinned (OpenSpec.upto fnDiffSpec)

/-- 'laws.FnDiffIgnores', WHERE WHAT IT READS IS OF BULK AT MOST 1048576: true; the input reads as it did. -/
def fnDiffIgnoresUptoRow : OpenClaim := { program := "ytikpedfggbibpaa", sum := "4775ea2a01afc1c000f08a85a66ed68b49a14f9a1b3598376bfcfbb84ef5c292", func := "pub-hodometer/laws.FnDiffIgnores", spec := "fnDiffIgnores", inPlace := ["math.Float64bits", "math.Float64frombits"], unfollowed := true, recurses := true, loops := true, apart := false, narrowed := true }
def FnDiffIgnoresUptoSaid : Prop := fnDiffIgnoresUptoRow.holds Try.pinned (OpenSpec.upto fnDiffIgnoresSpec)

end Rows
end Go.Proofs.Ytikpedfggbibpaa
