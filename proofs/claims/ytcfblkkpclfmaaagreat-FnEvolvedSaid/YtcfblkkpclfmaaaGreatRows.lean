/-
  NARROWER THAN 'FOR EVERY INPUT', by the rows' own cells (each row's printed sentence says how): FnWholeScript: loops · FnWholeMutate: loops · FnAgain: loops · FnBuilt: loops · FnBuiltShared: loops · FnBuiltSize: loops · FnEvolved: loops · FnIdentifier: loops · FnNested: loops · FnRead: loops · FnReadOther: loops · FnTrimmed: loops · FnVtables: loops.
  DERIVED. THE GIVEN ROWS OF THIS SEAT. 13 by the template 'for every input the law returns true; each argument reads behind the call as it read before'; 0 by the template 'total and deterministic' (their statements: YtcfblkkpclfmaaaGreatTotals.lean).
  GIVEN WITH THE SEED: the statements are not yours to turn. If you find one false, say at which input.
  Laid BY PROGRAM, IN A SANDBOX (cutbox-rows.mjs): the forced cells as the released guide's own fill.sh prints them over the translation dc8002ec5deefa27… (all of the seat's roots in one cut). By AI agents, Wed Nov 11 2026. No macro, syntax, notation, axiom, sorry.
-/
import Derived.Test.YtcfblkkpclfmaaaGreatChecked
import GoSem.Claim
import GoSem.ClaimJoined
import GoSem.ClaimMapViews
import Derived.JoinedTies
import Derived.KernelRfl
namespace Go.Proofs.YtcfblkkpclfmaaaGreat
/- THE CELL 'sum', in the pinned program and in every row, IS THE sha256 OF THE DUMP (.gsa) THAT YtcfblkkpclfmaaaGreatProg.lean LOADS. Nothing in Lean hashes anything: it is a label: what it is worth is what the hold of that sum in a sandbox is worth. -/
noncomputable def Tryz.pinned : Pinned := { name := "ytcfblkkpclfmaaagreat", sum := "dc8002ec5deefa27645b98ce821838dbd8776c61cf983d047424aab84b36cd2c", checked := Tryz.checked }
namespace Rows
def none {H : Type} : Left H := { results := [], args := [] }

/-- 'laws.FnWholeScript': WHATEVER THE INPUT: true; the input reads as it did. -/
def fnWholeScriptSpec : ChangeSpec := { name := "fnWholeScript", fn := fun _ => fun
  | [d1, d2] => { results := [.lit (.bool true)], args := [d1, d2] }
  | _ => none }
def fnWholeScriptRow : OpenClaim := { program := "ytcfblkkpclfmaaagreat", sum := "dc8002ec5deefa27645b98ce821838dbd8776c61cf983d047424aab84b36cd2c", func := "pub-tablature/laws.FnWholeScript", spec := "fnWholeScript", inPlace := ["math.Float32frombits", "math.Float32bits", "math.Float64frombits", "math.Float64bits"], unfollowed := true, recurses := true, loops := true, apart := false }
def FnWholeScriptSaid : Prop := fnWholeScriptRow.holds Tryz.pinned (OpenSpec.ofChange fnWholeScriptSpec)

/-- ITS FALSE NEIGHBOUR: 'it returns false'. Refute it at one input. -/
def fnWholeScriptWrong : ChangeSpec := { name := "fnWholeScript", fn := fun _ => fun
  | [d1, d2] => { results := [.lit (.bool false)], args := [d1, d2] }
  | _ => none }
def FnWholeScriptWrongFalsely : Prop := fnWholeScriptRow.holds Tryz.pinned (OpenSpec.ofChange fnWholeScriptWrong)

/-- 'laws.FnWholeMutate': WHATEVER THE INPUT: true; the input reads as it did. -/
def fnWholeMutateSpec : ChangeSpec := { name := "fnWholeMutate", fn := fun _ => fun
  | [d1, d2, d3, d4] => { results := [.lit (.bool true)], args := [d1, d2, d3, d4] }
  | _ => none }
def fnWholeMutateRow : OpenClaim := { program := "ytcfblkkpclfmaaagreat", sum := "dc8002ec5deefa27645b98ce821838dbd8776c61cf983d047424aab84b36cd2c", func := "pub-tablature/laws.FnWholeMutate", spec := "fnWholeMutate", inPlace := ["math.Float32frombits", "math.Float32bits", "math.Float64frombits", "math.Float64bits"], unfollowed := true, recurses := true, loops := true, apart := false }
def FnWholeMutateSaid : Prop := fnWholeMutateRow.holds Tryz.pinned (OpenSpec.ofChange fnWholeMutateSpec)

/-- ITS FALSE NEIGHBOUR: 'it returns false'. Refute it at one input. -/
def fnWholeMutateWrong : ChangeSpec := { name := "fnWholeMutate", fn := fun _ => fun
  | [d1, d2, d3, d4] => { results := [.lit (.bool false)], args := [d1, d2, d3, d4] }
  | _ => none }
def FnWholeMutateWrongFalsely : Prop := fnWholeMutateRow.holds Tryz.pinned (OpenSpec.ofChange fnWholeMutateWrong)

/-- 'laws.FnAgain': WHATEVER THE INPUT: true; the input reads as it did. -/
def fnAgainSpec : ChangeSpec := { name := "fnAgain", fn := fun _ => fun
  | [d1, d2] => { results := [.lit (.bool true)], args := [d1, d2] }
  | _ => none }
def fnAgainRow : OpenClaim := { program := "ytcfblkkpclfmaaagreat", sum := "dc8002ec5deefa27645b98ce821838dbd8776c61cf983d047424aab84b36cd2c", func := "pub-tablature/laws.FnAgain", spec := "fnAgain", inPlace := ["math.Float32frombits", "math.Float32bits", "math.Float64frombits", "math.Float64bits"], unfollowed := true, recurses := true, loops := true, apart := false }
def FnAgainSaid : Prop := fnAgainRow.holds Tryz.pinned (OpenSpec.ofChange fnAgainSpec)

/-- ITS FALSE NEIGHBOUR: 'it returns false'. Refute it at one input. -/
def fnAgainWrong : ChangeSpec := { name := "fnAgain", fn := fun _ => fun
  | [d1, d2] => { results := [.lit (.bool false)], args := [d1, d2] }
  | _ => none }
def FnAgainWrongFalsely : Prop := fnAgainRow.holds Tryz.pinned (OpenSpec.ofChange fnAgainWrong)

/-- 'laws.FnBuilt': WHATEVER THE INPUT: true; the input reads as it did. -/
def fnBuiltSpec : ChangeSpec := { name := "fnBuilt", fn := fun _ => fun
  | [d1, d2] => { results := [.lit (.bool true)], args := [d1, d2] }
  | _ => none }
def fnBuiltRow : OpenClaim := { program := "ytcfblkkpclfmaaagreat", sum := "dc8002ec5deefa27645b98ce821838dbd8776c61cf983d047424aab84b36cd2c", func := "pub-tablature/laws.FnBuilt", spec := "fnBuilt", inPlace := ["math.Float32frombits", "math.Float32bits", "math.Float64frombits", "math.Float64bits"], unfollowed := true, recurses := true, loops := true, apart := false }
def FnBuiltSaid : Prop := fnBuiltRow.holds Tryz.pinned (OpenSpec.ofChange fnBuiltSpec)

/-- ITS FALSE NEIGHBOUR: 'it returns false'. Refute it at one input. -/
def fnBuiltWrong : ChangeSpec := { name := "fnBuilt", fn := fun _ => fun
  | [d1, d2] => { results := [.lit (.bool false)], args := [d1, d2] }
  | _ => none }
def FnBuiltWrongFalsely : Prop := fnBuiltRow.holds Tryz.pinned (OpenSpec.ofChange fnBuiltWrong)

/-- 'laws.FnBuiltShared': WHATEVER THE INPUT: true; the input reads as it did. -/
def fnBuiltSharedSpec : ChangeSpec := { name := "fnBuiltShared", fn := fun _ => fun
  | [d1, d2] => { results := [.lit (.bool true)], args := [d1, d2] }
  | _ => none }
def fnBuiltSharedRow : OpenClaim := { program := "ytcfblkkpclfmaaagreat", sum := "dc8002ec5deefa27645b98ce821838dbd8776c61cf983d047424aab84b36cd2c", func := "pub-tablature/laws.FnBuiltShared", spec := "fnBuiltShared", inPlace := ["math.Float32frombits", "math.Float32bits", "math.Float64frombits", "math.Float64bits"], unfollowed := true, recurses := true, loops := true, apart := false }
def FnBuiltSharedSaid : Prop := fnBuiltSharedRow.holds Tryz.pinned (OpenSpec.ofChange fnBuiltSharedSpec)

/-- ITS FALSE NEIGHBOUR: 'it returns false'. Refute it at one input. -/
def fnBuiltSharedWrong : ChangeSpec := { name := "fnBuiltShared", fn := fun _ => fun
  | [d1, d2] => { results := [.lit (.bool false)], args := [d1, d2] }
  | _ => none }
def FnBuiltSharedWrongFalsely : Prop := fnBuiltSharedRow.holds Tryz.pinned (OpenSpec.ofChange fnBuiltSharedWrong)

/-- 'laws.FnBuiltSize': WHATEVER THE INPUT: true; the input reads as it did. -/
def fnBuiltSizeSpec : ChangeSpec := { name := "fnBuiltSize", fn := fun _ => fun
  | [d1, d2, d3] => { results := [.lit (.bool true)], args := [d1, d2, d3] }
  | _ => none }
def fnBuiltSizeRow : OpenClaim := { program := "ytcfblkkpclfmaaagreat", sum := "dc8002ec5deefa27645b98ce821838dbd8776c61cf983d047424aab84b36cd2c", func := "pub-tablature/laws.FnBuiltSize", spec := "fnBuiltSize", inPlace := ["math.Float32frombits", "math.Float32bits", "math.Float64frombits", "math.Float64bits"], unfollowed := true, recurses := true, loops := true, apart := false }
def FnBuiltSizeSaid : Prop := fnBuiltSizeRow.holds Tryz.pinned (OpenSpec.ofChange fnBuiltSizeSpec)

/-- ITS FALSE NEIGHBOUR: 'it returns false'. Refute it at one input. -/
def fnBuiltSizeWrong : ChangeSpec := { name := "fnBuiltSize", fn := fun _ => fun
  | [d1, d2, d3] => { results := [.lit (.bool false)], args := [d1, d2, d3] }
  | _ => none }
def FnBuiltSizeWrongFalsely : Prop := fnBuiltSizeRow.holds Tryz.pinned (OpenSpec.ofChange fnBuiltSizeWrong)

/-- 'laws.FnEvolved': WHATEVER THE INPUT: true; the input reads as it did. -/
def fnEvolvedSpec : ChangeSpec := { name := "fnEvolved", fn := fun _ => fun
  | [d1, d2, d3, d4] => { results := [.lit (.bool true)], args := [d1, d2, d3, d4] }
  | _ => none }
def fnEvolvedRow : OpenClaim := { program := "ytcfblkkpclfmaaagreat", sum := "dc8002ec5deefa27645b98ce821838dbd8776c61cf983d047424aab84b36cd2c", func := "pub-tablature/laws.FnEvolved", spec := "fnEvolved", inPlace := ["math.Float32frombits", "math.Float32bits", "math.Float64frombits", "math.Float64bits"], unfollowed := true, recurses := true, loops := true, apart := false }
def FnEvolvedSaid : Prop := fnEvolvedRow.holds Tryz.pinned (OpenSpec.ofChange fnEvolvedSpec)

/-- ITS FALSE NEIGHBOUR: 'it returns false'. Refute it at one input. -/
def fnEvolvedWrong : ChangeSpec := { name := "fnEvolved", fn := fun _ => fun
  | [d1, d2, d3, d4] => { results := [.lit (.bool false)], args := [d1, d2, d3, d4] }
  | _ => none }
def FnEvolvedWrongFalsely : Prop := fnEvolvedRow.holds Tryz.pinned (OpenSpec.ofChange fnEvolvedWrong)

/-- 'laws.FnIdentifier': WHATEVER THE INPUT: true; the input reads as it did. -/
def fnIdentifierSpec : ChangeSpec := { name := "fnIdentifier", fn := fun _ => fun
  | [d1, d2, d3] => { results := [.lit (.bool true)], args := [d1, d2, d3] }
  | _ => none }
def fnIdentifierRow : OpenClaim := { program := "ytcfblkkpclfmaaagreat", sum := "dc8002ec5deefa27645b98ce821838dbd8776c61cf983d047424aab84b36cd2c", func := "pub-tablature/laws.FnIdentifier", spec := "fnIdentifier", inPlace := ["math.Float32frombits", "math.Float32bits", "math.Float64frombits", "math.Float64bits"], unfollowed := true, recurses := true, loops := true, apart := false }
def FnIdentifierSaid : Prop := fnIdentifierRow.holds Tryz.pinned (OpenSpec.ofChange fnIdentifierSpec)

/-- ITS FALSE NEIGHBOUR: 'it returns false'. Refute it at one input. -/
def fnIdentifierWrong : ChangeSpec := { name := "fnIdentifier", fn := fun _ => fun
  | [d1, d2, d3] => { results := [.lit (.bool false)], args := [d1, d2, d3] }
  | _ => none }
def FnIdentifierWrongFalsely : Prop := fnIdentifierRow.holds Tryz.pinned (OpenSpec.ofChange fnIdentifierWrong)

/-- 'laws.FnNested': WHATEVER THE INPUT: true; the input reads as it did. -/
def fnNestedSpec : ChangeSpec := { name := "fnNested", fn := fun _ => fun
  | [d1, d2, d3] => { results := [.lit (.bool true)], args := [d1, d2, d3] }
  | _ => none }
def fnNestedRow : OpenClaim := { program := "ytcfblkkpclfmaaagreat", sum := "dc8002ec5deefa27645b98ce821838dbd8776c61cf983d047424aab84b36cd2c", func := "pub-tablature/laws.FnNested", spec := "fnNested", inPlace := ["math.Float32frombits", "math.Float32bits", "math.Float64frombits", "math.Float64bits"], unfollowed := true, recurses := true, loops := true, apart := false }
def FnNestedSaid : Prop := fnNestedRow.holds Tryz.pinned (OpenSpec.ofChange fnNestedSpec)

/-- ITS FALSE NEIGHBOUR: 'it returns false'. Refute it at one input. -/
def fnNestedWrong : ChangeSpec := { name := "fnNested", fn := fun _ => fun
  | [d1, d2, d3] => { results := [.lit (.bool false)], args := [d1, d2, d3] }
  | _ => none }
def FnNestedWrongFalsely : Prop := fnNestedRow.holds Tryz.pinned (OpenSpec.ofChange fnNestedWrong)

/-- 'laws.FnRead': WHATEVER THE INPUT: true; the input reads as it did. -/
def fnReadSpec : ChangeSpec := { name := "fnRead", fn := fun _ => fun
  | [d1, d2] => { results := [.lit (.bool true)], args := [d1, d2] }
  | _ => none }
def fnReadRow : OpenClaim := { program := "ytcfblkkpclfmaaagreat", sum := "dc8002ec5deefa27645b98ce821838dbd8776c61cf983d047424aab84b36cd2c", func := "pub-tablature/laws.FnRead", spec := "fnRead", inPlace := ["math.Float32frombits", "math.Float32bits", "math.Float64frombits", "math.Float64bits"], unfollowed := true, recurses := true, loops := true, apart := false }
def FnReadSaid : Prop := fnReadRow.holds Tryz.pinned (OpenSpec.ofChange fnReadSpec)

/-- ITS FALSE NEIGHBOUR: 'it returns false'. Refute it at one input. -/
def fnReadWrong : ChangeSpec := { name := "fnRead", fn := fun _ => fun
  | [d1, d2] => { results := [.lit (.bool false)], args := [d1, d2] }
  | _ => none }
def FnReadWrongFalsely : Prop := fnReadRow.holds Tryz.pinned (OpenSpec.ofChange fnReadWrong)

/-- 'laws.FnReadOther': WHATEVER THE INPUT: true; the input reads as it did. -/
def fnReadOtherSpec : ChangeSpec := { name := "fnReadOther", fn := fun _ => fun
  | [d] => { results := [.lit (.bool true)], args := [d] }
  | _ => none }
def fnReadOtherRow : OpenClaim := { program := "ytcfblkkpclfmaaagreat", sum := "dc8002ec5deefa27645b98ce821838dbd8776c61cf983d047424aab84b36cd2c", func := "pub-tablature/laws.FnReadOther", spec := "fnReadOther", inPlace := ["math.Float32frombits", "math.Float32bits", "math.Float64frombits", "math.Float64bits"], unfollowed := true, recurses := true, loops := true, apart := false }
def FnReadOtherSaid : Prop := fnReadOtherRow.holds Tryz.pinned (OpenSpec.ofChange fnReadOtherSpec)

/-- ITS FALSE NEIGHBOUR: 'it returns false'. Refute it at one input. -/
def fnReadOtherWrong : ChangeSpec := { name := "fnReadOther", fn := fun _ => fun
  | [d] => { results := [.lit (.bool false)], args := [d] }
  | _ => none }
def FnReadOtherWrongFalsely : Prop := fnReadOtherRow.holds Tryz.pinned (OpenSpec.ofChange fnReadOtherWrong)

/-- 'laws.FnTrimmed': WHATEVER THE INPUT: true; the input reads as it did. -/
def fnTrimmedSpec : ChangeSpec := { name := "fnTrimmed", fn := fun _ => fun
  | [d1, d2, d3] => { results := [.lit (.bool true)], args := [d1, d2, d3] }
  | _ => none }
def fnTrimmedRow : OpenClaim := { program := "ytcfblkkpclfmaaagreat", sum := "dc8002ec5deefa27645b98ce821838dbd8776c61cf983d047424aab84b36cd2c", func := "pub-tablature/laws.FnTrimmed", spec := "fnTrimmed", inPlace := ["math.Float32frombits", "math.Float32bits", "math.Float64frombits", "math.Float64bits"], unfollowed := true, recurses := true, loops := true, apart := false }
def FnTrimmedSaid : Prop := fnTrimmedRow.holds Tryz.pinned (OpenSpec.ofChange fnTrimmedSpec)

/-- ITS FALSE NEIGHBOUR: 'it returns false'. Refute it at one input. -/
def fnTrimmedWrong : ChangeSpec := { name := "fnTrimmed", fn := fun _ => fun
  | [d1, d2, d3] => { results := [.lit (.bool false)], args := [d1, d2, d3] }
  | _ => none }
def FnTrimmedWrongFalsely : Prop := fnTrimmedRow.holds Tryz.pinned (OpenSpec.ofChange fnTrimmedWrong)

/-- 'laws.FnVtables': WHATEVER THE INPUT: true; the input reads as it did. -/
def fnVtablesSpec : ChangeSpec := { name := "fnVtables", fn := fun _ => fun
  | [d1, d2] => { results := [.lit (.bool true)], args := [d1, d2] }
  | _ => none }
def fnVtablesRow : OpenClaim := { program := "ytcfblkkpclfmaaagreat", sum := "dc8002ec5deefa27645b98ce821838dbd8776c61cf983d047424aab84b36cd2c", func := "pub-tablature/laws.FnVtables", spec := "fnVtables", inPlace := ["math.Float32frombits", "math.Float32bits", "math.Float64frombits", "math.Float64bits"], unfollowed := true, recurses := true, loops := true, apart := false }
def FnVtablesSaid : Prop := fnVtablesRow.holds Tryz.pinned (OpenSpec.ofChange fnVtablesSpec)

/-- ITS FALSE NEIGHBOUR: 'it returns false'. Refute it at one input. -/
def fnVtablesWrong : ChangeSpec := { name := "fnVtables", fn := fun _ => fun
  | [d1, d2] => { results := [.lit (.bool false)], args := [d1, d2] }
  | _ => none }
def FnVtablesWrongFalsely : Prop := fnVtablesRow.holds Tryz.pinned (OpenSpec.ofChange fnVtablesWrong)

/- THE SECOND FORM. 'bulk': how many values and letters a reading holds, each counted each time it is reached (what is shared counts as often as it is met; a slice's spare places count too). A statement '..UptoSaid' is the law's where the arguments, and the package variables that the reading takes, are together of bulk at most 1048576: NARROWER than '..Said'. Prove '..Said' where nothing that the law and all that it calls make is longer than what came in: it says more and counts as full. Else prove '..UptoSaid'. A law counts once. -/
mutual
def uptoBulk {H : Type} : DataW H → Nat
  | .lit (.string bytes) => bytes.length + 1
  | .lit _ => 1
  | .nil => 1
  | .ptr d => uptoBulk d + 1
  | .slice elems spare => uptoBulkAll elems + uptoBulkAll spare + 1
  | .agg parts => uptoBulkAll parts + 1
  | .iface _ d => uptoBulk d + 1
  | .map entries => uptoBulkEntries entries + 1
  | .held _ => 1
def uptoBulkAll {H : Type} : List (DataW H) → Nat
  | [] => 0
  | d :: r => uptoBulk d + uptoBulkAll r
def uptoBulkEntries {H : Type} : List (Lit × DataW H) → Nat
  | [] => 0
  | x :: r => uptoBulkEntry x + uptoBulkEntries r
def uptoBulkEntry {H : Type} : Lit × DataW H → Nat
  | (.string bytes, d) => bytes.length + uptoBulk d + 1
  | (_, d) => uptoBulk d + 1
 end
def uptoSmall : (H : Type) → List (DataW H) → Bool := fun _ ds => decide (uptoBulkAll ds ≤ 1048576)
def OpenSpec.upto (s : _root_.Go.ChangeSpec) : _root_.Go.OpenSpec := { _root_.Go.OpenSpec.ofChange s with cond := some uptoSmall }

/-- 'laws.FnWholeScript', WHERE WHAT IT READS IS OF BULK AT MOST 1048576: true; the input reads as it did. -/
def fnWholeScriptUptoRow : OpenClaim := { program := "ytcfblkkpclfmaaagreat", sum := "dc8002ec5deefa27645b98ce821838dbd8776c61cf983d047424aab84b36cd2c", func := "pub-tablature/laws.FnWholeScript", spec := "fnWholeScript", inPlace := ["math.Float32frombits", "math.Float32bits", "math.Float64frombits", "math.Float64bits"], unfollowed := true, recurses := true, loops := true, apart := false, narrowed := true }
def FnWholeScriptUptoSaid : Prop := fnWholeScriptUptoRow.holds Tryz.pinned (OpenSpec.upto fnWholeScriptSpec)

/-- 'laws.FnWholeMutate', WHERE WHAT IT READS IS OF BULK AT MOST 1048576: true; the input reads as it did. -/
def fnWholeMutateUptoRow : OpenClaim := { program := "ytcfblkkpclfmaaagreat", sum := "dc8002ec5deefa27645b98ce821838dbd8776c61cf983d047424aab84b36cd2c", func := "pub-tablature/laws.FnWholeMutate", spec := "fnWholeMutate", inPlace := ["math.Float32frombits", "math.Float32bits", "math.Float64frombits", "math.Float64bits"], unfollowed := true, recurses := true, loops := true, apart := false, narrowed := true }
def FnWholeMutateUptoSaid : Prop := fnWholeMutateUptoRow.holds Tryz.pinned (OpenSpec.upto fnWholeMutateSpec)

/-- 'laws.FnAgain', WHERE WHAT IT READS IS OF BULK AT MOST 1048576: true; the input reads as it did. -/
def fnAgainUptoRow : OpenClaim := { program := "ytcfblkkpclfmaaagreat", sum := "dc8002ec5deefa27645b98ce821838dbd8776c61cf983d047424aab84b36cd2c", func := "pub-tablature/laws.FnAgain", spec := "fnAgain", inPlace := ["math.Float32frombits", "math.Float32bits", "math.Float64frombits", "math.Float64bits"], unfollowed := true, recurses := true, loops := true, apart := false, narrowed := true }
def FnAgainUptoSaid : Prop := fnAgainUptoRow.holds Tryz.pinned (OpenSpec.upto fnAgainSpec)

/-- 'laws.FnBuilt', WHERE WHAT IT READS IS OF BULK AT MOST 1048576: true; the input reads as it did. -/
def fnBuiltUptoRow : OpenClaim := { program := "ytcfblkkpclfmaaagreat", sum := "dc8002ec5deefa27645b98ce821838dbd8776c61cf983d047424aab84b36cd2c", func := "pub-tablature/laws.FnBuilt", spec := "fnBuilt", inPlace := ["math.Float32frombits", "math.Float32bits", "math.Float64frombits", "math.Float64bits"], unfollowed := true, recurses := true, loops := true, apart := false, narrowed := true }
def FnBuiltUptoSaid : Prop := fnBuiltUptoRow.holds Tryz.pinned (OpenSpec.upto fnBuiltSpec)

/-- 'laws.FnBuiltShared', WHERE WHAT IT READS IS OF BULK AT MOST 1048576: true; the input reads as it did. -/
def fnBuiltSharedUptoRow : OpenClaim := { program := "ytcfblkkpclfmaaagreat", sum := "dc8002ec5deefa27645b98ce821838dbd8776c61cf983d047424aab84b36cd2c", func := "pub-tablature/laws.FnBuiltShared", spec := "fnBuiltShared", inPlace := ["math.Float32frombits", "math.Float32bits", "math.Float64frombits", "math.Float64bits"], unfollowed := true, recurses := true, loops := true, apart := false, narrowed := true }
def FnBuiltSharedUptoSaid : Prop := fnBuiltSharedUptoRow.holds Tryz.pinned (OpenSpec.upto fnBuiltSharedSpec)

/-- 'laws.FnBuiltSize', WHERE WHAT IT READS IS OF BULK AT MOST 1048576: true; the input reads as it did. -/
def fnBuiltSizeUptoRow : OpenClaim := { program := "ytcfblkkpclfmaaagreat", sum := "dc8002ec5deefa27645b98ce821838dbd8776c61cf983d047424aab84b36cd2c", func := "pub-tablature/laws.FnBuiltSize", spec := "fnBuiltSize", inPlace := ["math.Float32frombits", "math.Float32bits", "math.Float64frombits", "math.Float64bits"], unfollowed := true, recurses := true, loops := true, apart := false, narrowed := true }
def FnBuiltSizeUptoSaid : Prop := fnBuiltSizeUptoRow.holds Tryz.pinned (OpenSpec.upto fnBuiltSizeSpec)

/-- 'laws.FnEvolved', WHERE WHAT IT READS IS OF BULK AT MOST 1048576: true; the input reads as it did. -/
def fnEvolvedUptoRow : OpenClaim := { program := "ytcfblkkpclfmaaagreat", sum := "dc8002ec5deefa27645b98ce821838dbd8776c61cf983d047424aab84b36cd2c", func := "pub-tablature/laws.FnEvolved", spec := "fnEvolved", inPlace := ["math.Float32frombits", "math.Float32bits", "math.Float64frombits", "math.Float64bits"], unfollowed := true, recurses := true, loops := true, apart := false, narrowed := true }
def FnEvolvedUptoSaid : Prop := fnEvolvedUptoRow.holds Tryz.pinned (OpenSpec.upto fnEvolvedSpec)

/-- 'laws.FnIdentifier', WHERE WHAT IT READS IS OF BULK AT MOST 1048576: true; the input reads as it did. -/
def fnIdentifierUptoRow : OpenClaim := { program := "ytcfblkkpclfmaaagreat", sum := "dc8002ec5deefa27645b98ce821838dbd8776c61cf983d047424aab84b36cd2c", func := "pub-tablature/laws.FnIdentifier", spec := "fnIdentifier", inPlace := ["math.Float32frombits", "math.Float32bits", "math.Float64frombits", "math.Float64bits"], unfollowed := true, recurses := true, loops := true, apart := false, narrowed := true }
def FnIdentifierUptoSaid : Prop := fnIdentifierUptoRow.holds Tryz.pinned (OpenSpec.upto fnIdentifierSpec)

/-- 'laws.FnNested', WHERE WHAT IT READS IS OF BULK AT MOST 1048576: true; the input reads as it did. -/
def fnNestedUptoRow : OpenClaim := { program := "ytcfblkkpclfmaaagreat", sum := "dc8002ec5deefa27645b98ce821838dbd8776c61cf983d047424aab84b36cd2c", func := "pub-tablature/laws.FnNested", spec := "fnNested", inPlace := ["math.Float32frombits", "math.Float32bits", "math.Float64frombits", "math.Float64bits"], unfollowed := true, recurses := true, loops := true, apart := false, narrowed := true }
def FnNestedUptoSaid : Prop := fnNestedUptoRow.holds Tryz.pinned (OpenSpec.upto fnNestedSpec)

/-- 'laws.FnRead', WHERE WHAT IT READS IS OF BULK AT MOST 1048576: true; the input reads as it did. -/
def fnReadUptoRow : OpenClaim := { program := "ytcfblkkpclfmaaagreat", sum := "dc8002ec5deefa27645b98ce821838dbd8776c61cf983d047424aab84b36cd2c", func := "pub-tablature/laws.FnRead", spec := "fnRead", inPlace := ["math.Float32frombits", "math.Float32bits", "math.Float64frombits", "math.Float64bits"], unfollowed := true, recurses := true, loops := true, apart := false, narrowed := true }
def FnReadUptoSaid : Prop := fnReadUptoRow.holds Tryz.pinned (OpenSpec.upto fnReadSpec)

/-- 'laws.FnReadOther', WHERE WHAT IT READS IS OF BULK AT MOST 1048576: true; the input reads as it did. -/
def fnReadOtherUptoRow : OpenClaim := { program := "ytcfblkkpclfmaaagreat", sum := "dc8002ec5deefa27645b98ce821838dbd8776c61cf983d047424aab84b36cd2c", func := "pub-tablature/laws.FnReadOther", spec := "fnReadOther", inPlace := ["math.Float32frombits", "math.Float32bits", "math.Float64frombits", "math.Float64bits"], unfollowed := true, recurses := true, loops := true, apart := false, narrowed := true }
def FnReadOtherUptoSaid : Prop := fnReadOtherUptoRow.holds Tryz.pinned (OpenSpec.upto fnReadOtherSpec)

/-- 'laws.FnTrimmed', WHERE WHAT IT READS IS OF BULK AT MOST 1048576: true; the input reads as it did. -/
def fnTrimmedUptoRow : OpenClaim := { program := "ytcfblkkpclfmaaagreat", sum := "dc8002ec5deefa27645b98ce821838dbd8776c61cf983d047424aab84b36cd2c", func := "pub-tablature/laws.FnTrimmed", spec := "fnTrimmed", inPlace := ["math.Float32frombits", "math.Float32bits", "math.Float64frombits", "math.Float64bits"], unfollowed := true, recurses := true, loops := true, apart := false, narrowed := true }
def FnTrimmedUptoSaid : Prop := fnTrimmedUptoRow.holds Tryz.pinned (OpenSpec.upto fnTrimmedSpec)

/-- 'laws.FnVtables', WHERE WHAT IT READS IS OF BULK AT MOST 1048576: true; the input reads as it did. -/
def fnVtablesUptoRow : OpenClaim := { program := "ytcfblkkpclfmaaagreat", sum := "dc8002ec5deefa27645b98ce821838dbd8776c61cf983d047424aab84b36cd2c", func := "pub-tablature/laws.FnVtables", spec := "fnVtables", inPlace := ["math.Float32frombits", "math.Float32bits", "math.Float64frombits", "math.Float64bits"], unfollowed := true, recurses := true, loops := true, apart := false, narrowed := true }
def FnVtablesUptoSaid : Prop := fnVtablesUptoRow.holds Tryz.pinned (OpenSpec.upto fnVtablesSpec)

end Rows
end Go.Proofs.YtcfblkkpclfmaaaGreat
