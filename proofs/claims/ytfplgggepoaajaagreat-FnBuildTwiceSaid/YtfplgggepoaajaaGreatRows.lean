/-
  No cell of these rows narrows 'for every input' (looked for: loops, veiled, ifaces, maps, wideKeys, modest, calm, conditions, laid).
  DERIVED. THE GIVEN ROWS OF THIS SEAT. 8 by the template 'for every input the law returns true; each argument reads behind the call as it read before'; 0 by the template 'total and deterministic' (their statements: YtfplgggepoaajaaGreatTotals.lean).
  GIVEN WITH THE SEED: the statements are not yours to turn. If you find one false, say at which input.
  Laid BY PROGRAM, IN A SANDBOX (cutbox-rows.mjs): the forced cells as the released guide's own fill.sh prints them over the translation f657433a48c0c076… (all of the seat's roots in one cut). By AI agents, Wed Nov 11 2026. No macro, syntax, notation, axiom, sorry.
-/
import Derived.Test.YtfplgggepoaajaaGreatChecked
import GoSem.Claim
import GoSem.ClaimJoined
import GoSem.ClaimMapViews
import Derived.JoinedTies
import Derived.KernelRfl
namespace Go.Proofs.YtfplgggepoaajaaGreat
/- THE CELL 'sum', in the pinned program and in every row, IS THE sha256 OF THE DUMP (.gsa) THAT YtfplgggepoaajaaGreatProg.lean LOADS. Nothing in Lean hashes anything: it is a label: what it is worth is what the hold of that sum in a sandbox is worth. -/
noncomputable def Tryz.pinned : Pinned := { name := "ytfplgggepoaajaagreat", sum := "f657433a48c0c076885b549792d292ab3057fac7de77da5bf1f7b0d1195b3efe", checked := Tryz.checked }
namespace Rows
def none {H : Type} : Left H := { results := [], args := [] }

/-- 'laws.FnBuildDefault': WHATEVER THE INPUT: true; the input reads as it did. -/
def fnBuildDefaultSpec : ChangeSpec := { name := "fnBuildDefault", fn := fun _ => fun
  | [d1, d2, d3, d4] => { results := [.lit (.bool true)], args := [d1, d2, d3, d4] }
  | _ => none }
def fnBuildDefaultRow : OpenClaim := { program := "ytfplgggepoaajaagreat", sum := "f657433a48c0c076885b549792d292ab3057fac7de77da5bf1f7b0d1195b3efe", func := "pub-tablature/laws.FnBuildDefault", spec := "fnBuildDefault", inPlace := ["math.Float32frombits", "math.Float32bits", "math.Float64frombits", "math.Float64bits"], unfollowed := true, recurses := true, apart := false }
def FnBuildDefaultSaid : Prop := fnBuildDefaultRow.holds Tryz.pinned (OpenSpec.ofChange fnBuildDefaultSpec)

/-- ITS FALSE NEIGHBOUR: 'it returns false'. Refute it at one input. -/
def fnBuildDefaultWrong : ChangeSpec := { name := "fnBuildDefault", fn := fun _ => fun
  | [d1, d2, d3, d4] => { results := [.lit (.bool false)], args := [d1, d2, d3, d4] }
  | _ => none }
def FnBuildDefaultWrongFalsely : Prop := fnBuildDefaultRow.holds Tryz.pinned (OpenSpec.ofChange fnBuildDefaultWrong)

/-- 'laws.FnBuildFinish': WHATEVER THE INPUT: true; the input reads as it did. -/
def fnBuildFinishSpec : ChangeSpec := { name := "fnBuildFinish", fn := fun _ => fun
  | [d1, d2, d3, d4] => { results := [.lit (.bool true)], args := [d1, d2, d3, d4] }
  | _ => none }
def fnBuildFinishRow : OpenClaim := { program := "ytfplgggepoaajaagreat", sum := "f657433a48c0c076885b549792d292ab3057fac7de77da5bf1f7b0d1195b3efe", func := "pub-tablature/laws.FnBuildFinish", spec := "fnBuildFinish", inPlace := ["math.Float32frombits", "math.Float32bits", "math.Float64frombits", "math.Float64bits"], unfollowed := true, recurses := true, apart := false }
def FnBuildFinishSaid : Prop := fnBuildFinishRow.holds Tryz.pinned (OpenSpec.ofChange fnBuildFinishSpec)

/-- ITS FALSE NEIGHBOUR: 'it returns false'. Refute it at one input. -/
def fnBuildFinishWrong : ChangeSpec := { name := "fnBuildFinish", fn := fun _ => fun
  | [d1, d2, d3, d4] => { results := [.lit (.bool false)], args := [d1, d2, d3, d4] }
  | _ => none }
def FnBuildFinishWrongFalsely : Prop := fnBuildFinishRow.holds Tryz.pinned (OpenSpec.ofChange fnBuildFinishWrong)

/-- 'laws.FnBuildForward': WHATEVER THE INPUT: true; the input reads as it did. -/
def fnBuildForwardSpec : ChangeSpec := { name := "fnBuildForward", fn := fun _ => fun
  | [d1, d2] => { results := [.lit (.bool true)], args := [d1, d2] }
  | _ => none }
def fnBuildForwardRow : OpenClaim := { program := "ytfplgggepoaajaagreat", sum := "f657433a48c0c076885b549792d292ab3057fac7de77da5bf1f7b0d1195b3efe", func := "pub-tablature/laws.FnBuildForward", spec := "fnBuildForward", inPlace := ["math.Float32frombits", "math.Float32bits", "math.Float64frombits", "math.Float64bits"], unfollowed := true, recurses := true, apart := false }
def FnBuildForwardSaid : Prop := fnBuildForwardRow.holds Tryz.pinned (OpenSpec.ofChange fnBuildForwardSpec)

/-- ITS FALSE NEIGHBOUR: 'it returns false'. Refute it at one input. -/
def fnBuildForwardWrong : ChangeSpec := { name := "fnBuildForward", fn := fun _ => fun
  | [d1, d2] => { results := [.lit (.bool false)], args := [d1, d2] }
  | _ => none }
def FnBuildForwardWrongFalsely : Prop := fnBuildForwardRow.holds Tryz.pinned (OpenSpec.ofChange fnBuildForwardWrong)

/-- 'laws.FnBuildOrder': WHATEVER THE INPUT: true; the input reads as it did. -/
def fnBuildOrderSpec : ChangeSpec := { name := "fnBuildOrder", fn := fun _ => fun
  | [d1, d2] => { results := [.lit (.bool true)], args := [d1, d2] }
  | _ => none }
def fnBuildOrderRow : OpenClaim := { program := "ytfplgggepoaajaagreat", sum := "f657433a48c0c076885b549792d292ab3057fac7de77da5bf1f7b0d1195b3efe", func := "pub-tablature/laws.FnBuildOrder", spec := "fnBuildOrder", inPlace := ["math.Float32frombits", "math.Float32bits", "math.Float64frombits", "math.Float64bits"], unfollowed := true, recurses := true, apart := false }
def FnBuildOrderSaid : Prop := fnBuildOrderRow.holds Tryz.pinned (OpenSpec.ofChange fnBuildOrderSpec)

/-- ITS FALSE NEIGHBOUR: 'it returns false'. Refute it at one input. -/
def fnBuildOrderWrong : ChangeSpec := { name := "fnBuildOrder", fn := fun _ => fun
  | [d1, d2] => { results := [.lit (.bool false)], args := [d1, d2] }
  | _ => none }
def FnBuildOrderWrongFalsely : Prop := fnBuildOrderRow.holds Tryz.pinned (OpenSpec.ofChange fnBuildOrderWrong)

/-- 'laws.FnBuildPart': WHATEVER THE INPUT: true; the input reads as it did. -/
def fnBuildPartSpec : ChangeSpec := { name := "fnBuildPart", fn := fun _ => fun
  | [d1, d2] => { results := [.lit (.bool true)], args := [d1, d2] }
  | _ => none }
def fnBuildPartRow : OpenClaim := { program := "ytfplgggepoaajaagreat", sum := "f657433a48c0c076885b549792d292ab3057fac7de77da5bf1f7b0d1195b3efe", func := "pub-tablature/laws.FnBuildPart", spec := "fnBuildPart", inPlace := ["math.Float32frombits", "math.Float32bits", "math.Float64frombits", "math.Float64bits"], unfollowed := true, recurses := true, apart := false }
def FnBuildPartSaid : Prop := fnBuildPartRow.holds Tryz.pinned (OpenSpec.ofChange fnBuildPartSpec)

/-- ITS FALSE NEIGHBOUR: 'it returns false'. Refute it at one input. -/
def fnBuildPartWrong : ChangeSpec := { name := "fnBuildPart", fn := fun _ => fun
  | [d1, d2] => { results := [.lit (.bool false)], args := [d1, d2] }
  | _ => none }
def FnBuildPartWrongFalsely : Prop := fnBuildPartRow.holds Tryz.pinned (OpenSpec.ofChange fnBuildPartWrong)

/-- 'laws.FnBuildScalar': WHATEVER THE INPUT: true; the input reads as it did. -/
def fnBuildScalarSpec : ChangeSpec := { name := "fnBuildScalar", fn := fun _ => fun
  | [d1, d2, d3] => { results := [.lit (.bool true)], args := [d1, d2, d3] }
  | _ => none }
def fnBuildScalarRow : OpenClaim := { program := "ytfplgggepoaajaagreat", sum := "f657433a48c0c076885b549792d292ab3057fac7de77da5bf1f7b0d1195b3efe", func := "pub-tablature/laws.FnBuildScalar", spec := "fnBuildScalar", inPlace := ["math.Float32frombits", "math.Float32bits", "math.Float64frombits", "math.Float64bits"], unfollowed := true, recurses := true, apart := false }
def FnBuildScalarSaid : Prop := fnBuildScalarRow.holds Tryz.pinned (OpenSpec.ofChange fnBuildScalarSpec)

/-- ITS FALSE NEIGHBOUR: 'it returns false'. Refute it at one input. -/
def fnBuildScalarWrong : ChangeSpec := { name := "fnBuildScalar", fn := fun _ => fun
  | [d1, d2, d3] => { results := [.lit (.bool false)], args := [d1, d2, d3] }
  | _ => none }
def FnBuildScalarWrongFalsely : Prop := fnBuildScalarRow.holds Tryz.pinned (OpenSpec.ofChange fnBuildScalarWrong)

/-- 'laws.FnBuildText': WHATEVER THE INPUT: true; the input reads as it did. -/
def fnBuildTextSpec : ChangeSpec := { name := "fnBuildText", fn := fun _ => fun
  | [d1, d2] => { results := [.lit (.bool true)], args := [d1, d2] }
  | _ => none }
def fnBuildTextRow : OpenClaim := { program := "ytfplgggepoaajaagreat", sum := "f657433a48c0c076885b549792d292ab3057fac7de77da5bf1f7b0d1195b3efe", func := "pub-tablature/laws.FnBuildText", spec := "fnBuildText", inPlace := ["math.Float32frombits", "math.Float32bits", "math.Float64frombits", "math.Float64bits"], unfollowed := true, recurses := true, apart := false }
def FnBuildTextSaid : Prop := fnBuildTextRow.holds Tryz.pinned (OpenSpec.ofChange fnBuildTextSpec)

/-- ITS FALSE NEIGHBOUR: 'it returns false'. Refute it at one input. -/
def fnBuildTextWrong : ChangeSpec := { name := "fnBuildText", fn := fun _ => fun
  | [d1, d2] => { results := [.lit (.bool false)], args := [d1, d2] }
  | _ => none }
def FnBuildTextWrongFalsely : Prop := fnBuildTextRow.holds Tryz.pinned (OpenSpec.ofChange fnBuildTextWrong)

/-- 'laws.FnBuildTwice': WHATEVER THE INPUT: true; the input reads as it did. -/
def fnBuildTwiceSpec : ChangeSpec := { name := "fnBuildTwice", fn := fun _ => fun
  | [d1, d2, d3] => { results := [.lit (.bool true)], args := [d1, d2, d3] }
  | _ => none }
def fnBuildTwiceRow : OpenClaim := { program := "ytfplgggepoaajaagreat", sum := "f657433a48c0c076885b549792d292ab3057fac7de77da5bf1f7b0d1195b3efe", func := "pub-tablature/laws.FnBuildTwice", spec := "fnBuildTwice", inPlace := ["math.Float32frombits", "math.Float32bits", "math.Float64frombits", "math.Float64bits"], unfollowed := true, recurses := true, apart := false }
def FnBuildTwiceSaid : Prop := fnBuildTwiceRow.holds Tryz.pinned (OpenSpec.ofChange fnBuildTwiceSpec)

/-- ITS FALSE NEIGHBOUR: 'it returns false'. Refute it at one input. -/
def fnBuildTwiceWrong : ChangeSpec := { name := "fnBuildTwice", fn := fun _ => fun
  | [d1, d2, d3] => { results := [.lit (.bool false)], args := [d1, d2, d3] }
  | _ => none }
def FnBuildTwiceWrongFalsely : Prop := fnBuildTwiceRow.holds Tryz.pinned (OpenSpec.ofChange fnBuildTwiceWrong)

/- THE SECOND FORM. 'bulk': how many values and letters a reading holds, each counted each time it is reached (what is shared counts as often as it is met; a slice's spare places count too). A statement '..UptoSaid' is the law's where the arguments, and the package variables that the reading takes, are together of bulk at most 1048576: NARROWER than '..Said'. Prove '..Said' where nothing that the law and all that it calls make is longer than what came in: it says more and counts as full. Else prove '..UptoSaid'. A law counts once. -/
mutual
def uptoBulk {H : Type} : DataW H → Nat
  | .lit (.string bytes) => bytes.length + 1
  | .lit _ => 1
  | .nil => 1
  | .ptr d => uptoBulk d + 1
  | .slice elems spare => uptoBulkAll elems + uptoBulkAll spare + 1
  | .agg parts => uptoBulkAll parts + 1
  | .iface _ d => uptoBulk d + 1
  | .map entries => uptoBulkEntries entries + 1
  | .held _ => 1
def uptoBulkAll {H : Type} : List (DataW H) → Nat
  | [] => 0
  | d :: r => uptoBulk d + uptoBulkAll r
def uptoBulkEntries {H : Type} : List (Lit × DataW H) → Nat
  | [] => 0
  | x :: r => uptoBulkEntry x + uptoBulkEntries r
def uptoBulkEntry {H : Type} : Lit × DataW H → Nat
  | (.string bytes, d) => bytes.length + uptoBulk d + 1
  | (_, d) => uptoBulk d + 1
 end
def uptoSmall : (H : Type) → List (DataW H) → Bool := fun _ ds => decide (uptoBulkAll ds ≤ 1048576)
def OpenSpec.upto (s : _root_.Go.ChangeSpec) : _root_.Go.OpenSpec := { _root_.Go.OpenSpec.ofChange s with cond := some uptoSmall }

/-- 'laws.FnBuildDefault', WHERE WHAT IT READS IS OF BULK AT MOST 1048576: true; the input reads as it did. -/
def fnBuildDefaultUptoRow : OpenClaim := { program := "ytfplgggepoaajaagreat", sum := "f657433a48c0c076885b549792d292ab3057fac7de77da5bf1f7b0d1195b3efe", func := "pub-tablature/laws.FnBuildDefault", spec := "fnBuildDefault", inPlace := ["math.Float32frombits", "math.Float32bits", "math.Float64frombits", "math.Float64bits"], unfollowed := true, recurses := true, apart := false, narrowed := true }
def FnBuildDefaultUptoSaid : Prop := fnBuildDefaultUptoRow.holds Tryz.pinned (OpenSpec.upto fnBuildDefaultSpec)

/-- 'laws.FnBuildFinish', WHERE WHAT IT READS IS OF BULK AT MOST 1048576: true; the input reads as it did. -/
def fnBuildFinishUptoRow : OpenClaim := { program := "ytfplgggepoaajaagreat", sum := "f657433a48c0c076885b549792d292ab3057fac7de77da5bf1f7b0d1195b3efe", func := "pub-tablature/laws.FnBuildFinish", spec := "fnBuildFinish", inPlace := ["math.Float32frombits", "math.Float32bits", "math.Float64frombits", "math.Float64bits"], unfollowed := true, recurses := true, apart := false, narrowed := true }
def FnBuildFinishUptoSaid : Prop := fnBuildFinishUptoRow.holds Tryz.pinned (OpenSpec.upto fnBuildFinishSpec)

/-- 'laws.FnBuildForward', WHERE WHAT IT READS IS OF BULK AT MOST 1048576: true; the input reads as it did. -/
def fnBuildForwardUptoRow : OpenClaim := { program := "ytfplgggepoaajaagreat", sum := "f657433a48c0c076885b549792d292ab3057fac7de77da5bf1f7b0d1195b3efe", func := "pub-tablature/laws.FnBuildForward", spec := "fnBuildForward", inPlace := ["math.Float32frombits", "math.Float32bits", "math.Float64frombits", "math.Float64bits"], unfollowed := true, recurses := true, apart := false, narrowed := true }
def FnBuildForwardUptoSaid : Prop := fnBuildForwardUptoRow.holds Tryz.pinned (OpenSpec.upto fnBuildForwardSpec)

/-- 'laws.FnBuildOrder', WHERE WHAT IT READS IS OF BULK AT MOST 1048576: true; the input reads as it did. -/
def fnBuildOrderUptoRow : OpenClaim := { program := "ytfplgggepoaajaagreat", sum := "f657433a48c0c076885b549792d292ab3057fac7de77da5bf1f7b0d1195b3efe", func := "pub-tablature/laws.FnBuildOrder", spec := "fnBuildOrder", inPlace := ["math.Float32frombits", "math.Float32bits", "math.Float64frombits", "math.Float64bits"], unfollowed := true, recurses := true, apart := false, narrowed := true }
def FnBuildOrderUptoSaid : Prop := fnBuildOrderUptoRow.holds Tryz.pinned (OpenSpec.upto fnBuildOrderSpec)

/-- 'laws.FnBuildPart', WHERE WHAT IT READS IS OF BULK AT MOST 1048576: true; the input reads as it did. -/
def fnBuildPartUptoRow : OpenClaim := { program := "ytfplgggepoaajaagreat", sum := "f657433a48c0c076885b549792d292ab3057fac7de77da5bf1f7b0d1195b3efe", func := "pub-tablature/laws.FnBuildPart", spec := "fnBuildPart", inPlace := ["math.Float32frombits", "math.Float32bits", "math.Float64frombits", "math.Float64bits"], unfollowed := true, recurses := true, apart := false, narrowed := true }
def FnBuildPartUptoSaid : Prop := fnBuildPartUptoRow.holds Tryz.pinned (OpenSpec.upto fnBuildPartSpec)

/-- 'laws.FnBuildScalar', WHERE WHAT IT READS IS OF BULK AT MOST 1048576: true; the input reads as it did. -/
def fnBuildScalarUptoRow : OpenClaim := { program := "ytfplgggepoaajaagreat", sum := "f657433a48c0c076885b549792d292ab3057fac7de77da5bf1f7b0d1195b3efe", func := "pub-tablature/laws.FnBuildScalar", spec := "fnBuildScalar", inPlace := ["math.Float32frombits", "math.Float32bits", "math.Float64frombits", "math.Float64bits"], unfollowed := true, recurses := true, apart := false, narrowed := true }
def FnBuildScalarUptoSaid : Prop := fnBuildScalarUptoRow.holds Tryz.pinned (OpenSpec.upto fnBuildScalarSpec)

/-- 'laws.FnBuildText', WHERE WHAT IT READS IS OF BULK AT MOST 1048576: true; the input reads as it did. -/
def fnBuildTextUptoRow : OpenClaim := { program := "ytfplgggepoaajaagreat", sum := "f657433a48c0c076885b549792d292ab3057fac7de77da5bf1f7b0d1195b3efe", func := "pub-tablature/laws.FnBuildText", spec := "fnBuildText", inPlace := ["math.Float32frombits", "math.Float32bits", "math.Float64frombits", "math.Float64bits"], unfollowed := true, recurses := true, apart := false, narrowed := true }
def FnBuildTextUptoSaid : Prop := fnBuildTextUptoRow.holds Tryz.pinned (OpenSpec.upto fnBuildTextSpec)

/-- 'laws.FnBuildTwice', WHERE WHAT IT READS IS OF BULK AT MOST 1048576: true; the input reads as it did. -/
def fnBuildTwiceUptoRow : OpenClaim := { program := "ytfplgggepoaajaagreat", sum := "f657433a48c0c076885b549792d292ab3057fac7de77da5bf1f7b0d1195b3efe", func := "pub-tablature/laws.FnBuildTwice", spec := "fnBuildTwice", inPlace := ["math.Float32frombits", "math.Float32bits", "math.Float64frombits", "math.Float64bits"], unfollowed := true, recurses := true, apart := false, narrowed := true }
def FnBuildTwiceUptoSaid : Prop := fnBuildTwiceUptoRow.holds Tryz.pinned (OpenSpec.upto fnBuildTwiceSpec)

end Rows
end Go.Proofs.YtfplgggepoaajaaGreat
