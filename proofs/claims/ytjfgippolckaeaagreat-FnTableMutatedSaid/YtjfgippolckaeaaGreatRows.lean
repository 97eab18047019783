/-
  No cell of these rows narrows 'for every input' (looked for: loops, veiled, ifaces, maps, wideKeys, modest, calm, conditions, laid).
  DERIVED. THE GIVEN ROWS OF THIS SEAT. 5 by the template 'for every input the law returns true; each argument reads behind the call as it read before'; 0 by the template 'total and deterministic' (their statements: YtjfgippolckaeaaGreatTotals.lean).
  GIVEN WITH THE SEED: the statements are not yours to turn. If you find one false, say at which input.
  Laid BY PROGRAM, IN A SANDBOX (cutbox-rows.mjs): the forced cells as the released guide's own fill.sh prints them over the translation 47d262100d146d11… (all of the seat's roots in one cut). By AI agents, Wed Nov 11 2026. No macro, syntax, notation, axiom, sorry.
-/
import Derived.Test.YtjfgippolckaeaaGreatChecked
import GoSem.Claim
import GoSem.ClaimJoined
import GoSem.ClaimMapViews
import Derived.JoinedTies
import Derived.KernelRfl
namespace Go.Proofs.YtjfgippolckaeaaGreat
/- THE CELL 'sum', in the pinned program and in every row, IS THE sha256 OF THE DUMP (.gsa) THAT YtjfgippolckaeaaGreatProg.lean LOADS. Nothing in Lean hashes anything: it is a label: what it is worth is what the hold of that sum in a sandbox is worth. -/
noncomputable def Tryz.pinned : Pinned := { name := "ytjfgippolckaeaagreat", sum := "47d262100d146d11a17d7df1a516784c1783e51b4c97916cce498d9e22e7f847", checked := Tryz.checked }
namespace Rows
def none {H : Type} : Left H := { results := [], args := [] }

/-- 'laws.FnTableMutated': WHATEVER THE INPUT: true; the input reads as it did. -/
def fnTableMutatedSpec : ChangeSpec := { name := "fnTableMutated", fn := fun _ => fun
  | [d1, d2, d3, d4, d5] => { results := [.lit (.bool true)], args := [d1, d2, d3, d4, d5] }
  | _ => none }
def fnTableMutatedRow : OpenClaim := { program := "ytjfgippolckaeaagreat", sum := "47d262100d146d11a17d7df1a516784c1783e51b4c97916cce498d9e22e7f847", func := "pub-tablature/laws.FnTableMutated", spec := "fnTableMutated", inPlace := ["math.Float32frombits", "math.Float32bits", "math.Float64frombits", "math.Float64bits"], unfollowed := true, recurses := true, apart := false }
def FnTableMutatedSaid : Prop := fnTableMutatedRow.holds Tryz.pinned (OpenSpec.ofChange fnTableMutatedSpec)

/-- ITS FALSE NEIGHBOUR: 'it returns false'. Refute it at one input. -/
def fnTableMutatedWrong : ChangeSpec := { name := "fnTableMutated", fn := fun _ => fun
  | [d1, d2, d3, d4, d5] => { results := [.lit (.bool false)], args := [d1, d2, d3, d4, d5] }
  | _ => none }
def FnTableMutatedWrongFalsely : Prop := fnTableMutatedRow.holds Tryz.pinned (OpenSpec.ofChange fnTableMutatedWrong)

/-- 'laws.FnTableRun': WHATEVER THE INPUT: true; the input reads as it did. -/
def fnTableRunSpec : ChangeSpec := { name := "fnTableRun", fn := fun _ => fun
  | [d1, d2, d3] => { results := [.lit (.bool true)], args := [d1, d2, d3] }
  | _ => none }
def fnTableRunRow : OpenClaim := { program := "ytjfgippolckaeaagreat", sum := "47d262100d146d11a17d7df1a516784c1783e51b4c97916cce498d9e22e7f847", func := "pub-tablature/laws.FnTableRun", spec := "fnTableRun", inPlace := ["math.Float32frombits", "math.Float32bits", "math.Float64frombits", "math.Float64bits"], unfollowed := true, recurses := true, apart := false }
def FnTableRunSaid : Prop := fnTableRunRow.holds Tryz.pinned (OpenSpec.ofChange fnTableRunSpec)

/-- ITS FALSE NEIGHBOUR: 'it returns false'. Refute it at one input. -/
def fnTableRunWrong : ChangeSpec := { name := "fnTableRun", fn := fun _ => fun
  | [d1, d2, d3] => { results := [.lit (.bool false)], args := [d1, d2, d3] }
  | _ => none }
def FnTableRunWrongFalsely : Prop := fnTableRunRow.holds Tryz.pinned (OpenSpec.ofChange fnTableRunWrong)

/-- 'laws.FnTableText': WHATEVER THE INPUT: true; the input reads as it did. -/
def fnTableTextSpec : ChangeSpec := { name := "fnTableText", fn := fun _ => fun
  | [d1, d2, d3] => { results := [.lit (.bool true)], args := [d1, d2, d3] }
  | _ => none }
def fnTableTextRow : OpenClaim := { program := "ytjfgippolckaeaagreat", sum := "47d262100d146d11a17d7df1a516784c1783e51b4c97916cce498d9e22e7f847", func := "pub-tablature/laws.FnTableText", spec := "fnTableText", inPlace := ["math.Float32frombits", "math.Float32bits", "math.Float64frombits", "math.Float64bits"], unfollowed := true, recurses := true, apart := false }
def FnTableTextSaid : Prop := fnTableTextRow.holds Tryz.pinned (OpenSpec.ofChange fnTableTextSpec)

/-- ITS FALSE NEIGHBOUR: 'it returns false'. Refute it at one input. -/
def fnTableTextWrong : ChangeSpec := { name := "fnTableText", fn := fun _ => fun
  | [d1, d2, d3] => { results := [.lit (.bool false)], args := [d1, d2, d3] }
  | _ => none }
def FnTableTextWrongFalsely : Prop := fnTableTextRow.holds Tryz.pinned (OpenSpec.ofChange fnTableTextWrong)

/-- 'laws.FnTableVector': WHATEVER THE INPUT: true; the input reads as it did. -/
def fnTableVectorSpec : ChangeSpec := { name := "fnTableVector", fn := fun _ => fun
  | [d1, d2, d3, d4] => { results := [.lit (.bool true)], args := [d1, d2, d3, d4] }
  | _ => none }
def fnTableVectorRow : OpenClaim := { program := "ytjfgippolckaeaagreat", sum := "47d262100d146d11a17d7df1a516784c1783e51b4c97916cce498d9e22e7f847", func := "pub-tablature/laws.FnTableVector", spec := "fnTableVector", inPlace := ["math.Float32frombits", "math.Float32bits", "math.Float64frombits", "math.Float64bits"], unfollowed := true, recurses := true, apart := false }
def FnTableVectorSaid : Prop := fnTableVectorRow.holds Tryz.pinned (OpenSpec.ofChange fnTableVectorSpec)

/-- ITS FALSE NEIGHBOUR: 'it returns false'. Refute it at one input. -/
def fnTableVectorWrong : ChangeSpec := { name := "fnTableVector", fn := fun _ => fun
  | [d1, d2, d3, d4] => { results := [.lit (.bool false)], args := [d1, d2, d3, d4] }
  | _ => none }
def FnTableVectorWrongFalsely : Prop := fnTableVectorRow.holds Tryz.pinned (OpenSpec.ofChange fnTableVectorWrong)

/-- 'laws.FnTableMade': WHATEVER THE INPUT: true; the input reads as it did. -/
def fnTableMadeSpec : ChangeSpec := { name := "fnTableMade", fn := fun _ => fun
  | [d1, d2, d3, d4, d5] => { results := [.lit (.bool true)], args := [d1, d2, d3, d4, d5] }
  | _ => none }
def fnTableMadeRow : OpenClaim := { program := "ytjfgippolckaeaagreat", sum := "47d262100d146d11a17d7df1a516784c1783e51b4c97916cce498d9e22e7f847", func := "pub-tablature/laws.FnTableMade", spec := "fnTableMade", inPlace := ["math.Float32frombits", "math.Float32bits", "math.Float64frombits", "math.Float64bits"], unfollowed := true, recurses := true, apart := false }
def FnTableMadeSaid : Prop := fnTableMadeRow.holds Tryz.pinned (OpenSpec.ofChange fnTableMadeSpec)

/-- ITS FALSE NEIGHBOUR: 'it returns false'. Refute it at one input. -/
def fnTableMadeWrong : ChangeSpec := { name := "fnTableMade", fn := fun _ => fun
  | [d1, d2, d3, d4, d5] => { results := [.lit (.bool false)], args := [d1, d2, d3, d4, d5] }
  | _ => none }
def FnTableMadeWrongFalsely : Prop := fnTableMadeRow.holds Tryz.pinned (OpenSpec.ofChange fnTableMadeWrong)

/- THE SECOND FORM. 'bulk': how many values and letters a reading holds, each counted each time it is reached (what is shared counts as often as it is met; a slice's spare places count too). A statement '..UptoSaid' is the law's where the arguments, and the package variables that the reading takes, are together of bulk at most 1048576: NARROWER than '..Said'. Prove '..Said' where nothing that the law and all that it calls make is longer than what came in: it says more and counts as full. Else prove '..UptoSaid'. A law counts once. -/
mutual
def uptoBulk {H : Type} : DataW H → Nat
  | .lit (.string bytes) => bytes.length + 1
  | .lit _ => 1
  | .nil => 1
  | .ptr d => uptoBulk d + 1
  | .slice elems spare => uptoBulkAll elems + uptoBulkAll spare + 1
  | .agg parts => uptoBulkAll parts + 1
  | .iface _ d => uptoBulk d + 1
  | .map entries => uptoBulkEntries entries + 1
  | .held _ => 1
def uptoBulkAll {H : Type} : List (DataW H) → Nat
  | [] => 0
  | d :: r => uptoBulk d + uptoBulkAll r
def uptoBulkEntries {H : Type} : List (Lit × DataW H) → Nat
  | [] => 0
  | x :: r => uptoBulkEntry x + uptoBulkEntries r
def uptoBulkEntry {H : Type} : Lit × DataW H → Nat
  | (.string bytes, d) => bytes.length + uptoBulk d + 1
  | (_, d) => uptoBulk d + 1
 end
def uptoSmall : (H : Type) → List (DataW H) → Bool := fun _ ds => decide (uptoBulkAll ds ≤ 1048576)
def OpenSpec.upto (s : _root_.Go.ChangeSpec) : _root_.Go.OpenSpec := { _root_.Go.OpenSpec.ofChange s with cond := some uptoSmall }

/-- 'laws.FnTableMutated', WHERE WHAT IT READS IS OF BULK AT MOST 1048576: true; the input reads as it did. -/
def fnTableMutatedUptoRow : OpenClaim := { program := "ytjfgippolckaeaagreat", sum := "47d262100d146d11a17d7df1a516784c1783e51b4c97916cce498d9e22e7f847", func := "pub-tablature/laws.FnTableMutated", spec := "fnTableMutated", inPlace := ["math.Float32frombits", "math.Float32bits", "math.Float64frombits", "math.Float64bits"], unfollowed := true, recurses := true, apart := false, narrowed := true }
def FnTableMutatedUptoSaid : Prop := fnTableMutatedUptoRow.holds Tryz.pinned (OpenSpec.upto fnTableMutatedSpec)

/-- 'laws.FnTableRun', WHERE WHAT IT READS IS OF BULK AT MOST 1048576: true; the input reads as it did. -/
def fnTableRunUptoRow : OpenClaim := { program := "ytjfgippolckaeaagreat", sum := "47d262100d146d11a17d7df1a516784c1783e51b4c97916cce498d9e22e7f847", func := "pub-tablature/laws.FnTableRun", spec := "fnTableRun", inPlace := ["math.Float32frombits", "math.Float32bits", "math.Float64frombits", "math.Float64bits"], unfollowed := true, recurses := true, apart := false, narrowed := true }
def FnTableRunUptoSaid : Prop := fnTableRunUptoRow.holds Tryz.pinned (OpenSpec.upto fnTableRunSpec)

/-- 'laws.FnTableText', WHERE WHAT IT READS IS OF BULK AT MOST 1048576: true; the input reads as it did. -/
def fnTableTextUptoRow : OpenClaim := { program := "ytjfgippolckaeaagreat", sum := "47d262100d146d11a17d7df1a516784c1783e51b4c97916cce498d9e22e7f847", func := "pub-tablature/laws.FnTableText", spec := "fnTableText", inPlace := ["math.Float32frombits", "math.Float32bits", "math.Float64frombits", "math.Float64bits"], unfollowed := true, recurses := true, apart := false, narrowed := true }
def FnTableTextUptoSaid : Prop := fnTableTextUptoRow.holds Tryz.pinned (OpenSpec.upto fnTableTextSpec)

/-- 'laws.FnTableVector', WHERE WHAT IT READS IS OF BULK AT MOST 1048576: true; the input reads as it did. -/
def fnTableVectorUptoRow : OpenClaim := { program := "ytjfgippolckaeaagreat", sum := "47d262100d146d11a17d7df1a516784c1783e51b4c97916cce498d9e22e7f847", func := "pub-tablature/laws.FnTableVector", spec := "fnTableVector", inPlace := ["math.Float32frombits", "math.Float32bits", "math.Float64frombits", "math.Float64bits"], unfollowed := true, recurses := true, apart := false, narrowed := true }
def FnTableVectorUptoSaid : Prop := fnTableVectorUptoRow.holds Tryz.pinned (OpenSpec.upto fnTableVectorSpec)

/-- 'laws.FnTableMade', WHERE WHAT IT READS IS OF BULK AT MOST 1048576: true; the input reads as it did. -/
def fnTableMadeUptoRow : OpenClaim := { program := "ytjfgippolckaeaagreat", sum := "47d262100d146d11a17d7df1a516784c1783e51b4c97916cce498d9e22e7f847", func := "pub-tablature/laws.FnTableMade", spec := "fnTableMade", inPlace := ["math.Float32frombits", "math.Float32bits", "math.Float64frombits", "math.Float64bits"], unfollowed := true, recurses := true, apart := false, narrowed := true }
def FnTableMadeUptoSaid : Prop := fnTableMadeUptoRow.holds Tryz.pinned (OpenSpec.upto fnTableMadeSpec)

end Rows
end Go.Proofs.YtjfgippolckaeaaGreat
