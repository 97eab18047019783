/- A step over a Builder, plainly: what it answers and leaves; what a Builder's state always is. -/
import Derived.Test.YtfplgggepoaajaaGreatBStep2
import Derived.Test.YtfplgggepoaajaaGreatPlaceD
import Derived.Test.YtfplgggepoaajaaGreatStInv
namespace Go.Proofs.YtfplgggepoaajaaGreat
open Go.RowKit
set_option linter.unusedVariables false
set_option linter.unusedSimpArgs false

/-- A step of a script. -/
structure BS where
  op : Nat
  kind : Nat
  slot : Int
  num : Nat
  els : Nat
  off : Nat
  ref : Int
  size : Int
  more : Int
  by_ : Int
  text : List UInt8
def bsC (s : BS) : List Value := [.int .u8 s.op, .int .u8 s.kind, .int .i64 s.slot, .int .u64 s.num, .int .u64 s.els, .int .u32 s.off, .int .i64 s.ref, .int .i64 s.size, .int .i64 s.more, .int .i64 s.by_, .string (strOf s.text)]
theorem bsC_length (s : BS) : (bsC s).length = 11 := rfl
/-- What a step answers, its text, what it leaves; none: it panics. -/
def mStep (st : BSt) (s : BS) (off : Nat) : Option (Nat × List UInt8 × BSt) :=
  match s.op with
  | 0 => unitN (st.startObj s.slot.toNat)
  | 1 => numN st.endObj
  | 2 => unitN (some { st with m := (st.m.prep (numSize s.kind) 0).put (numB s.kind s.num) })
  | 3 => unitN (st.prepSlot (numSize s.kind) (numB s.kind s.num) s.slot (sameNum s.kind s.num s.els))
  | 4 => unitN (st.refer off)
  | 5 => unitN (st.offSlot s.slot off s.els)
  | 6 => unitN (st.refer off)
  | 7 => unitN (some { st with m := (st.m.prep 2 0).put (leB 2 s.num) })
  | 8 => unitN (st.structSlot s.slot off s.els)
  | 9 => unitN (st.slot s.slot)
  | 10 => numN (st.startVec s.size.toNat s.more.toNat s.by_.toNat)
  | 11 => numN (st.endVec s.slot.toNat)
  | 12 => numN (st.created s.text true)
  | 13 => numN (st.created s.text true)
  | 14 => numN (st.created s.text false)
  | 15 => numN (st.sharedStr s.text)
  | 16 => unitN (some { st with m := st.m.prep s.size.toNat s.more.toNat })
  | 17 => unitN (if numSize s.kind ≤ st.m.room then some { st with m := st.m.put (numB s.kind s.num) } else none)
  | 18 => unitN (if s.slot.toNat ≤ st.m.room then some { st with m := st.m.put (List.replicate s.slot.toNat 0) } else none)
  | 19 => unitN (st.finish off)
  | 20 => unitN (st.finishId off s.text)
  | _ => if st.fin then some (0, st.m.bytes, st) else none
/-- A step that can be asked. -/
structure SOK (s : BS) : Prop where
  op : s.op ≤ 22
  reset : s.op ≠ 21
  text : s.text.length ≤ 1000
  num : s.num < 2 ^ 64
  els : s.els < 2 ^ 64
  more0 : 0 ≤ s.more
  more1 : s.more ≤ 1000
  ref0 : 0 ≤ s.ref
  off : s.off < 2 ^ 32
  o0 : s.op = 0 → 0 ≤ s.slot ∧ s.slot ≤ 60
  o2 : s.op = 2 ∨ s.op = 17 → Right s.kind s.num
  o3 : s.op = 3 → Right s.kind s.num ∧ Right s.kind s.els
  o5 : s.op = 5 ∨ s.op = 8 → s.els < 2 ^ 32
  o10 : s.op = 10 → 0 ≤ s.size ∧ s.size ≤ 100 ∧ 0 ≤ s.by_ ∧ algn s.by_.toNat
  o11 : s.op = 11 ∨ s.op = 18 → 0 ≤ s.slot ∧ s.slot ≤ 1000
  o16 : s.op = 16 → 0 ≤ s.size ∧ algn s.size.toNat
/-- (What is asked of a step besides: nothing.) -/
def SafeS (st : BSt) (s : BS) : Prop := True

end Go.Proofs.YtfplgggepoaajaaGreat
