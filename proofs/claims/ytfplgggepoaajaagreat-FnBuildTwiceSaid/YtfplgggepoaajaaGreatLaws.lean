/- Laws of the model's operations that the kit lacks: the builtin copy out of a string; an index and a slice out of range as one panic with a value that is not nil. Over any program. -/
import Derived.Test.YtfplgggepoaajaaGreatFrame
import Derived.Laws.CopyRow
import Derived.Laws.Panics
import Derived.Lib.Hide
import Derived.Laws.BytesArg
namespace Go.Proofs.YtfplgggepoaajaaGreat
open Go.RowKit

/-- The cells of a string's bytes. -/
def cellsOf (l : List UInt8) : List Value := l.map fun b => .int .u8 b.toNat

theorem cellsOf_length (l : List UInt8) : (cellsOf l).length = l.length := by simp [cellsOf]
theorem cellsOf_one (l : List UInt8) : ∀ v ∈ cellsOf l, v.oneCell' = true := by
  intro v hv; simp [cellsOf] at hv; obtain ⟨b, _, rfl⟩ := hv; rfl

theorem run_copy_string {P : Program} (w : World) (dT sT ty elem : TypeId) (g o dLen dCap : Nat) (s : ByteArray) (cur : Array Value) (t : TypeId)
    (hu : P.underlying dT = some (.slice elem)) (hs : (P.info? elem).map (·.size) = some 1)
    (hg : w.heap[g]? = some (.cells cur t (0, 0))) (hfit : o + min s.size dLen ≤ cur.size) :
    (Builtin.copy_ #[dT, sT] ty #[.slice (some ⟨g, o, none⟩) dLen dCap, .string s]).run P w =
      .ok (goInt (min s.size dLen : Nat)) (w.setRow g (cur.toList.take o ++ cellsOf (s.data.toList.take (min s.size dLen)) ++ cur.toList.drop (o + min s.size dLen)).toArray) := by
  have hlen : (cellsOf (s.data.toList.take (min s.size dLen))).length = min s.size dLen := by
    simp [cellsOf]
  have hst := run_storeCells_at P g o t (cellsOf (s.data.toList.take (min s.size dLen))) 0 cur w hg (by rw [hlen]; omega) (cellsOf_one _)
  rw [hlen] at hst
  cases hq : P.info? elem with
  | none => simp [hq] at hs
  | some i =>
    have hi : i.size = 1 := by simpa [hq] using hs
    simp only [Nat.add_zero] at hst
    have hmin : Nat.min s.size dLen = min s.size dLen := rfl
    have hst2 := hst
    simp only [cellsOf, List.map_take] at hst2
    simp [Builtin.copy_, Builtin.lenOf, Builtin.firstCells, sizeOf, typeInfo, run_underlying hu, hq, hmin, hst2, cellsOf, List.map_take]

/-- Go's bounds panic: a value that is not nil, and at most one draw. -/
theorem run_bounds {P : Program} (w : World) {α : Type} (k : IntKind) (x y : Int) (code : BoundsCode) :
    ∃ u v n, (boundsPanic k x y code : Sem α).run P w = .halt (.panic (.iface u v)) (w.drewN n) := by
  unfold boundsPanic
  split
  · refine ⟨P.rt.boundsError, ?_, 1, ?_⟩
    rotate_left
    · simp [runtimePanic, goPanic, go_sem, World.drewN]; rfl
  · refine ⟨P.rt.boundsError, ?_, 0, ?_⟩
    rotate_left
    · simp [runtimePanic, goPanic, go_sem, World.drewN]; rfl

theorem elem_of {P : Program} {t e : TypeId} (h : P.underlying t = some (.slice e)) : P.elem t = e := by simp [Program.elem, h]

theorem run_index_out {P : Program} (w : World) (t : TypeId) (a0 : Option Addr) (len cap : Nat) (k : IntKind) (i : Int) {e : TypeId} (h0 : P.underlying t = some (.slice e)) (hnil : a0 = none → len = 0) (ho : i < 0 ∨ (len : Int) ≤ i) :
    ∃ u v n, (Instr.indexAt t (.slice a0 len cap) (.int k i)).run P w = .halt (.panic (.iface u v)) (w.drewN n) := by
  have h : P.underlying t = some (.slice (P.elem t)) := by rw [elem_of h0]; exact h0
  cases a0 with
  | some a =>
    rw [run_indexAt_slice (h := h), if_neg (by omega)]
    exact run_bounds w k i len .index
  | none =>
    obtain rfl := hnil rfl
    have e : (Instr.indexAt t (.slice none 0 cap) (.int k i)).run P w = (boundsPanic k i 0 .index).run P w := by
      simp [Instr.indexAt, run_underlying h, asIntOf]
    rw [e]
    exact run_bounds w k i 0 .index

/-- The bytes that lie in memory from a place on. -/
def Mem (w : World) (b off : Nat) (l : List UInt8) : Prop := ∀ i x, l[i]? = some x → w.cell? ⟨b, off + i, none⟩ = some (.int .u8 x.toNat)

theorem Mem.drop {w : World} {b off : Nat} {l : List UInt8} (h : Mem w b off l) (k : Nat) : Mem w b (off + k) (l.drop k) := fun i x hx => by
  rw [List.getElem?_drop] at hx
  have := h _ _ hx
  rwa [Nat.add_assoc]
theorem Mem.of_block {w : World} {b : Nat} {l : List UInt8} {t : TypeId} {fr : Nat × Nat} (h : w.heap[b]? = some (.cells (cellsOf l).toArray t fr)) : Mem w b 0 l := fun i x hx => by
  rw [cell_of h, Nat.zero_add]
  simp [cellsOf, hx]

/-- The string of some bytes. -/
def strOf (l : List UInt8) : ByteArray := ⟨l.toArray⟩
theorem strOf_list (l : List UInt8) : (strOf l).data.toList = l := rfl
theorem strOf_size (l : List UInt8) : (strOf l).size = l.length := by simp [strOf, ByteArray.size]
theorem strOf_data (s : ByteArray) : strOf s.data.toList = s := rfl
theorem strOf_inj {a b : List UInt8} (h : strOf a = strOf b) : a = b := congrArg (fun s : ByteArray => s.data.toList) h

theorem run_bytes_string {P : Program} {w : World} {b off len cap : Nat} {l : List UInt8} (hm : Mem w b off l) (hlen : l.length = len) {src e dst : TypeId} (hs : P.underlying src = some (.slice e)) (he : P.underlying e = some (.int .u8)) (hd : P.underlying dst = some .string) :
    (convert src dst (.slice (some ⟨b, off, none⟩) len cap)).run P w = .ok (.string (strOf l)) w := by
  have h := run_convert_bytes_arg (P := P) w src e hs he b off len cap (l.map fun x => (x.toNat : Int)) (by simpa using hlen) (fun i hi => by
    have hl : i < l.length := by omega
    have := hm i l[i] (by simp [hl])
    rw [this]
    simp [List.getD, hl]) dst hd
  have e : strOfNums (l.map fun x => (x.toNat : Int)) = strOf l := by
    unfold strOfNums strOf
    congr 2
    rw [List.map_map]
    conv => rhs; rw [← List.map_id l]
    apply List.map_congr_left
    intro x _
    apply UInt8.toNat_inj.1
    simp
  rw [e] at h
  exact h

/-- A panic of Go's own, nothing written. -/
def Dies (w : World) (e : Ending) (w' : World) : Prop := (∃ u pv, e = .panicked [{ v := .iface u pv, recovered := false }]) ∧ ∃ n, w' = w.drewN n

end Go.Proofs.YtfplgggepoaajaaGreat
