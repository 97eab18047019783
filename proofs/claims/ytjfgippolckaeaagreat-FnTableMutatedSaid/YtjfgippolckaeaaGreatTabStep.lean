/- impl.tableStep: one step over a Table, op by op: it answers what the plain model's mStep says, or panics. -/
import Derived.Test.YtjfgippolckaeaaGreatTabTo
import Derived.Test.YtjfgippolckaeaaGreatTabGet
import Derived.BigQuiet
import Derived.Laws.Rows
namespace Go.Proofs.YtjfgippolckaeaaGreat
open Go.RowKit
set_option linter.unusedVariables false
set_option linter.unusedSimpArgs false

def stepV (op k : Int) (off num : Nat) : Value := .agg #[.int .u8 op, .int .u8 k, .int .u32 off, .int .u64 num]
def ansV (a : Ans) : Value := .agg #[.int .u64 a.num, .string (strOf a.text), .bool a.done, .bool a.pan]
theorem u16_wrap (n : Nat) : IntKind.u16.wrap (n : Int) = ((n % 65536 : Nat) : Int) := by simp [IntKind.wrap, IntKind.bits, IntKind.signed]
theorem Tab.fr {w w' : World} {T B : Nat} {l : List UInt8} {pos : Nat} (h : Tab w T B l pos) (hf : Fr0 w w') (hTl : T < w.heap.size) : Tab w' T B l pos :=
  ⟨(Fr.cell hf hTl (fun x => x)).trans h.t, (Fr.cell hf hTl (fun x => x)).trans h.p, (hf.block B (lt_of_block h.b) (fun x => x)).trans h.b, h.hl, h.hp⟩

/-- What a step leaves: the answer, nothing turned but the bytes' block, and the Table over the new bytes. -/
def Steps (w : World) (T B pos : Nat) (m : List UInt8) (v : Value) (e : Ending) (w' : World) : Prop := e = .returned v ∧ Fr (fun x => x = B) w w' ∧ Tab w' T B m pos
theorem steps_quiet {w : World} {T B pos : Nat} {l : List UInt8} (hT : Tab w T B l pos) {f : FuncId} {args : Array Value} {v : Value} (h : Calls Tryz.prog f args w fun e w' => e = .returned v ∧ ∃ m, w' = w.drewN m) :
    Calls Tryz.prog f args w (Steps w T B pos l v) := h.mono fun e w' ⟨he, m, hw⟩ => by subst hw; exact ⟨he, (Fr.refl _ _).drewN _, hT.drewN _⟩
theorem steps_same {w : World} {T B pos : Nat} {l : List UInt8} (hT : Tab w T B l pos) {f : FuncId} {args : Array Value} {v : Value} (h : Calls Tryz.prog f args w fun e w' => e = .returned v ∧ w = w') :
    Calls Tryz.prog f args w (Steps w T B pos l v) := h.mono fun e w' ⟨he, hw⟩ => by subst hw; exact ⟨he, Fr.refl _ _, hT⟩

/-- A panic that leaves all that was there. -/
def Falls (w : World) (e : Ending) (w' : World) : Prop := (∃ u pv, e = .panicked [{ v := .iface u pv, recovered := false }]) ∧ Fr0 w w'
theorem Dies.falls {w : World} {e : Ending} {w' : World} (h : Dies w e w') : Falls w e w' := ⟨h.1, by obtain ⟨n, hn⟩ := h.2; subst hn; exact (Fr.refl _ _).drewN n⟩

theorem ans_end (w : World) (H : Nat) (a b c d v : Value) (i : Nat) (t : TypeId) (cs : Array Value) (hb : w.heap[H]? = some (.cells cs t)) (he : ((((cs.setIfInBounds i v).setIfInBounds 0 a).setIfInBounds 1 b).setIfInBounds 2 c).setIfInBounds 3 d = #[a, b, c, d]) :
    (((((w.setCell ⟨H, i, none⟩ v).setCell ⟨H, 0, none⟩ a).setCell ⟨H, 1, none⟩ b).setCell ⟨H, 2, none⟩ c).setCell ⟨H, 3, none⟩ d).heap[H]? = some (.cells #[a, b, c, d] t) := by
  have h := heap_setCell_same (heap_setCell_same (heap_setCell_same (heap_setCell_same (heap_setCell_same hb i v) 0 a) 1 b) 2 c) 3 d
  rw [he] at h
  exact h
theorem infoAns : (Tryz.prog.info? 49).map (·.size) = some 4 := by kernel_rfl
theorem u64_nat (n : Nat) (h : n < 18446744073709551616) : IntKind.u64.wrap (n : Int) = n := wrap_u64_nat n (by omega)

theorem cell_far (w : World) (p a : Addr) (v : Value) (h : p.block ≠ a.block) : (w.setCell p v).cell? a = w.cell? a := World.cell?_setCell_other _ _ _ _ (fun e => h (congrArg Addr.block e))
theorem tab_set {w' : World} {T B H pos i : Nat} {v : Value} {m : List UInt8} (hT : Tab w' T B m pos) (h1 : H ≠ T) (h2 : B ≠ H) : Tab (w'.setCell ⟨H, i, none⟩ v) T B m pos :=
  ⟨(cell_far _ _ _ _ h1).trans hT.t, (cell_far _ _ _ _ h1).trans hT.p, (heap_setCell_other _ _ _ _ h2).trans hT.b, hT.hl, hT.hp⟩
theorem step_end {w w' : World} {T B pos : Nat} {m : List UInt8} (hf : Fr (fun x => x = B) w w') (hT : Tab w' T B m pos) (hTl : T < w.heap.size) (hBl : B < w.heap.size) {H : Nat} (hH : w.heap.size ≤ H) (i : Nat) (a b c d v x y : Value) (hxy : x = y) :
    Steps w T B pos m y (.returned x) (((((w'.setCell ⟨H, i, none⟩ v).setCell ⟨H, 0, none⟩ a).setCell ⟨H, 1, none⟩ b).setCell ⟨H, 2, none⟩ c).setCell ⟨H, 3, none⟩ d) := by
  subst hxy
  have hn : ∀ {p : Addr}, p.block = H → (p.block < w.heap.size → p.block = B) := fun {p} e h => absurd h (by omega)
  refine ⟨rfl, ?_, ?_⟩
  · exact ((((hf.setCell (hn rfl) _).setCell (hn rfl) _).setCell (hn rfl) _).setCell (hn rfl) _).setCell (hn rfl) _
  · have h1 : H ≠ T := by omega
    have h2 : B ≠ H := by omega
    exact tab_set (tab_set (tab_set (tab_set (tab_set hT h1 h2) h1 h2) h1 h2) h1 h2) h1 h2

set_option maxHeartbeats 4000000 in
theorem step0_ok (T B pos off num : Nat) (k : Int) (l m : List UInt8) (w : World) (n : Nat) (hn : n < 18446744073709551616) (hT : Tab w T B l pos) (hTl : T < w.heap.size)
    (h : ∀ w2, Tab w2 T B l pos → Calls Tryz.prog 36 #[.pointer (some ⟨T, 0, none⟩), .int .u16 (off % 65536 : Nat)] w2 (Steps w2 T B pos m (.int .u16 n))) :
    Calls Tryz.prog 28 #[.pointer (some ⟨T, 0, none⟩), stepV 0 k off num] w (Steps w T B pos m (ansV (.ofNum n))) := by
  have hBl := lt_of_block hT.b
  have hfr : Fr0 w (World.alloc (World.alloc w (Obj.cells #[Value.int IntKind.u8 0, Value.int IntKind.u8 k, Value.int IntKind.u32 ((off : Nat) : Int), Value.int IntKind.u64 ((num : Nat) : Int)] 77)) (Obj.cells #[Value.int IntKind.u64 0, Value.string { data := #[] }, Value.bool false, Value.bool false] 49)) := ((Fr.refl _ w).alloc _).alloc _
  have HC := Lib.hid (fun nq => h (World.drewN (World.alloc (World.alloc w (Obj.cells #[Value.int IntKind.u8 0, Value.int IntKind.u8 k, Value.int IntKind.u32 ((off : Nat) : Int), Value.int IntKind.u64 ((num : Nat) : Int)] 77)) (Obj.cells #[Value.int IntKind.u64 0, Value.string { data := #[] }, Value.bool false, Value.bool false] 49)) nq) ((hT.fr hfr hTl).drewN nq))
  have hb2 : ∀ nq, (World.drewN (World.alloc (World.alloc w (Obj.cells #[Value.int IntKind.u8 0, Value.int IntKind.u8 k, Value.int IntKind.u32 ((off : Nat) : Int), Value.int IntKind.u64 ((num : Nat) : Int)] 77)) (Obj.cells #[Value.int IntKind.u64 0, Value.string { data := #[] }, Value.bool false, Value.bool false] 49)) nq).heap[w.heap.size + 1]? = some (.cells #[.int .u64 0, .string ⟨#[]⟩, .bool false, .bool false] 49) := fun nq => by
    show (World.alloc _ _).heap[w.heap.size + 1]? = _
    simp only [heap_alloc_get, size_alloc]
    rw [if_pos trivial]
  have HB := Lib.hid hb2; clear hb2
  have HF := Lib.hid (fun nq => (hfr.mono (S' := fun x => x = B) (fun _ _ x => x.elim)).drewN nq); clear hfr
  have HW := Lib.hid (u16_wrap off)
  have HTL := Lib.hid (And.intro hTl hBl)
  have HNE := Lib.hid (show ¬ (w.heap.size + 1 = B) from by omega)
  have HSZ := Lib.hid (show w.heap.size + 1 < (World.alloc (World.alloc w (Obj.cells #[Value.int IntKind.u8 0, Value.int IntKind.u8 k, Value.int IntKind.u32 ((off : Nat) : Int), Value.int IntKind.u64 ((num : Nat) : Int)] 77)) (Obj.cells #[Value.int IntKind.u64 0, Value.string { data := #[] }, Value.bool false, Value.bool false] 49)).heap.size from by simp)
  unfold stepV
  clear hT h hTl hBl
  go_enter Tryz.func28, Tryz.ntmps28
  go_wp2_with fail
  go_quiet (fail)
  go_wp2_with fail
  rw [HW.out]
  refine (HC.out nq).mono ?_
  rintro e w' ⟨rfl, hf, hT'⟩
  have hb3 := (hf.block (w.heap.size + 1) HSZ.out HNE.out).trans (HB.out nq)
  have c0 : w'.cell? ⟨w.heap.size + 1, 0, none⟩ = some (.int .u64 0) := by rw [cell_of hb3]; rfl
  have c1 : w'.cell? ⟨w.heap.size + 1, 1, none⟩ = some (.string ⟨#[]⟩) := by rw [cell_of hb3]; rfl
  have c2 : w'.cell? ⟨w.heap.size + 1, 2, none⟩ = some (.bool false) := by rw [cell_of hb3]; rfl
  have c3 : w'.cell? ⟨w.heap.size + 1, 3, none⟩ = some (.bool false) := by rw [cell_of hb3]; rfl
  have f0 := frozen_of hb3 0
  have f1 := frozen_of hb3 1
  have f2 := frozen_of hb3 2
  have f3 := frozen_of hb3 3
  have HFW := Lib.hid ((HF.out nq).trans hf)
  have HTT := Lib.hid hT'
  have HBB := Lib.hid hb3
  clear hf hT' hb3
  go_wp2_with fail
  exact bodyPost_ret (results_cell_row (P := Tryz.prog) rfl _ _ (w.heap.size + 1) 49 _ (0, 0) _ rfl (ans_end _ _ _ _ _ _ _ _ _ _ HBB.out rfl) Tryz.underlying49 rfl infoAns) rfl
    (step_end HFW.out HTT.out HTL.out.1 HTL.out.2 (Nat.le_succ _) _ _ _ _ _ _ _ _ (rfl))

set_option maxHeartbeats 4000000 in
theorem step0_dies (T B pos off num : Nat) (k : Int) (l : List UInt8) (w : World) (hT : Tab w T B l pos) (hTl : T < w.heap.size)
    (h : ∀ w2, Tab w2 T B l pos → Calls Tryz.prog 36 #[.pointer (some ⟨T, 0, none⟩), .int .u16 (off % 65536 : Nat)] w2 (Dies w2)) :
    Calls Tryz.prog 28 #[.pointer (some ⟨T, 0, none⟩), stepV 0 k off num] w (Falls w) := by
  have hfr : Fr0 w (World.alloc (World.alloc w (Obj.cells #[Value.int IntKind.u8 0, Value.int IntKind.u8 k, Value.int IntKind.u32 ((off : Nat) : Int), Value.int IntKind.u64 ((num : Nat) : Int)] 77)) (Obj.cells #[Value.int IntKind.u64 0, Value.string { data := #[] }, Value.bool false, Value.bool false] 49)) := ((Fr.refl _ w).alloc _).alloc _
  have HC := Lib.hid (fun nq => h (World.drewN (World.alloc (World.alloc w (Obj.cells #[Value.int IntKind.u8 0, Value.int IntKind.u8 k, Value.int IntKind.u32 ((off : Nat) : Int), Value.int IntKind.u64 ((num : Nat) : Int)] 77)) (Obj.cells #[Value.int IntKind.u64 0, Value.string { data := #[] }, Value.bool false, Value.bool false] 49)) nq) ((hT.fr hfr hTl).drewN nq))
  have HF := Lib.hid hfr; clear hfr
  have HW := Lib.hid (u16_wrap off)
  unfold stepV
  clear hT h hTl
  go_enter Tryz.func28, Tryz.ntmps28
  go_wp2_with fail
  go_quiet (fail)
  go_wp2_with fail
  rw [HW.out]
  refine (HC.out nq).mono ?_
  rintro e w' ⟨⟨u, x, rfl⟩, m, rfl⟩
  exact ⟨rfl, ⟨u, x, rfl⟩, (HF.out.drewN _).drewN _⟩

set_option maxHeartbeats 4000000 in
theorem step1_ok (T B pos off num : Nat) (k : Int) (l m : List UInt8) (w : World) (n : Nat) (hn : n < 18446744073709551616) (hT : Tab w T B l pos) (hTl : T < w.heap.size)
    (h : ∀ w2, Tab w2 T B l pos → Calls Tryz.prog 37 #[.pointer (some ⟨T, 0, none⟩), .int .u8 k, .int .u16 (off % 65536 : Nat), .int .u64 num] w2 (Steps w2 T B pos m (.int .u64 n))) :
    Calls Tryz.prog 28 #[.pointer (some ⟨T, 0, none⟩), stepV 1 k off num] w (Steps w T B pos m (ansV (.ofNum n))) := by
  have hBl := lt_of_block hT.b
  have hfr : Fr0 w (World.alloc (World.alloc w (Obj.cells #[Value.int IntKind.u8 1, Value.int IntKind.u8 k, Value.int IntKind.u32 ((off : Nat) : Int), Value.int IntKind.u64 ((num : Nat) : Int)] 77)) (Obj.cells #[Value.int IntKind.u64 0, Value.string { data := #[] }, Value.bool false, Value.bool false] 49)) := ((Fr.refl _ w).alloc _).alloc _
  have HC := Lib.hid (fun nq => h (World.drewN (World.alloc (World.alloc w (Obj.cells #[Value.int IntKind.u8 1, Value.int IntKind.u8 k, Value.int IntKind.u32 ((off : Nat) : Int), Value.int IntKind.u64 ((num : Nat) : Int)] 77)) (Obj.cells #[Value.int IntKind.u64 0, Value.string { data := #[] }, Value.bool false, Value.bool false] 49)) nq) ((hT.fr hfr hTl).drewN nq))
  have hb2 : ∀ nq, (World.drewN (World.alloc (World.alloc w (Obj.cells #[Value.int IntKind.u8 1, Value.int IntKind.u8 k, Value.int IntKind.u32 ((off : Nat) : Int), Value.int IntKind.u64 ((num : Nat) : Int)] 77)) (Obj.cells #[Value.int IntKind.u64 0, Value.string { data := #[] }, Value.bool false, Value.bool false] 49)) nq).heap[w.heap.size + 1]? = some (.cells #[.int .u64 0, .string ⟨#[]⟩, .bool false, .bool false] 49) := fun nq => by
    show (World.alloc _ _).heap[w.heap.size + 1]? = _
    simp only [heap_alloc_get, size_alloc]
    rw [if_pos trivial]
  have HB := Lib.hid hb2; clear hb2
  have HF := Lib.hid (fun nq => (hfr.mono (S' := fun x => x = B) (fun _ _ x => x.elim)).drewN nq); clear hfr
  have HW := Lib.hid (u16_wrap off)
  have HTL := Lib.hid (And.intro hTl hBl)
  have HNE := Lib.hid (show ¬ (w.heap.size + 1 = B) from by omega)
  have HSZ := Lib.hid (show w.heap.size + 1 < (World.alloc (World.alloc w (Obj.cells #[Value.int IntKind.u8 1, Value.int IntKind.u8 k, Value.int IntKind.u32 ((off : Nat) : Int), Value.int IntKind.u64 ((num : Nat) : Int)] 77)) (Obj.cells #[Value.int IntKind.u64 0, Value.string { data := #[] }, Value.bool false, Value.bool false] 49)).heap.size from by simp)
  unfold stepV
  clear hT h hTl hBl
  go_enter Tryz.func28, Tryz.ntmps28
  go_wp2_with fail
  go_quiet (fail)
  go_wp2_with fail
  rw [HW.out]
  refine (HC.out nq).mono ?_
  rintro e w' ⟨rfl, hf, hT'⟩
  have hb3 := (hf.block (w.heap.size + 1) HSZ.out HNE.out).trans (HB.out nq)
  have c0 : w'.cell? ⟨w.heap.size + 1, 0, none⟩ = some (.int .u64 0) := by rw [cell_of hb3]; rfl
  have c1 : w'.cell? ⟨w.heap.size + 1, 1, none⟩ = some (.string ⟨#[]⟩) := by rw [cell_of hb3]; rfl
  have c2 : w'.cell? ⟨w.heap.size + 1, 2, none⟩ = some (.bool false) := by rw [cell_of hb3]; rfl
  have c3 : w'.cell? ⟨w.heap.size + 1, 3, none⟩ = some (.bool false) := by rw [cell_of hb3]; rfl
  have f0 := frozen_of hb3 0
  have f1 := frozen_of hb3 1
  have f2 := frozen_of hb3 2
  have f3 := frozen_of hb3 3
  have HFW := Lib.hid ((HF.out nq).trans hf)
  have HTT := Lib.hid hT'
  have HBB := Lib.hid hb3
  clear hf hT' hb3
  go_wp2_with fail
  exact bodyPost_ret (results_cell_row (P := Tryz.prog) rfl _ _ (w.heap.size + 1) 49 _ (0, 0) _ rfl (ans_end _ _ _ _ _ _ _ _ _ _ HBB.out rfl) Tryz.underlying49 rfl infoAns) rfl
    (step_end HFW.out HTT.out HTL.out.1 HTL.out.2 (Nat.le_succ _) _ _ _ _ _ _ _ _ (rfl))

set_option maxHeartbeats 4000000 in
theorem step1_dies (T B pos off num : Nat) (k : Int) (l : List UInt8) (w : World) (hT : Tab w T B l pos) (hTl : T < w.heap.size)
    (h : ∀ w2, Tab w2 T B l pos → Calls Tryz.prog 37 #[.pointer (some ⟨T, 0, none⟩), .int .u8 k, .int .u16 (off % 65536 : Nat), .int .u64 num] w2 (Dies w2)) :
    Calls Tryz.prog 28 #[.pointer (some ⟨T, 0, none⟩), stepV 1 k off num] w (Falls w) := by
  have hfr : Fr0 w (World.alloc (World.alloc w (Obj.cells #[Value.int IntKind.u8 1, Value.int IntKind.u8 k, Value.int IntKind.u32 ((off : Nat) : Int), Value.int IntKind.u64 ((num : Nat) : Int)] 77)) (Obj.cells #[Value.int IntKind.u64 0, Value.string { data := #[] }, Value.bool false, Value.bool false] 49)) := ((Fr.refl _ w).alloc _).alloc _
  have HC := Lib.hid (fun nq => h (World.drewN (World.alloc (World.alloc w (Obj.cells #[Value.int IntKind.u8 1, Value.int IntKind.u8 k, Value.int IntKind.u32 ((off : Nat) : Int), Value.int IntKind.u64 ((num : Nat) : Int)] 77)) (Obj.cells #[Value.int IntKind.u64 0, Value.string { data := #[] }, Value.bool false, Value.bool false] 49)) nq) ((hT.fr hfr hTl).drewN nq))
  have HF := Lib.hid hfr; clear hfr
  have HW := Lib.hid (u16_wrap off)
  unfold stepV
  clear hT h hTl
  go_enter Tryz.func28, Tryz.ntmps28
  go_wp2_with fail
  go_quiet (fail)
  go_wp2_with fail
  rw [HW.out]
  refine (HC.out nq).mono ?_
  rintro e w' ⟨⟨u, x, rfl⟩, m, rfl⟩
  exact ⟨rfl, ⟨u, x, rfl⟩, (HF.out.drewN _).drewN _⟩

set_option maxHeartbeats 4000000 in
theorem step2_ok (T B pos off num : Nat) (k : Int) (l m : List UInt8) (w : World) (n : Nat) (hn : n < 18446744073709551616) (hT : Tab w T B l pos) (hTl : T < w.heap.size)
    (h : ∀ w2, Tab w2 T B l pos → Calls Tryz.prog 38 #[.pointer (some ⟨T, 0, none⟩), .int .u8 k, .int .u32 off] w2 (Steps w2 T B pos m (.int .u64 n))) :
    Calls Tryz.prog 28 #[.pointer (some ⟨T, 0, none⟩), stepV 2 k off num] w (Steps w T B pos m (ansV (.ofNum n))) := by
  have hBl := lt_of_block hT.b
  have hfr : Fr0 w (World.alloc (World.alloc w (Obj.cells #[Value.int IntKind.u8 2, Value.int IntKind.u8 k, Value.int IntKind.u32 ((off : Nat) : Int), Value.int IntKind.u64 ((num : Nat) : Int)] 77)) (Obj.cells #[Value.int IntKind.u64 0, Value.string { data := #[] }, Value.bool false, Value.bool false] 49)) := ((Fr.refl _ w).alloc _).alloc _
  have HC := Lib.hid (fun nq => h (World.drewN (World.alloc (World.alloc w (Obj.cells #[Value.int IntKind.u8 2, Value.int IntKind.u8 k, Value.int IntKind.u32 ((off : Nat) : Int), Value.int IntKind.u64 ((num : Nat) : Int)] 77)) (Obj.cells #[Value.int IntKind.u64 0, Value.string { data := #[] }, Value.bool false, Value.bool false] 49)) nq) ((hT.fr hfr hTl).drewN nq))
  have hb2 : ∀ nq, (World.drewN (World.alloc (World.alloc w (Obj.cells #[Value.int IntKind.u8 2, Value.int IntKind.u8 k, Value.int IntKind.u32 ((off : Nat) : Int), Value.int IntKind.u64 ((num : Nat) : Int)] 77)) (Obj.cells #[Value.int IntKind.u64 0, Value.string { data := #[] }, Value.bool false, Value.bool false] 49)) nq).heap[w.heap.size + 1]? = some (.cells #[.int .u64 0, .string ⟨#[]⟩, .bool false, .bool false] 49) := fun nq => by
    show (World.alloc _ _).heap[w.heap.size + 1]? = _
    simp only [heap_alloc_get, size_alloc]
    rw [if_pos trivial]
  have HB := Lib.hid hb2; clear hb2
  have HF := Lib.hid (fun nq => (hfr.mono (S' := fun x => x = B) (fun _ _ x => x.elim)).drewN nq); clear hfr
  have HW := Lib.hid (u16_wrap off)
  have HTL := Lib.hid (And.intro hTl hBl)
  have HNE := Lib.hid (show ¬ (w.heap.size + 1 = B) from by omega)
  have HSZ := Lib.hid (show w.heap.size + 1 < (World.alloc (World.alloc w (Obj.cells #[Value.int IntKind.u8 2, Value.int IntKind.u8 k, Value.int IntKind.u32 ((off : Nat) : Int), Value.int IntKind.u64 ((num : Nat) : Int)] 77)) (Obj.cells #[Value.int IntKind.u64 0, Value.string { data := #[] }, Value.bool false, Value.bool false] 49)).heap.size from by simp)
  unfold stepV
  clear hT h hTl hBl
  go_enter Tryz.func28, Tryz.ntmps28
  go_wp2_with fail
  go_quiet (fail)
  go_wp2_with fail
  refine (HC.out nq).mono ?_
  rintro e w' ⟨rfl, hf, hT'⟩
  have hb3 := (hf.block (w.heap.size + 1) HSZ.out HNE.out).trans (HB.out nq)
  have c0 : w'.cell? ⟨w.heap.size + 1, 0, none⟩ = some (.int .u64 0) := by rw [cell_of hb3]; rfl
  have c1 : w'.cell? ⟨w.heap.size + 1, 1, none⟩ = some (.string ⟨#[]⟩) := by rw [cell_of hb3]; rfl
  have c2 : w'.cell? ⟨w.heap.size + 1, 2, none⟩ = some (.bool false) := by rw [cell_of hb3]; rfl
  have c3 : w'.cell? ⟨w.heap.size + 1, 3, none⟩ = some (.bool false) := by rw [cell_of hb3]; rfl
  have f0 := frozen_of hb3 0
  have f1 := frozen_of hb3 1
  have f2 := frozen_of hb3 2
  have f3 := frozen_of hb3 3
  have HFW := Lib.hid ((HF.out nq).trans hf)
  have HTT := Lib.hid hT'
  have HBB := Lib.hid hb3
  clear hf hT' hb3
  go_wp2_with fail
  exact bodyPost_ret (results_cell_row (P := Tryz.prog) rfl _ _ (w.heap.size + 1) 49 _ (0, 0) _ rfl (ans_end _ _ _ _ _ _ _ _ _ _ HBB.out rfl) Tryz.underlying49 rfl infoAns) rfl
    (step_end HFW.out HTT.out HTL.out.1 HTL.out.2 (Nat.le_succ _) _ _ _ _ _ _ _ _ (rfl))

set_option maxHeartbeats 4000000 in
theorem step2_dies (T B pos off num : Nat) (k : Int) (l : List UInt8) (w : World) (hT : Tab w T B l pos) (hTl : T < w.heap.size)
    (h : ∀ w2, Tab w2 T B l pos → Calls Tryz.prog 38 #[.pointer (some ⟨T, 0, none⟩), .int .u8 k, .int .u32 off] w2 (Dies w2)) :
    Calls Tryz.prog 28 #[.pointer (some ⟨T, 0, none⟩), stepV 2 k off num] w (Falls w) := by
  have hfr : Fr0 w (World.alloc (World.alloc w (Obj.cells #[Value.int IntKind.u8 2, Value.int IntKind.u8 k, Value.int IntKind.u32 ((off : Nat) : Int), Value.int IntKind.u64 ((num : Nat) : Int)] 77)) (Obj.cells #[Value.int IntKind.u64 0, Value.string { data := #[] }, Value.bool false, Value.bool false] 49)) := ((Fr.refl _ w).alloc _).alloc _
  have HC := Lib.hid (fun nq => h (World.drewN (World.alloc (World.alloc w (Obj.cells #[Value.int IntKind.u8 2, Value.int IntKind.u8 k, Value.int IntKind.u32 ((off : Nat) : Int), Value.int IntKind.u64 ((num : Nat) : Int)] 77)) (Obj.cells #[Value.int IntKind.u64 0, Value.string { data := #[] }, Value.bool false, Value.bool false] 49)) nq) ((hT.fr hfr hTl).drewN nq))
  have HF := Lib.hid hfr; clear hfr
  have HW := Lib.hid (u16_wrap off)
  unfold stepV
  clear hT h hTl
  go_enter Tryz.func28, Tryz.ntmps28
  go_wp2_with fail
  go_quiet (fail)
  go_wp2_with fail
  refine (HC.out nq).mono ?_
  rintro e w' ⟨⟨u, x, rfl⟩, m, rfl⟩
  exact ⟨rfl, ⟨u, x, rfl⟩, (HF.out.drewN _).drewN _⟩

set_option maxHeartbeats 4000000 in
theorem step3_ok (T B pos off num : Nat) (k : Int) (l m : List UInt8) (w : World) (n : Nat) (hn : n < 18446744073709551616) (hT : Tab w T B l pos) (hTl : T < w.heap.size)
    (h : ∀ w2, Tab w2 T B l pos → Calls Tryz.prog 39 #[.pointer (some ⟨T, 0, none⟩), .int .u32 off] w2 (Steps w2 T B pos m (.int .u32 n))) :
    Calls Tryz.prog 28 #[.pointer (some ⟨T, 0, none⟩), stepV 3 k off num] w (Steps w T B pos m (ansV (.ofNum n))) := by
  have hBl := lt_of_block hT.b
  have hfr : Fr0 w (World.alloc (World.alloc w (Obj.cells #[Value.int IntKind.u8 3, Value.int IntKind.u8 k, Value.int IntKind.u32 ((off : Nat) : Int), Value.int IntKind.u64 ((num : Nat) : Int)] 77)) (Obj.cells #[Value.int IntKind.u64 0, Value.string { data := #[] }, Value.bool false, Value.bool false] 49)) := ((Fr.refl _ w).alloc _).alloc _
  have HC := Lib.hid (fun nq => h (World.drewN (World.alloc (World.alloc w (Obj.cells #[Value.int IntKind.u8 3, Value.int IntKind.u8 k, Value.int IntKind.u32 ((off : Nat) : Int), Value.int IntKind.u64 ((num : Nat) : Int)] 77)) (Obj.cells #[Value.int IntKind.u64 0, Value.string { data := #[] }, Value.bool false, Value.bool false] 49)) nq) ((hT.fr hfr hTl).drewN nq))
  have hb2 : ∀ nq, (World.drewN (World.alloc (World.alloc w (Obj.cells #[Value.int IntKind.u8 3, Value.int IntKind.u8 k, Value.int IntKind.u32 ((off : Nat) : Int), Value.int IntKind.u64 ((num : Nat) : Int)] 77)) (Obj.cells #[Value.int IntKind.u64 0, Value.string { data := #[] }, Value.bool false, Value.bool false] 49)) nq).heap[w.heap.size + 1]? = some (.cells #[.int .u64 0, .string ⟨#[]⟩, .bool false, .bool false] 49) := fun nq => by
    show (World.alloc _ _).heap[w.heap.size + 1]? = _
    simp only [heap_alloc_get, size_alloc]
    rw [if_pos trivial]
  have HB := Lib.hid hb2; clear hb2
  have HF := Lib.hid (fun nq => (hfr.mono (S' := fun x => x = B) (fun _ _ x => x.elim)).drewN nq); clear hfr
  have HW := Lib.hid (u16_wrap off)
  have HTL := Lib.hid (And.intro hTl hBl)
  have HNE := Lib.hid (show ¬ (w.heap.size + 1 = B) from by omega)
  have HSZ := Lib.hid (show w.heap.size + 1 < (World.alloc (World.alloc w (Obj.cells #[Value.int IntKind.u8 3, Value.int IntKind.u8 k, Value.int IntKind.u32 ((off : Nat) : Int), Value.int IntKind.u64 ((num : Nat) : Int)] 77)) (Obj.cells #[Value.int IntKind.u64 0, Value.string { data := #[] }, Value.bool false, Value.bool false] 49)).heap.size from by simp)
  unfold stepV
  clear hT h hTl hBl
  go_enter Tryz.func28, Tryz.ntmps28
  go_wp2_with fail
  go_quiet (fail)
  go_wp2_with fail
  refine (HC.out nq).mono ?_
  rintro e w' ⟨rfl, hf, hT'⟩
  have hb3 := (hf.block (w.heap.size + 1) HSZ.out HNE.out).trans (HB.out nq)
  have c0 : w'.cell? ⟨w.heap.size + 1, 0, none⟩ = some (.int .u64 0) := by rw [cell_of hb3]; rfl
  have c1 : w'.cell? ⟨w.heap.size + 1, 1, none⟩ = some (.string ⟨#[]⟩) := by rw [cell_of hb3]; rfl
  have c2 : w'.cell? ⟨w.heap.size + 1, 2, none⟩ = some (.bool false) := by rw [cell_of hb3]; rfl
  have c3 : w'.cell? ⟨w.heap.size + 1, 3, none⟩ = some (.bool false) := by rw [cell_of hb3]; rfl
  have f0 := frozen_of hb3 0
  have f1 := frozen_of hb3 1
  have f2 := frozen_of hb3 2
  have f3 := frozen_of hb3 3
  have HFW := Lib.hid ((HF.out nq).trans hf)
  have HTT := Lib.hid hT'
  have HBB := Lib.hid hb3
  clear hf hT' hb3
  go_wp2_with fail
  exact bodyPost_ret (results_cell_row (P := Tryz.prog) rfl _ _ (w.heap.size + 1) 49 _ (0, 0) _ rfl (ans_end _ _ _ _ _ _ _ _ _ _ HBB.out rfl) Tryz.underlying49 rfl infoAns) rfl
    (step_end HFW.out HTT.out HTL.out.1 HTL.out.2 (Nat.le_succ _) _ _ _ _ _ _ _ _ (rfl))

set_option maxHeartbeats 4000000 in
theorem step3_dies (T B pos off num : Nat) (k : Int) (l : List UInt8) (w : World) (hT : Tab w T B l pos) (hTl : T < w.heap.size)
    (h : ∀ w2, Tab w2 T B l pos → Calls Tryz.prog 39 #[.pointer (some ⟨T, 0, none⟩), .int .u32 off] w2 (Dies w2)) :
    Calls Tryz.prog 28 #[.pointer (some ⟨T, 0, none⟩), stepV 3 k off num] w (Falls w) := by
  have hfr : Fr0 w (World.alloc (World.alloc w (Obj.cells #[Value.int IntKind.u8 3, Value.int IntKind.u8 k, Value.int IntKind.u32 ((off : Nat) : Int), Value.int IntKind.u64 ((num : Nat) : Int)] 77)) (Obj.cells #[Value.int IntKind.u64 0, Value.string { data := #[] }, Value.bool false, Value.bool false] 49)) := ((Fr.refl _ w).alloc _).alloc _
  have HC := Lib.hid (fun nq => h (World.drewN (World.alloc (World.alloc w (Obj.cells #[Value.int IntKind.u8 3, Value.int IntKind.u8 k, Value.int IntKind.u32 ((off : Nat) : Int), Value.int IntKind.u64 ((num : Nat) : Int)] 77)) (Obj.cells #[Value.int IntKind.u64 0, Value.string { data := #[] }, Value.bool false, Value.bool false] 49)) nq) ((hT.fr hfr hTl).drewN nq))
  have HF := Lib.hid hfr; clear hfr
  have HW := Lib.hid (u16_wrap off)
  unfold stepV
  clear hT h hTl
  go_enter Tryz.func28, Tryz.ntmps28
  go_wp2_with fail
  go_quiet (fail)
  go_wp2_with fail
  refine (HC.out nq).mono ?_
  rintro e w' ⟨⟨u, x, rfl⟩, m, rfl⟩
  exact ⟨rfl, ⟨u, x, rfl⟩, (HF.out.drewN _).drewN _⟩

set_option maxHeartbeats 4000000 in
theorem step4_ok (T B pos off num : Nat) (k : Int) (l m : List UInt8) (w : World) (t : List UInt8) (hT : Tab w T B l pos) (hTl : T < w.heap.size)
    (h : ∀ w2, Tab w2 T B l pos → Calls Tryz.prog 40 #[.pointer (some ⟨T, 0, none⟩), .int .u32 off] w2 (Steps w2 T B pos m (.string (strOf t)))) :
    Calls Tryz.prog 28 #[.pointer (some ⟨T, 0, none⟩), stepV 4 k off num] w (Steps w T B pos m (ansV (.ofText t))) := by
  have hBl := lt_of_block hT.b
  have hfr : Fr0 w (World.alloc (World.alloc w (Obj.cells #[Value.int IntKind.u8 4, Value.int IntKind.u8 k, Value.int IntKind.u32 ((off : Nat) : Int), Value.int IntKind.u64 ((num : Nat) : Int)] 77)) (Obj.cells #[Value.int IntKind.u64 0, Value.string { data := #[] }, Value.bool false, Value.bool false] 49)) := ((Fr.refl _ w).alloc _).alloc _
  have HC := Lib.hid (fun nq => h (World.drewN (World.alloc (World.alloc w (Obj.cells #[Value.int IntKind.u8 4, Value.int IntKind.u8 k, Value.int IntKind.u32 ((off : Nat) : Int), Value.int IntKind.u64 ((num : Nat) : Int)] 77)) (Obj.cells #[Value.int IntKind.u64 0, Value.string { data := #[] }, Value.bool false, Value.bool false] 49)) nq) ((hT.fr hfr hTl).drewN nq))
  have hb2 : ∀ nq, (World.drewN (World.alloc (World.alloc w (Obj.cells #[Value.int IntKind.u8 4, Value.int IntKind.u8 k, Value.int IntKind.u32 ((off : Nat) : Int), Value.int IntKind.u64 ((num : Nat) : Int)] 77)) (Obj.cells #[Value.int IntKind.u64 0, Value.string { data := #[] }, Value.bool false, Value.bool false] 49)) nq).heap[w.heap.size + 1]? = some (.cells #[.int .u64 0, .string ⟨#[]⟩, .bool false, .bool false] 49) := fun nq => by
    show (World.alloc _ _).heap[w.heap.size + 1]? = _
    simp only [heap_alloc_get, size_alloc]
    rw [if_pos trivial]
  have HB := Lib.hid hb2; clear hb2
  have HF := Lib.hid (fun nq => (hfr.mono (S' := fun x => x = B) (fun _ _ x => x.elim)).drewN nq); clear hfr
  have HW := Lib.hid (u16_wrap off)
  have HTL := Lib.hid (And.intro hTl hBl)
  have HNE := Lib.hid (show ¬ (w.heap.size + 1 = B) from by omega)
  have HSZ := Lib.hid (show w.heap.size + 1 < (World.alloc (World.alloc w (Obj.cells #[Value.int IntKind.u8 4, Value.int IntKind.u8 k, Value.int IntKind.u32 ((off : Nat) : Int), Value.int IntKind.u64 ((num : Nat) : Int)] 77)) (Obj.cells #[Value.int IntKind.u64 0, Value.string { data := #[] }, Value.bool false, Value.bool false] 49)).heap.size from by simp)
  unfold stepV
  clear hT h hTl hBl
  go_enter Tryz.func28, Tryz.ntmps28
  go_wp2_with fail
  go_quiet (fail)
  go_wp2_with fail
  refine (HC.out nq).mono ?_
  rintro e w' ⟨rfl, hf, hT'⟩
  have hb3 := (hf.block (w.heap.size + 1) HSZ.out HNE.out).trans (HB.out nq)
  have c0 : w'.cell? ⟨w.heap.size + 1, 0, none⟩ = some (.int .u64 0) := by rw [cell_of hb3]; rfl
  have c1 : w'.cell? ⟨w.heap.size + 1, 1, none⟩ = some (.string ⟨#[]⟩) := by rw [cell_of hb3]; rfl
  have c2 : w'.cell? ⟨w.heap.size + 1, 2, none⟩ = some (.bool false) := by rw [cell_of hb3]; rfl
  have c3 : w'.cell? ⟨w.heap.size + 1, 3, none⟩ = some (.bool false) := by rw [cell_of hb3]; rfl
  have f0 := frozen_of hb3 0
  have f1 := frozen_of hb3 1
  have f2 := frozen_of hb3 2
  have f3 := frozen_of hb3 3
  have HFW := Lib.hid ((HF.out nq).trans hf)
  have HTT := Lib.hid hT'
  have HBB := Lib.hid hb3
  clear hf hT' hb3
  go_wp2_with fail
  exact bodyPost_ret (results_cell_row (P := Tryz.prog) rfl _ _ (w.heap.size + 1) 49 _ (0, 0) _ rfl (ans_end _ _ _ _ _ _ _ _ _ _ HBB.out rfl) Tryz.underlying49 rfl infoAns) rfl
    (step_end HFW.out HTT.out HTL.out.1 HTL.out.2 (Nat.le_succ _) _ _ _ _ _ _ _ _ (rfl))

set_option maxHeartbeats 4000000 in
theorem step4_dies (T B pos off num : Nat) (k : Int) (l : List UInt8) (w : World) (hT : Tab w T B l pos) (hTl : T < w.heap.size)
    (h : ∀ w2, Tab w2 T B l pos → Calls Tryz.prog 40 #[.pointer (some ⟨T, 0, none⟩), .int .u32 off] w2 (Dies w2)) :
    Calls Tryz.prog 28 #[.pointer (some ⟨T, 0, none⟩), stepV 4 k off num] w (Falls w) := by
  have hfr : Fr0 w (World.alloc (World.alloc w (Obj.cells #[Value.int IntKind.u8 4, Value.int IntKind.u8 k, Value.int IntKind.u32 ((off : Nat) : Int), Value.int IntKind.u64 ((num : Nat) : Int)] 77)) (Obj.cells #[Value.int IntKind.u64 0, Value.string { data := #[] }, Value.bool false, Value.bool false] 49)) := ((Fr.refl _ w).alloc _).alloc _
  have HC := Lib.hid (fun nq => h (World.drewN (World.alloc (World.alloc w (Obj.cells #[Value.int IntKind.u8 4, Value.int IntKind.u8 k, Value.int IntKind.u32 ((off : Nat) : Int), Value.int IntKind.u64 ((num : Nat) : Int)] 77)) (Obj.cells #[Value.int IntKind.u64 0, Value.string { data := #[] }, Value.bool false, Value.bool false] 49)) nq) ((hT.fr hfr hTl).drewN nq))
  have HF := Lib.hid hfr; clear hfr
  have HW := Lib.hid (u16_wrap off)
  unfold stepV
  clear hT h hTl
  go_enter Tryz.func28, Tryz.ntmps28
  go_wp2_with fail
  go_quiet (fail)
  go_wp2_with fail
  refine (HC.out nq).mono ?_
  rintro e w' ⟨⟨u, x, rfl⟩, m, rfl⟩
  exact ⟨rfl, ⟨u, x, rfl⟩, (HF.out.drewN _).drewN _⟩

set_option maxHeartbeats 4000000 in
theorem step6_ok (T B pos off num : Nat) (k : Int) (l m : List UInt8) (w : World) (n : Nat) (hn : n < 18446744073709551616) (hT : Tab w T B l pos) (hTl : T < w.heap.size)
    (h : ∀ w2, Tab w2 T B l pos → Calls Tryz.prog 42 #[.pointer (some ⟨T, 0, none⟩), .int .u32 off] w2 (Steps w2 T B pos m (.int .u32 n))) :
    Calls Tryz.prog 28 #[.pointer (some ⟨T, 0, none⟩), stepV 6 k off num] w (Steps w T B pos m (ansV (.ofNum n))) := by
  have hBl := lt_of_block hT.b
  have hfr : Fr0 w (World.alloc (World.alloc w (Obj.cells #[Value.int IntKind.u8 6, Value.int IntKind.u8 k, Value.int IntKind.u32 ((off : Nat) : Int), Value.int IntKind.u64 ((num : Nat) : Int)] 77)) (Obj.cells #[Value.int IntKind.u64 0, Value.string { data := #[] }, Value.bool false, Value.bool false] 49)) := ((Fr.refl _ w).alloc _).alloc _
  have HC := Lib.hid (fun nq => h (World.drewN (World.alloc (World.alloc w (Obj.cells #[Value.int IntKind.u8 6, Value.int IntKind.u8 k, Value.int IntKind.u32 ((off : Nat) : Int), Value.int IntKind.u64 ((num : Nat) : Int)] 77)) (Obj.cells #[Value.int IntKind.u64 0, Value.string { data := #[] }, Value.bool false, Value.bool false] 49)) nq) ((hT.fr hfr hTl).drewN nq))
  have hb2 : ∀ nq, (World.drewN (World.alloc (World.alloc w (Obj.cells #[Value.int IntKind.u8 6, Value.int IntKind.u8 k, Value.int IntKind.u32 ((off : Nat) : Int), Value.int IntKind.u64 ((num : Nat) : Int)] 77)) (Obj.cells #[Value.int IntKind.u64 0, Value.string { data := #[] }, Value.bool false, Value.bool false] 49)) nq).heap[w.heap.size + 1]? = some (.cells #[.int .u64 0, .string ⟨#[]⟩, .bool false, .bool false] 49) := fun nq => by
    show (World.alloc _ _).heap[w.heap.size + 1]? = _
    simp only [heap_alloc_get, size_alloc]
    rw [if_pos trivial]
  have HB := Lib.hid hb2; clear hb2
  have HF := Lib.hid (fun nq => (hfr.mono (S' := fun x => x = B) (fun _ _ x => x.elim)).drewN nq); clear hfr
  have HW := Lib.hid (u16_wrap off)
  have HTL := Lib.hid (And.intro hTl hBl)
  have HNE := Lib.hid (show ¬ (w.heap.size + 1 = B) from by omega)
  have HSZ := Lib.hid (show w.heap.size + 1 < (World.alloc (World.alloc w (Obj.cells #[Value.int IntKind.u8 6, Value.int IntKind.u8 k, Value.int IntKind.u32 ((off : Nat) : Int), Value.int IntKind.u64 ((num : Nat) : Int)] 77)) (Obj.cells #[Value.int IntKind.u64 0, Value.string { data := #[] }, Value.bool false, Value.bool false] 49)).heap.size from by simp)
  unfold stepV
  clear hT h hTl hBl
  go_enter Tryz.func28, Tryz.ntmps28
  go_wp2_with fail
  go_quiet (fail)
  go_wp2_with fail
  refine (HC.out nq).mono ?_
  rintro e w' ⟨rfl, hf, hT'⟩
  have hb3 := (hf.block (w.heap.size + 1) HSZ.out HNE.out).trans (HB.out nq)
  have c0 : w'.cell? ⟨w.heap.size + 1, 0, none⟩ = some (.int .u64 0) := by rw [cell_of hb3]; rfl
  have c1 : w'.cell? ⟨w.heap.size + 1, 1, none⟩ = some (.string ⟨#[]⟩) := by rw [cell_of hb3]; rfl
  have c2 : w'.cell? ⟨w.heap.size + 1, 2, none⟩ = some (.bool false) := by rw [cell_of hb3]; rfl
  have c3 : w'.cell? ⟨w.heap.size + 1, 3, none⟩ = some (.bool false) := by rw [cell_of hb3]; rfl
  have f0 := frozen_of hb3 0
  have f1 := frozen_of hb3 1
  have f2 := frozen_of hb3 2
  have f3 := frozen_of hb3 3
  have HFW := Lib.hid ((HF.out nq).trans hf)
  have HTT := Lib.hid hT'
  have HBB := Lib.hid hb3
  clear hf hT' hb3
  go_wp2_with fail
  exact bodyPost_ret (results_cell_row (P := Tryz.prog) rfl _ _ (w.heap.size + 1) 49 _ (0, 0) _ rfl (ans_end _ _ _ _ _ _ _ _ _ _ HBB.out rfl) Tryz.underlying49 rfl infoAns) rfl
    (step_end HFW.out HTT.out HTL.out.1 HTL.out.2 (Nat.le_succ _) _ _ _ _ _ _ _ _ (rfl))

set_option maxHeartbeats 4000000 in
theorem step6_dies (T B pos off num : Nat) (k : Int) (l : List UInt8) (w : World) (hT : Tab w T B l pos) (hTl : T < w.heap.size)
    (h : ∀ w2, Tab w2 T B l pos → Calls Tryz.prog 42 #[.pointer (some ⟨T, 0, none⟩), .int .u32 off] w2 (Dies w2)) :
    Calls Tryz.prog 28 #[.pointer (some ⟨T, 0, none⟩), stepV 6 k off num] w (Falls w) := by
  have hfr : Fr0 w (World.alloc (World.alloc w (Obj.cells #[Value.int IntKind.u8 6, Value.int IntKind.u8 k, Value.int IntKind.u32 ((off : Nat) : Int), Value.int IntKind.u64 ((num : Nat) : Int)] 77)) (Obj.cells #[Value.int IntKind.u64 0, Value.string { data := #[] }, Value.bool false, Value.bool false] 49)) := ((Fr.refl _ w).alloc _).alloc _
  have HC := Lib.hid (fun nq => h (World.drewN (World.alloc (World.alloc w (Obj.cells #[Value.int IntKind.u8 6, Value.int IntKind.u8 k, Value.int IntKind.u32 ((off : Nat) : Int), Value.int IntKind.u64 ((num : Nat) : Int)] 77)) (Obj.cells #[Value.int IntKind.u64 0, Value.string { data := #[] }, Value.bool false, Value.bool false] 49)) nq) ((hT.fr hfr hTl).drewN nq))
  have HF := Lib.hid hfr; clear hfr
  have HW := Lib.hid (u16_wrap off)
  unfold stepV
  clear hT h hTl
  go_enter Tryz.func28, Tryz.ntmps28
  go_wp2_with fail
  go_quiet (fail)
  go_wp2_with fail
  refine (HC.out nq).mono ?_
  rintro e w' ⟨⟨u, x, rfl⟩, m, rfl⟩
  exact ⟨rfl, ⟨u, x, rfl⟩, (HF.out.drewN _).drewN _⟩

set_option maxHeartbeats 4000000 in
theorem step7_ok (T B pos off num : Nat) (k : Int) (l m : List UInt8) (w : World) (n : Nat) (hn : n < 18446744073709551616) (hT : Tab w T B l pos) (hTl : T < w.heap.size)
    (h : ∀ w2, Tab w2 T B l pos → Calls Tryz.prog 43 #[.pointer (some ⟨T, 0, none⟩), .int .u32 off] w2 (Steps w2 T B pos m (.int .i64 n))) :
    Calls Tryz.prog 28 #[.pointer (some ⟨T, 0, none⟩), stepV 7 k off num] w (Steps w T B pos m (ansV (.ofNum n))) := by
  have hBl := lt_of_block hT.b
  have hfr : Fr0 w (World.alloc (World.alloc w (Obj.cells #[Value.int IntKind.u8 7, Value.int IntKind.u8 k, Value.int IntKind.u32 ((off : Nat) : Int), Value.int IntKind.u64 ((num : Nat) : Int)] 77)) (Obj.cells #[Value.int IntKind.u64 0, Value.string { data := #[] }, Value.bool false, Value.bool false] 49)) := ((Fr.refl _ w).alloc _).alloc _
  have HC := Lib.hid (fun nq => h (World.drewN (World.alloc (World.alloc w (Obj.cells #[Value.int IntKind.u8 7, Value.int IntKind.u8 k, Value.int IntKind.u32 ((off : Nat) : Int), Value.int IntKind.u64 ((num : Nat) : Int)] 77)) (Obj.cells #[Value.int IntKind.u64 0, Value.string { data := #[] }, Value.bool false, Value.bool false] 49)) nq) ((hT.fr hfr hTl).drewN nq))
  have hb2 : ∀ nq, (World.drewN (World.alloc (World.alloc w (Obj.cells #[Value.int IntKind.u8 7, Value.int IntKind.u8 k, Value.int IntKind.u32 ((off : Nat) : Int), Value.int IntKind.u64 ((num : Nat) : Int)] 77)) (Obj.cells #[Value.int IntKind.u64 0, Value.string { data := #[] }, Value.bool false, Value.bool false] 49)) nq).heap[w.heap.size + 1]? = some (.cells #[.int .u64 0, .string ⟨#[]⟩, .bool false, .bool false] 49) := fun nq => by
    show (World.alloc _ _).heap[w.heap.size + 1]? = _
    simp only [heap_alloc_get, size_alloc]
    rw [if_pos trivial]
  have HB := Lib.hid hb2; clear hb2
  have HF := Lib.hid (fun nq => (hfr.mono (S' := fun x => x = B) (fun _ _ x => x.elim)).drewN nq); clear hfr
  have HW := Lib.hid (u16_wrap off)
  have HTL := Lib.hid (And.intro hTl hBl)
  have HNE := Lib.hid (show ¬ (w.heap.size + 1 = B) from by omega)
  have HSZ := Lib.hid (show w.heap.size + 1 < (World.alloc (World.alloc w (Obj.cells #[Value.int IntKind.u8 7, Value.int IntKind.u8 k, Value.int IntKind.u32 ((off : Nat) : Int), Value.int IntKind.u64 ((num : Nat) : Int)] 77)) (Obj.cells #[Value.int IntKind.u64 0, Value.string { data := #[] }, Value.bool false, Value.bool false] 49)).heap.size from by simp)
  unfold stepV
  clear hT h hTl hBl
  go_enter Tryz.func28, Tryz.ntmps28
  go_wp2_with fail
  go_quiet (fail)
  go_wp2_with fail
  refine (HC.out nq).mono ?_
  rintro e w' ⟨rfl, hf, hT'⟩
  have hb3 := (hf.block (w.heap.size + 1) HSZ.out HNE.out).trans (HB.out nq)
  have c0 : w'.cell? ⟨w.heap.size + 1, 0, none⟩ = some (.int .u64 0) := by rw [cell_of hb3]; rfl
  have c1 : w'.cell? ⟨w.heap.size + 1, 1, none⟩ = some (.string ⟨#[]⟩) := by rw [cell_of hb3]; rfl
  have c2 : w'.cell? ⟨w.heap.size + 1, 2, none⟩ = some (.bool false) := by rw [cell_of hb3]; rfl
  have c3 : w'.cell? ⟨w.heap.size + 1, 3, none⟩ = some (.bool false) := by rw [cell_of hb3]; rfl
  have f0 := frozen_of hb3 0
  have f1 := frozen_of hb3 1
  have f2 := frozen_of hb3 2
  have f3 := frozen_of hb3 3
  have HFW := Lib.hid ((HF.out nq).trans hf)
  have HTT := Lib.hid hT'
  have HBB := Lib.hid hb3
  clear hf hT' hb3
  go_wp2_with fail
  exact bodyPost_ret (results_cell_row (P := Tryz.prog) rfl _ _ (w.heap.size + 1) 49 _ (0, 0) _ rfl (ans_end _ _ _ _ _ _ _ _ _ _ HBB.out rfl) Tryz.underlying49 rfl infoAns) rfl
    (step_end HFW.out HTT.out HTL.out.1 HTL.out.2 (Nat.le_succ _) _ _ _ _ _ _ _ _ (rfl))

set_option maxHeartbeats 4000000 in
theorem step7_dies (T B pos off num : Nat) (k : Int) (l : List UInt8) (w : World) (hT : Tab w T B l pos) (hTl : T < w.heap.size)
    (h : ∀ w2, Tab w2 T B l pos → Calls Tryz.prog 43 #[.pointer (some ⟨T, 0, none⟩), .int .u32 off] w2 (Dies w2)) :
    Calls Tryz.prog 28 #[.pointer (some ⟨T, 0, none⟩), stepV 7 k off num] w (Falls w) := by
  have hfr : Fr0 w (World.alloc (World.alloc w (Obj.cells #[Value.int IntKind.u8 7, Value.int IntKind.u8 k, Value.int IntKind.u32 ((off : Nat) : Int), Value.int IntKind.u64 ((num : Nat) : Int)] 77)) (Obj.cells #[Value.int IntKind.u64 0, Value.string { data := #[] }, Value.bool false, Value.bool false] 49)) := ((Fr.refl _ w).alloc _).alloc _
  have HC := Lib.hid (fun nq => h (World.drewN (World.alloc (World.alloc w (Obj.cells #[Value.int IntKind.u8 7, Value.int IntKind.u8 k, Value.int IntKind.u32 ((off : Nat) : Int), Value.int IntKind.u64 ((num : Nat) : Int)] 77)) (Obj.cells #[Value.int IntKind.u64 0, Value.string { data := #[] }, Value.bool false, Value.bool false] 49)) nq) ((hT.fr hfr hTl).drewN nq))
  have HF := Lib.hid hfr; clear hfr
  have HW := Lib.hid (u16_wrap off)
  unfold stepV
  clear hT h hTl
  go_enter Tryz.func28, Tryz.ntmps28
  go_wp2_with fail
  go_quiet (fail)
  go_wp2_with fail
  refine (HC.out nq).mono ?_
  rintro e w' ⟨⟨u, x, rfl⟩, m, rfl⟩
  exact ⟨rfl, ⟨u, x, rfl⟩, (HF.out.drewN _).drewN _⟩

set_option maxHeartbeats 4000000 in
theorem step9_ok (T B pos off num : Nat) (k : Int) (l m : List UInt8) (w : World) (b : Bool) (hT : Tab w T B l pos) (hTl : T < w.heap.size)
    (h : ∀ w2, Tab w2 T B l pos → Calls Tryz.prog 45 #[.pointer (some ⟨T, 0, none⟩), .int .u8 k, .int .u32 off, .int .u64 num] w2 (Steps w2 T B pos m (.bool b))) :
    Calls Tryz.prog 28 #[.pointer (some ⟨T, 0, none⟩), stepV 9 k off num] w (Steps w T B pos m (ansV (.ofDone b))) := by
  have hBl := lt_of_block hT.b
  have hfr : Fr0 w (World.alloc (World.alloc w (Obj.cells #[Value.int IntKind.u8 9, Value.int IntKind.u8 k, Value.int IntKind.u32 ((off : Nat) : Int), Value.int IntKind.u64 ((num : Nat) : Int)] 77)) (Obj.cells #[Value.int IntKind.u64 0, Value.string { data := #[] }, Value.bool false, Value.bool false] 49)) := ((Fr.refl _ w).alloc _).alloc _
  have HC := Lib.hid (fun nq => h (World.drewN (World.alloc (World.alloc w (Obj.cells #[Value.int IntKind.u8 9, Value.int IntKind.u8 k, Value.int IntKind.u32 ((off : Nat) : Int), Value.int IntKind.u64 ((num : Nat) : Int)] 77)) (Obj.cells #[Value.int IntKind.u64 0, Value.string { data := #[] }, Value.bool false, Value.bool false] 49)) nq) ((hT.fr hfr hTl).drewN nq))
  have hb2 : ∀ nq, (World.drewN (World.alloc (World.alloc w (Obj.cells #[Value.int IntKind.u8 9, Value.int IntKind.u8 k, Value.int IntKind.u32 ((off : Nat) : Int), Value.int IntKind.u64 ((num : Nat) : Int)] 77)) (Obj.cells #[Value.int IntKind.u64 0, Value.string { data := #[] }, Value.bool false, Value.bool false] 49)) nq).heap[w.heap.size + 1]? = some (.cells #[.int .u64 0, .string ⟨#[]⟩, .bool false, .bool false] 49) := fun nq => by
    show (World.alloc _ _).heap[w.heap.size + 1]? = _
    simp only [heap_alloc_get, size_alloc]
    rw [if_pos trivial]
  have HB := Lib.hid hb2; clear hb2
  have HF := Lib.hid (fun nq => (hfr.mono (S' := fun x => x = B) (fun _ _ x => x.elim)).drewN nq); clear hfr
  have HW := Lib.hid (u16_wrap off)
  have HTL := Lib.hid (And.intro hTl hBl)
  have HNE := Lib.hid (show ¬ (w.heap.size + 1 = B) from by omega)
  have HSZ := Lib.hid (show w.heap.size + 1 < (World.alloc (World.alloc w (Obj.cells #[Value.int IntKind.u8 9, Value.int IntKind.u8 k, Value.int IntKind.u32 ((off : Nat) : Int), Value.int IntKind.u64 ((num : Nat) : Int)] 77)) (Obj.cells #[Value.int IntKind.u64 0, Value.string { data := #[] }, Value.bool false, Value.bool false] 49)).heap.size from by simp)
  unfold stepV
  clear hT h hTl hBl
  go_enter Tryz.func28, Tryz.ntmps28
  go_wp2_with fail
  go_quiet (fail)
  go_wp2_with fail
  refine (HC.out nq).mono ?_
  rintro e w' ⟨rfl, hf, hT'⟩
  have hb3 := (hf.block (w.heap.size + 1) HSZ.out HNE.out).trans (HB.out nq)
  have c0 : w'.cell? ⟨w.heap.size + 1, 0, none⟩ = some (.int .u64 0) := by rw [cell_of hb3]; rfl
  have c1 : w'.cell? ⟨w.heap.size + 1, 1, none⟩ = some (.string ⟨#[]⟩) := by rw [cell_of hb3]; rfl
  have c2 : w'.cell? ⟨w.heap.size + 1, 2, none⟩ = some (.bool false) := by rw [cell_of hb3]; rfl
  have c3 : w'.cell? ⟨w.heap.size + 1, 3, none⟩ = some (.bool false) := by rw [cell_of hb3]; rfl
  have f0 := frozen_of hb3 0
  have f1 := frozen_of hb3 1
  have f2 := frozen_of hb3 2
  have f3 := frozen_of hb3 3
  have HFW := Lib.hid ((HF.out nq).trans hf)
  have HTT := Lib.hid hT'
  have HBB := Lib.hid hb3
  clear hf hT' hb3
  go_wp2_with fail
  exact bodyPost_ret (results_cell_row (P := Tryz.prog) rfl _ _ (w.heap.size + 1) 49 _ (0, 0) _ rfl (ans_end _ _ _ _ _ _ _ _ _ _ HBB.out rfl) Tryz.underlying49 rfl infoAns) rfl
    (step_end HFW.out HTT.out HTL.out.1 HTL.out.2 (Nat.le_succ _) _ _ _ _ _ _ _ _ (rfl))

set_option maxHeartbeats 4000000 in
theorem step9_dies (T B pos off num : Nat) (k : Int) (l : List UInt8) (w : World) (hT : Tab w T B l pos) (hTl : T < w.heap.size)
    (h : ∀ w2, Tab w2 T B l pos → Calls Tryz.prog 45 #[.pointer (some ⟨T, 0, none⟩), .int .u8 k, .int .u32 off, .int .u64 num] w2 (Dies w2)) :
    Calls Tryz.prog 28 #[.pointer (some ⟨T, 0, none⟩), stepV 9 k off num] w (Falls w) := by
  have hfr : Fr0 w (World.alloc (World.alloc w (Obj.cells #[Value.int IntKind.u8 9, Value.int IntKind.u8 k, Value.int IntKind.u32 ((off : Nat) : Int), Value.int IntKind.u64 ((num : Nat) : Int)] 77)) (Obj.cells #[Value.int IntKind.u64 0, Value.string { data := #[] }, Value.bool false, Value.bool false] 49)) := ((Fr.refl _ w).alloc _).alloc _
  have HC := Lib.hid (fun nq => h (World.drewN (World.alloc (World.alloc w (Obj.cells #[Value.int IntKind.u8 9, Value.int IntKind.u8 k, Value.int IntKind.u32 ((off : Nat) : Int), Value.int IntKind.u64 ((num : Nat) : Int)] 77)) (Obj.cells #[Value.int IntKind.u64 0, Value.string { data := #[] }, Value.bool false, Value.bool false] 49)) nq) ((hT.fr hfr hTl).drewN nq))
  have HF := Lib.hid hfr; clear hfr
  have HW := Lib.hid (u16_wrap off)
  unfold stepV
  clear hT h hTl
  go_enter Tryz.func28, Tryz.ntmps28
  go_wp2_with fail
  go_quiet (fail)
  go_wp2_with fail
  refine (HC.out nq).mono ?_
  rintro e w' ⟨⟨u, x, rfl⟩, m, rfl⟩
  exact ⟨rfl, ⟨u, x, rfl⟩, (HF.out.drewN _).drewN _⟩

set_option maxHeartbeats 4000000 in
theorem step10_ok (T B pos off num : Nat) (k : Int) (l m : List UInt8) (w : World) (b : Bool) (hT : Tab w T B l pos) (hTl : T < w.heap.size)
    (h : ∀ w2, Tab w2 T B l pos → Calls Tryz.prog 46 #[.pointer (some ⟨T, 0, none⟩), .int .u8 k, .int .u16 (off % 65536 : Nat), .int .u64 num] w2 (Steps w2 T B pos m (.bool b))) :
    Calls Tryz.prog 28 #[.pointer (some ⟨T, 0, none⟩), stepV 10 k off num] w (Steps w T B pos m (ansV (.ofDone b))) := by
  have hBl := lt_of_block hT.b
  have hfr : Fr0 w (World.alloc (World.alloc w (Obj.cells #[Value.int IntKind.u8 10, Value.int IntKind.u8 k, Value.int IntKind.u32 ((off : Nat) : Int), Value.int IntKind.u64 ((num : Nat) : Int)] 77)) (Obj.cells #[Value.int IntKind.u64 0, Value.string { data := #[] }, Value.bool false, Value.bool false] 49)) := ((Fr.refl _ w).alloc _).alloc _
  have HC := Lib.hid (fun nq => h (World.drewN (World.alloc (World.alloc w (Obj.cells #[Value.int IntKind.u8 10, Value.int IntKind.u8 k, Value.int IntKind.u32 ((off : Nat) : Int), Value.int IntKind.u64 ((num : Nat) : Int)] 77)) (Obj.cells #[Value.int IntKind.u64 0, Value.string { data := #[] }, Value.bool false, Value.bool false] 49)) nq) ((hT.fr hfr hTl).drewN nq))
  have hb2 : ∀ nq, (World.drewN (World.alloc (World.alloc w (Obj.cells #[Value.int IntKind.u8 10, Value.int IntKind.u8 k, Value.int IntKind.u32 ((off : Nat) : Int), Value.int IntKind.u64 ((num : Nat) : Int)] 77)) (Obj.cells #[Value.int IntKind.u64 0, Value.string { data := #[] }, Value.bool false, Value.bool false] 49)) nq).heap[w.heap.size + 1]? = some (.cells #[.int .u64 0, .string ⟨#[]⟩, .bool false, .bool false] 49) := fun nq => by
    show (World.alloc _ _).heap[w.heap.size + 1]? = _
    simp only [heap_alloc_get, size_alloc]
    rw [if_pos trivial]
  have HB := Lib.hid hb2; clear hb2
  have HF := Lib.hid (fun nq => (hfr.mono (S' := fun x => x = B) (fun _ _ x => x.elim)).drewN nq); clear hfr
  have HW := Lib.hid (u16_wrap off)
  have HTL := Lib.hid (And.intro hTl hBl)
  have HNE := Lib.hid (show ¬ (w.heap.size + 1 = B) from by omega)
  have HSZ := Lib.hid (show w.heap.size + 1 < (World.alloc (World.alloc w (Obj.cells #[Value.int IntKind.u8 10, Value.int IntKind.u8 k, Value.int IntKind.u32 ((off : Nat) : Int), Value.int IntKind.u64 ((num : Nat) : Int)] 77)) (Obj.cells #[Value.int IntKind.u64 0, Value.string { data := #[] }, Value.bool false, Value.bool false] 49)).heap.size from by simp)
  unfold stepV
  clear hT h hTl hBl
  go_enter Tryz.func28, Tryz.ntmps28
  go_wp2_with fail
  go_quiet (fail)
  go_wp2_with fail
  rw [HW.out]
  refine (HC.out nq).mono ?_
  rintro e w' ⟨rfl, hf, hT'⟩
  have hb3 := (hf.block (w.heap.size + 1) HSZ.out HNE.out).trans (HB.out nq)
  have c0 : w'.cell? ⟨w.heap.size + 1, 0, none⟩ = some (.int .u64 0) := by rw [cell_of hb3]; rfl
  have c1 : w'.cell? ⟨w.heap.size + 1, 1, none⟩ = some (.string ⟨#[]⟩) := by rw [cell_of hb3]; rfl
  have c2 : w'.cell? ⟨w.heap.size + 1, 2, none⟩ = some (.bool false) := by rw [cell_of hb3]; rfl
  have c3 : w'.cell? ⟨w.heap.size + 1, 3, none⟩ = some (.bool false) := by rw [cell_of hb3]; rfl
  have f0 := frozen_of hb3 0
  have f1 := frozen_of hb3 1
  have f2 := frozen_of hb3 2
  have f3 := frozen_of hb3 3
  have HFW := Lib.hid ((HF.out nq).trans hf)
  have HTT := Lib.hid hT'
  have HBB := Lib.hid hb3
  clear hf hT' hb3
  go_wp2_with fail
  exact bodyPost_ret (results_cell_row (P := Tryz.prog) rfl _ _ (w.heap.size + 1) 49 _ (0, 0) _ rfl (ans_end _ _ _ _ _ _ _ _ _ _ HBB.out rfl) Tryz.underlying49 rfl infoAns) rfl
    (step_end HFW.out HTT.out HTL.out.1 HTL.out.2 (Nat.le_succ _) _ _ _ _ _ _ _ _ (rfl))

set_option maxHeartbeats 4000000 in
theorem step10_dies (T B pos off num : Nat) (k : Int) (l : List UInt8) (w : World) (hT : Tab w T B l pos) (hTl : T < w.heap.size)
    (h : ∀ w2, Tab w2 T B l pos → Calls Tryz.prog 46 #[.pointer (some ⟨T, 0, none⟩), .int .u8 k, .int .u16 (off % 65536 : Nat), .int .u64 num] w2 (Dies w2)) :
    Calls Tryz.prog 28 #[.pointer (some ⟨T, 0, none⟩), stepV 10 k off num] w (Falls w) := by
  have hfr : Fr0 w (World.alloc (World.alloc w (Obj.cells #[Value.int IntKind.u8 10, Value.int IntKind.u8 k, Value.int IntKind.u32 ((off : Nat) : Int), Value.int IntKind.u64 ((num : Nat) : Int)] 77)) (Obj.cells #[Value.int IntKind.u64 0, Value.string { data := #[] }, Value.bool false, Value.bool false] 49)) := ((Fr.refl _ w).alloc _).alloc _
  have HC := Lib.hid (fun nq => h (World.drewN (World.alloc (World.alloc w (Obj.cells #[Value.int IntKind.u8 10, Value.int IntKind.u8 k, Value.int IntKind.u32 ((off : Nat) : Int), Value.int IntKind.u64 ((num : Nat) : Int)] 77)) (Obj.cells #[Value.int IntKind.u64 0, Value.string { data := #[] }, Value.bool false, Value.bool false] 49)) nq) ((hT.fr hfr hTl).drewN nq))
  have HF := Lib.hid hfr; clear hfr
  have HW := Lib.hid (u16_wrap off)
  unfold stepV
  clear hT h hTl
  go_enter Tryz.func28, Tryz.ntmps28
  go_wp2_with fail
  go_quiet (fail)
  go_wp2_with fail
  rw [HW.out]
  refine (HC.out nq).mono ?_
  rintro e w' ⟨⟨u, x, rfl⟩, m, rfl⟩
  exact ⟨rfl, ⟨u, x, rfl⟩, (HF.out.drewN _).drewN _⟩

set_option maxHeartbeats 4000000 in
theorem step5_ok (T B pos off num : Nat) (k : Int) (l t : List UInt8) (w : World) (hT : Tab w T B l pos) (hTl : T < w.heap.size) (h : mText l off = some t) :
    Calls Tryz.prog 28 #[.pointer (some ⟨T, 0, none⟩), stepV 5 k off num] w (Steps w T B pos l (ansV (.ofText t))) := by
  have hBl := lt_of_block hT.b
  have hfr : Fr0 w (World.alloc (World.alloc w (Obj.cells #[Value.int IntKind.u8 5, Value.int IntKind.u8 k, Value.int IntKind.u32 ((off : Nat) : Int), Value.int IntKind.u64 ((num : Nat) : Int)] 77)) (Obj.cells #[Value.int IntKind.u64 0, Value.string { data := #[] }, Value.bool false, Value.bool false] 49)) := ((Fr.refl _ w).alloc _).alloc _
  have HC := Lib.hid (fun nq => ByteVector_ok T B pos off t l (World.drewN (World.alloc (World.alloc w (Obj.cells #[Value.int IntKind.u8 5, Value.int IntKind.u8 k, Value.int IntKind.u32 ((off : Nat) : Int), Value.int IntKind.u64 ((num : Nat) : Int)] 77)) (Obj.cells #[Value.int IntKind.u64 0, Value.string { data := #[] }, Value.bool false, Value.bool false] 49)) nq) ((hT.fr hfr hTl).drewN nq) h)
  have HTab := Lib.hid (fun nq => (hT.fr hfr hTl).drewN nq)
  have hb2 : ∀ nq, (World.drewN (World.alloc (World.alloc w (Obj.cells #[Value.int IntKind.u8 5, Value.int IntKind.u8 k, Value.int IntKind.u32 ((off : Nat) : Int), Value.int IntKind.u64 ((num : Nat) : Int)] 77)) (Obj.cells #[Value.int IntKind.u64 0, Value.string { data := #[] }, Value.bool false, Value.bool false] 49)) nq).heap[w.heap.size + 1]? = some (.cells #[.int .u64 0, .string ⟨#[]⟩, .bool false, .bool false] 49) := fun nq => by
    show (World.alloc _ _).heap[w.heap.size + 1]? = _
    simp only [heap_alloc_get, size_alloc]
    rw [if_pos trivial]
  have HB := Lib.hid hb2; clear hb2
  have HF := Lib.hid (fun nq => (hfr.mono (S' := fun x => x = B) (fun _ _ x => x.elim)).drewN nq); clear hfr
  have HTL := Lib.hid (And.intro hTl hBl)
  unfold stepV
  clear hT h hTl hBl
  go_enter Tryz.func28, Tryz.ntmps28
  go_wp2_with fail
  go_quiet (fail)
  go_wp2_with fail
  refine (HC.out nq).mono ?_
  rintro e w' ⟨⟨o, cap, rfl, hM⟩, rfl⟩
  have hc := run_bytes_string (P := Tryz.prog) (src := 52) (dst := 9) hM rfl (cap := cap) Tryz.underlying52 Tryz.underlying5 Tryz.underlying9
  clear hM
  go_wp2_with fail
  exact bodyPost_ret (results_cell_row (P := Tryz.prog) rfl _ _ (w.heap.size + 1) 49 _ (0, 0) _ rfl (ans_end _ _ _ _ _ _ _ _ _ _ (HB.out nq) rfl) Tryz.underlying49 rfl infoAns) rfl
    (step_end (HF.out nq) (HTab.out nq) HTL.out.1 HTL.out.2 (Nat.le_succ _) _ _ _ _ _ _ _ _ rfl)
set_option maxHeartbeats 4000000 in
theorem step5_dies (T B pos off num : Nat) (k : Int) (l : List UInt8) (w : World) (hT : Tab w T B l pos) (hTl : T < w.heap.size) (h : mText l off = none) :
    Calls Tryz.prog 28 #[.pointer (some ⟨T, 0, none⟩), stepV 5 k off num] w (Falls w) := by
  have hfr : Fr0 w (World.alloc (World.alloc w (Obj.cells #[Value.int IntKind.u8 5, Value.int IntKind.u8 k, Value.int IntKind.u32 ((off : Nat) : Int), Value.int IntKind.u64 ((num : Nat) : Int)] 77)) (Obj.cells #[Value.int IntKind.u64 0, Value.string { data := #[] }, Value.bool false, Value.bool false] 49)) := ((Fr.refl _ w).alloc _).alloc _
  have HC := Lib.hid (fun nq => ByteVector_dies T B pos off l (World.drewN (World.alloc (World.alloc w (Obj.cells #[Value.int IntKind.u8 5, Value.int IntKind.u8 k, Value.int IntKind.u32 ((off : Nat) : Int), Value.int IntKind.u64 ((num : Nat) : Int)] 77)) (Obj.cells #[Value.int IntKind.u64 0, Value.string { data := #[] }, Value.bool false, Value.bool false] 49)) nq) ((hT.fr hfr hTl).drewN nq) h)
  have HF := Lib.hid hfr; clear hfr
  unfold stepV
  clear hT h hTl
  go_enter Tryz.func28, Tryz.ntmps28
  go_wp2_with fail
  go_quiet (fail)
  go_wp2_with fail
  refine (HC.out nq).mono ?_
  rintro e w' ⟨⟨u, x, rfl⟩, m, rfl⟩
  exact ⟨rfl, ⟨u, x, rfl⟩, (HF.out.drewN _).drewN _⟩

set_option maxHeartbeats 4000000 in
theorem stepNone (T B pos off num : Nat) (op k : Int) (l : List UInt8) (w : World) (hT : Tab w T B l pos) (hTl : T < w.heap.size) (h : op < 0 ∨ 10 < op) :
    Calls Tryz.prog 28 #[.pointer (some ⟨T, 0, none⟩), stepV op k off num] w (Falls w) := by
  have hfr : Fr0 w (World.alloc (World.alloc w (Obj.cells #[Value.int IntKind.u8 op, Value.int IntKind.u8 k, Value.int IntKind.u32 ((off : Nat) : Int), Value.int IntKind.u64 ((num : Nat) : Int)] 77)) (Obj.cells #[Value.int IntKind.u64 0, Value.string { data := #[] }, Value.bool false, Value.bool false] 49)) := ((Fr.refl _ w).alloc _).alloc _
  have HF := Lib.hid hfr; clear hfr
  have h0 : (op == 0) = false := by simp; omega
  have h1 : (op == 1) = false := by simp; omega
  have h2 : (op == 2) = false := by simp; omega
  have h3 : (op == 3) = false := by simp; omega
  have h4 : (op == 4) = false := by simp; omega
  have h5 : (op == 5) = false := by simp; omega
  have h6 : (op == 6) = false := by simp; omega
  have h7 : (op == 7) = false := by simp; omega
  have h8 : (op == 8) = false := by simp; omega
  have h9 : (op == 9) = false := by simp; omega
  have h10 : (op == 10) = false := by simp; omega
  unfold stepV
  clear hT h hTl
  go_enter Tryz.func28, Tryz.ntmps28
  go_wp2_with fail
  go_quiet (fail)
  go_wp2_with fail
  exact ⟨rfl, ⟨_, _, rfl⟩, (HF.out.drewN _)⟩

set_option maxHeartbeats 4000000 in
theorem step8_ok (T B pos off num q : Nat) (k : Int) (l : List UInt8) (w : World) (hT : Tab w T B l pos) (hTl : T < w.heap.size) (h : mJump l (w32 (off + pos)) = some q) :
    Calls Tryz.prog 28 #[.pointer (some ⟨T, 0, none⟩), stepV 8 k off num] w (Steps w T B pos l (ansV (.ofNum q))) := by
  have hBl := lt_of_block hT.b
  have hq : q < 18446744073709551616 := by
    obtain ⟨n, _, _, e⟩ := mJump_some h
    have h2 := w32_lt (w32 (off + pos) + n)
    rw [← e] at h2
    omega
  have HQ := Lib.hid hq; clear hq
  have hfr : Fr0 w (World.alloc (World.alloc w (Obj.cells #[Value.int IntKind.u8 8, Value.int IntKind.u8 k, Value.int IntKind.u32 ((off : Nat) : Int), Value.int IntKind.u64 ((num : Nat) : Int)] 77)) (Obj.cells #[Value.int IntKind.u64 0, Value.string { data := #[] }, Value.bool false, Value.bool false] 49)) := ((Fr.refl _ w).alloc _).alloc _
  have hu : ∀ nq, (World.alloc (World.drewN (World.alloc (World.alloc w (Obj.cells #[Value.int IntKind.u8 8, Value.int IntKind.u8 k, Value.int IntKind.u32 ((off : Nat) : Int), Value.int IntKind.u64 ((num : Nat) : Int)] 77)) (Obj.cells #[Value.int IntKind.u64 0, Value.string { data := #[] }, Value.bool false, Value.bool false] 49)) nq) (Obj.cells #[.slice none 0 0, .int .u32 0] 76)).heap[w.heap.size + 2]? = some (.cells #[.slice none 0 0, .int .u32 0] 76) := fun nq => by
    show (World.alloc (World.alloc _ _) _).heap[w.heap.size + 2]? = _
    simp only [heap_alloc_get, size_alloc]
    rw [if_pos trivial]
  have hfu : ∀ nq, Fr0 w (World.alloc (World.drewN (World.alloc (World.alloc w (Obj.cells #[Value.int IntKind.u8 8, Value.int IntKind.u8 k, Value.int IntKind.u32 ((off : Nat) : Int), Value.int IntKind.u64 ((num : Nat) : Int)] 77)) (Obj.cells #[Value.int IntKind.u64 0, Value.string { data := #[] }, Value.bool false, Value.bool false] 49)) nq) (Obj.cells #[.slice none 0 0, .int .u32 0] 76)) := fun nq => (hfr.drewN nq).alloc _
  have hTu := fun nq => hT.fr (hfu nq) hTl
  have HC := Lib.hid (fun nq => Union_ok T (w.heap.size + 2) B pos off q _ _ l _ (hTu nq) (hu nq) (by omega) h)
  have hb2 : ∀ nq u v, ((World.setCell (World.setCell (World.alloc (World.drewN (World.alloc (World.alloc w (Obj.cells #[Value.int IntKind.u8 8, Value.int IntKind.u8 k, Value.int IntKind.u32 ((off : Nat) : Int), Value.int IntKind.u64 ((num : Nat) : Int)] 77)) (Obj.cells #[Value.int IntKind.u64 0, Value.string { data := #[] }, Value.bool false, Value.bool false] 49)) nq) (Obj.cells #[.slice none 0 0, .int .u32 0] 76)) ⟨w.heap.size + 2, 1, none⟩ u) ⟨w.heap.size + 2, 0, none⟩ v)).heap[w.heap.size + 1]? = some (.cells #[.int .u64 0, .string ⟨#[]⟩, .bool false, .bool false] 49) := fun nq u v => by
    rw [heap_setCell_other _ _ _ _ (by simp), heap_setCell_other _ _ _ _ (by simp)]
    show (World.alloc (World.alloc (World.alloc _ _) _) _).heap[w.heap.size + 1]? = _
    simp only [heap_alloc_get, size_alloc]
    rw [if_neg (by omega), if_pos trivial]
  have HB := Lib.hid hb2; clear hb2
  have hp1 : ∀ nq u v, ((World.setCell (World.setCell (World.alloc (World.drewN (World.alloc (World.alloc w (Obj.cells #[Value.int IntKind.u8 8, Value.int IntKind.u8 k, Value.int IntKind.u32 ((off : Nat) : Int), Value.int IntKind.u64 ((num : Nat) : Int)] 77)) (Obj.cells #[Value.int IntKind.u64 0, Value.string { data := #[] }, Value.bool false, Value.bool false] 49)) nq) (Obj.cells #[.slice none 0 0, .int .u32 0] 76)) ⟨w.heap.size + 2, 1, none⟩ u) ⟨w.heap.size + 2, 0, none⟩ v)).cell? ⟨w.heap.size + 2, 1, none⟩ = some u := fun nq u v => by
    rw [cell_of (heap_setCell_same (heap_setCell_same (hu nq) 1 u) 0 v)]
    rfl
  have HP := Lib.hid hp1; clear hp1
  have hff : ∀ nq u v, Fr (fun x => x = B) w ((World.setCell (World.setCell (World.alloc (World.drewN (World.alloc (World.alloc w (Obj.cells #[Value.int IntKind.u8 8, Value.int IntKind.u8 k, Value.int IntKind.u32 ((off : Nat) : Int), Value.int IntKind.u64 ((num : Nat) : Int)] 77)) (Obj.cells #[Value.int IntKind.u64 0, Value.string { data := #[] }, Value.bool false, Value.bool false] 49)) nq) (Obj.cells #[.slice none 0 0, .int .u32 0] 76)) ⟨w.heap.size + 2, 1, none⟩ u) ⟨w.heap.size + 2, 0, none⟩ v)) := fun nq u v =>
    (((hfu nq).mono (S' := fun x => x = B) (fun _ _ x => x.elim)).setCell (fun (h : w.heap.size + 2 < w.heap.size) => absurd h (by omega)) _).setCell (fun (h : w.heap.size + 2 < w.heap.size) => absurd h (by omega)) _
  have HF := Lib.hid hff; clear hff
  have htt : ∀ nq u v, Tab ((World.setCell (World.setCell (World.alloc (World.drewN (World.alloc (World.alloc w (Obj.cells #[Value.int IntKind.u8 8, Value.int IntKind.u8 k, Value.int IntKind.u32 ((off : Nat) : Int), Value.int IntKind.u64 ((num : Nat) : Int)] 77)) (Obj.cells #[Value.int IntKind.u64 0, Value.string { data := #[] }, Value.bool false, Value.bool false] 49)) nq) (Obj.cells #[.slice none 0 0, .int .u32 0] 76)) ⟨w.heap.size + 2, 1, none⟩ u) ⟨w.heap.size + 2, 0, none⟩ v)) T B l pos := fun nq u v =>
    tab_set (tab_set (hTu nq) (by omega) (by omega)) (by omega) (by omega)
  have HTab := Lib.hid htt; clear htt
  have HTL := Lib.hid (And.intro hTl hBl)
  unfold stepV
  clear hT h hTl hBl hfr hu hfu hTu
  go_enter Tryz.func28, Tryz.ntmps28
  go_wp2_with fail
  go_quiet (fail)
  go_wp2_with fail
  refine (HC.out nq).mono ?_
  rintro e w' ⟨rfl, hw⟩
  have hb3 := HB.out nq (.int .u32 q) (.slice (some ⟨B, 0, none⟩) l.length l.length)
  have pc := HP.out nq (.int .u32 q) (.slice (some ⟨B, 0, none⟩) l.length l.length)
  have ff := HF.out nq (.int .u32 q) (.slice (some ⟨B, 0, none⟩) l.length l.length)
  have tt := HTab.out nq (.int .u32 q) (.slice (some ⟨B, 0, none⟩) l.length l.length)
  clear HB HP HF HTab HC
  rw [hw] at hb3 pc ff tt
  clear hw
  have c0 : w'.cell? ⟨w.heap.size + 1, 0, none⟩ = some (.int .u64 0) := by rw [cell_of hb3]; rfl
  have c1 : w'.cell? ⟨w.heap.size + 1, 1, none⟩ = some (.string ⟨#[]⟩) := by rw [cell_of hb3]; rfl
  have c2 : w'.cell? ⟨w.heap.size + 1, 2, none⟩ = some (.bool false) := by rw [cell_of hb3]; rfl
  have c3 : w'.cell? ⟨w.heap.size + 1, 3, none⟩ = some (.bool false) := by rw [cell_of hb3]; rfl
  have f0 := frozen_of hb3 0
  have f1 := frozen_of hb3 1
  have f2 := frozen_of hb3 2
  have f3 := frozen_of hb3 3
  have HFW := Lib.hid ff
  have HTT := Lib.hid tt
  have HBB := Lib.hid hb3
  clear ff tt hb3
  go_wp2_with fail
  exact bodyPost_ret (results_cell_row (P := Tryz.prog) rfl _ _ (w.heap.size + 1) 49 _ (0, 0) _ rfl (ans_end _ _ _ _ _ _ _ _ _ _ HBB.out rfl) Tryz.underlying49 rfl infoAns) rfl
    (step_end HFW.out HTT.out HTL.out.1 HTL.out.2 (Nat.le_succ _) _ _ _ _ _ _ _ _ (by rw [u64_nat q HQ.out]; rfl))
set_option maxHeartbeats 4000000 in
theorem step8_dies (T B pos off num : Nat) (k : Int) (l : List UInt8) (w : World) (hT : Tab w T B l pos) (hTl : T < w.heap.size) (h : mJump l (w32 (off + pos)) = none) :
    Calls Tryz.prog 28 #[.pointer (some ⟨T, 0, none⟩), stepV 8 k off num] w (Falls w) := by
  have hfr : Fr0 w (World.alloc (World.alloc w (Obj.cells #[Value.int IntKind.u8 8, Value.int IntKind.u8 k, Value.int IntKind.u32 ((off : Nat) : Int), Value.int IntKind.u64 ((num : Nat) : Int)] 77)) (Obj.cells #[Value.int IntKind.u64 0, Value.string { data := #[] }, Value.bool false, Value.bool false] 49)) := ((Fr.refl _ w).alloc _).alloc _
  have hfu : ∀ nq, Fr0 w (World.alloc (World.drewN (World.alloc (World.alloc w (Obj.cells #[Value.int IntKind.u8 8, Value.int IntKind.u8 k, Value.int IntKind.u32 ((off : Nat) : Int), Value.int IntKind.u64 ((num : Nat) : Int)] 77)) (Obj.cells #[Value.int IntKind.u64 0, Value.string { data := #[] }, Value.bool false, Value.bool false] 49)) nq) (Obj.cells #[.slice none 0 0, .int .u32 0] 76)) := fun nq => (hfr.drewN nq).alloc _
  have HC := Lib.hid (fun nq => Union_dies T (w.heap.size + 2) B pos off l _ (hT.fr (hfu nq) hTl) h)
  have HF := Lib.hid hfu; clear hfr hfu
  unfold stepV
  clear hT h hTl
  go_enter Tryz.func28, Tryz.ntmps28
  go_wp2_with fail
  go_quiet (fail)
  go_wp2_with fail
  refine (HC.out nq).mono ?_
  rintro e w' ⟨⟨u, x, rfl⟩, m, rfl⟩
  exact ⟨rfl, ⟨u, x, rfl⟩, (HF.out nq).drewN _⟩

end Go.Proofs.YtjfgippolckaeaaGreat
