/- GetRootAs, the thin package's root, and impl.RootAs: where the offset at a place leads. -/
import Derived.Test.YtjfgippolckaeaaGreatSliceLaws
import Derived.Test.YtjfgippolckaeaaGreatGet
import Derived.Test.YtjfgippolckaeaaGreatSlice
import Derived.Test.YtjfgippolckaeaaGreatThrown
import Derived.Deep.RegionHeld3
import Derived.RegionDies
namespace Go.Proofs.YtjfgippolckaeaaGreat
open Go.RowKit
set_option linter.unusedVariables false
set_option linter.unusedSimpArgs false

theorem rootInit (a : Addr) (w : World) : (method 306 80 (.pointer (some a)) "Init").run Tryz.prog w = .ok (154, .pointer (some a)) w := by kernel_rfl

theorem Init_calls (R : Nat) (x0 x1 : Value) (b : Addr) (len cap : Nat) (i : Int) (w : World) (hb : w.heap[R]? = some (.cells #[x0, x1] 82)) :
    Calls Tryz.prog 154 #[.pointer (some ⟨R, 0, none⟩), .slice (some b) len cap, .int .u32 i] w fun e w' => e = .returned (.tuple #[]) ∧ (w.setCell ⟨R, 0, none⟩ (.slice (some b) len cap)).setCell ⟨R, 1, none⟩ (.int .u32 i) = w' := by
  have c0 : w.cell? ⟨R, 0, none⟩ = some x0 := by rw [cell_of hb]; rfl
  have c1 : w.cell? ⟨R, 1, none⟩ = some x1 := by rw [cell_of hb]; rfl
  have f0 := frozen_of hb 0
  have f1 := frozen_of hb 1
  clear hb
  go_enter Tryz.func154, Tryz.ntmps154
  go_wp2
  go_end0
  exact ⟨rfl, rfl⟩

set_option maxHeartbeats 1000000 in
theorem GetRootAs_ok (R b len cap off : Nat) (l : List UInt8) (x0 x1 : Value) (w : World) (hb : w.heap[R]? = some (.cells #[x0, x1] 82)) (hm : Mem w b 0 l) (hlen : l.length = len) (hcap : len ≤ cap) (h : off + 4 ≤ len) :
    Calls Tryz.prog 30 #[.slice (some ⟨b, 0, none⟩) len cap, .int .u32 off, .iface 80 (.pointer (some ⟨R, 0, none⟩))] w fun e w' => e = .returned (.tuple #[]) ∧
      (w.setCell ⟨R, 0, none⟩ (.slice (some ⟨b, 0, none⟩) len cap)).setCell ⟨R, 1, none⟩ (.int .u32 (IntKind.u32.wrap ((le ((l.drop off).take 4) : Nat) + off))) = w' := by
  obtain ⟨i0, hi, hz0, hz1, hz2⟩ := info_parts infoU8
  have hsl := run_slice_from (P := Tryz.prog) Tryz.underlying52 (by rw [hi]; simp [hz1]) b 0 len cap .u32 off off rfl (by omega)
  have HG := Lib.hid (GetUOffsetT_ok b (sOff 0 off cap) (len - off) (cap - off) (l.drop off) w (hm.cut (by omega)) (by rw [List.length_drop, hlen]) (by omega))
  have HI := Lib.hid (fun i => Init_calls R x0 x1 ⟨b, 0, none⟩ len cap i w hb)
  have h2 := rootInit
  clear hb hm hlen h hcap hi hz0 hz1 hz2
  go_enter Tryz.func30, Tryz.ntmps30
  go_wp2_with (first | (go_at_call 47; refine HG.out.mono ?_; rintro e w' ⟨rfl, rfl⟩) | (go_at_call 154; refine (HI.out _).mono ?_; rintro e w' ⟨rfl, rfl⟩))
  go_end0
  refine ⟨rfl, ?_⟩
  rw [IntKind.wrap_u32]

theorem GetRootAs_dies (v : Value) (b len cap off : Nat) (l : List UInt8) (w : World) (hm : Mem w b 0 l) (hlen : l.length = len) (hcap : len ≤ cap) (h : len < off + 4) :
    Calls Tryz.prog 30 #[.slice (some ⟨b, 0, none⟩) len cap, .int .u32 off, v] w (Dies w) := by
  obtain ⟨i0, hi, hz0, hz1, hz2⟩ := info_parts infoU8
  by_cases h1 : off ≤ len
  · have hsl := run_slice_from (P := Tryz.prog) Tryz.underlying52 (by rw [hi]; simp [hz1]) b 0 len cap .u32 off off rfl h1
    have HG := Lib.hid (GetUOffsetT_dies (some ⟨b, sOff 0 off cap, none⟩) (len - off) (cap - off) w (by simp) (by omega))
    clear hm hlen h hcap hi hz0 hz1 hz2 h1
    go_enter Tryz.func30, Tryz.ntmps30
    go_wp2_with (first | (go_at_call 47; refine HG.out.mono ?_; rintro e w' ⟨⟨u, v, rfl⟩, n, rfl⟩))
    exact ⟨rfl, ⟨u, v, rfl⟩, n, rfl⟩
  · obtain ⟨u, x, n, hsl⟩ := run_slice_from_out (P := Tryz.prog) Tryz.underlying52 (some ⟨b, 0, none⟩) len cap .u32 off (.inr (by omega)) w
    clear hm hlen h hcap hi hz0 hz1 hz2 h1
    go_enter Tryz.func30, Tryz.ntmps30
    go_wp2_with fail
    exact ⟨rfl, ⟨u, x, rfl⟩, n, rfl⟩

set_option maxHeartbeats 2000000 in
theorem RootAs1_ok (S O X : Addr) (R off : Nat) (s : ByteArray) (x0 x1 : Value) (w : World) (hS : w.cell? S = some (.string s)) (hO : w.cell? O = some (.int .u32 off)) (hX : w.cell? X = some (.pointer (some ⟨R, 0, none⟩)))
    (bS : S.block < w.heap.size) (bO : O.block < w.heap.size) (bX : X.block < w.heap.size) (nS : S.block ≠ R) (nO : O.block ≠ R) (nX : X.block ≠ R) (hb : w.heap[R]? = some (.cells #[x0, x1] 82)) (hs : s.size ≤ 1000000000) (h : off + 4 ≤ s.size) :
    Calls Tryz.prog 29 #[.pointer (some S), .pointer (some O), .pointer (some X)] w fun e w' => e = .returned (.tuple #[]) ∧ 
      Fr (fun x => x = R) w w' ∧ w'.heap[R]? = some (.cells #[.slice (some ⟨w.heap.size, 0, none⟩) s.size s.size, .int .u32 (IntKind.u32.wrap ((le ((s.data.toList.drop off).take 4) : Nat) + off))] 82) := by
  have hR : R < w.heap.size := lt_of_block hb
  have hb2 : (w.alloc (.cells (cellsOf s.data.toList).toArray 5)).drew.heap[R]? = some (.cells #[x0, x1] 82) := (heap_alloc_old _ _ _ hR).trans hb
  have HG := Lib.hid (GetRootAs_ok R w.heap.size s.size s.size off s.data.toList x0 x1 (w.alloc (.cells (cellsOf s.data.toList).toArray 5)).drew hb2 (Mem.of_block (heap_alloc_new w _)) (by simp) (by omega) h)
  have hfr : ∀ u v, Fr (fun x => x = R) w (((w.alloc (.cells (cellsOf s.data.toList).toArray 5)).drew.setCell ⟨R, 0, none⟩ u).setCell ⟨R, 1, none⟩ v) := fun u v =>
    (Fr.setCell (S := fun x => x = R) (Fr.setCell (S := fun x => x = R) ((Fr.refl _ _).alloc _).drew (fun _ => rfl) u) (fun _ => rfl) v)
  have hfin : ∀ u v, (((w.alloc (.cells (cellsOf s.data.toList).toArray 5)).drew.setCell ⟨R, 0, none⟩ u).setCell ⟨R, 1, none⟩ v).heap[R]? = some (.cells #[u, v] 82) := fun u v => by
    rw [heap_setCell_same (heap_setCell_same hb2 0 u) 1 v]; rfl
  have hkeep : ∀ u v, ((((w.alloc (.cells (cellsOf s.data.toList).toArray 5)).setCell ⟨R, 0, none⟩ u).setCell ⟨R, 1, none⟩ v).drew.cell? S = some (.string s)) ∧ ((((w.alloc (.cells (cellsOf s.data.toList).toArray 5)).setCell ⟨R, 0, none⟩ u).setCell ⟨R, 1, none⟩ v).drew.cell? O = some (.int .u32 off)) ∧ ((((w.alloc (.cells (cellsOf s.data.toList).toArray 5)).setCell ⟨R, 0, none⟩ u).setCell ⟨R, 1, none⟩ v).drew.cell? X = some (.pointer (some ⟨R, 0, none⟩))) := fun u v =>
    ⟨(Fr.cell (hfr u v) bS nS).trans hS, (Fr.cell (hfr u v) bO nO).trans hO, (Fr.cell (hfr u v) bX nX).trans hX⟩
  have HK := Lib.hid hkeep; clear hkeep
  have HF1 := Lib.hid hfr
  have HF2 := Lib.hid hfin
  clear hfr hfin hb2 hb hR
  go_enter Tryz.func29, Tryz.ntmps29
  go_wp2_with fail
  go_region_held3 (fun w' => w'.cell? S = some (.string s) ∧ w'.cell? O = some (.int .u32 off) ∧ w'.cell? X = some (.pointer (some ⟨R, 0, none⟩))) (first | exact HK.out _ _ | go_keep)
    (first | (go_at_call 25; refine (slice_calls s _ hs).mono ?_; rintro e w' ⟨rfl, rfl⟩) | (go_at_call 30; refine HG.out.mono ?_; rintro e w' ⟨rfl, rfl⟩))
  go_end0
  exact ⟨rfl, HF1.out _ _, HF2.out _ _⟩

set_option maxHeartbeats 4000000 in
theorem RootAs1_dies (S O X : Addr) (R off : Nat) (s : ByteArray) (w : World) (hS : w.cell? S = some (.string s)) (hO : w.cell? O = some (.int .u32 off)) (hX : w.cell? X = some (.pointer (some ⟨R, 0, none⟩)))
    (bS : S.block < w.heap.size) (bO : O.block < w.heap.size) (bX : X.block < w.heap.size) (hs : s.size ≤ 1000000000) (h : s.size < off + 4) :
    Calls Tryz.prog 29 #[.pointer (some S), .pointer (some O), .pointer (some X)] w fun e w' => (∃ u pv, e = .panicked [{ v := .iface u pv, recovered := false }]) ∧ Fr0 w w' := by
  have HG := Lib.hid (GetRootAs_dies (.iface 80 (.pointer (some ⟨R, 0, none⟩))) w.heap.size s.size s.size off s.data.toList (w.alloc (.cells (cellsOf s.data.toList).toArray 5)).drew (Mem.of_block (heap_alloc_new w _)) (by simp) (by omega) h)
  have hfr : ∀ n, Fr0 w ((w.alloc (.cells (cellsOf s.data.toList).toArray 5)).drew.drewN n) := fun n => (((Fr.refl _ _).alloc _).drew).drewN n
  have HF := Lib.hid hfr; clear hfr
  clear h
  go_enter Tryz.func29, Tryz.ntmps29
  go_wp2_with fail
  have hS0 : (fun w' : World => w'.cell? S = some (.string s) ∧ w'.cell? O = some (.int .u32 off) ∧ w'.cell? X = some (.pointer (some ⟨R, 0, none⟩))) w.drew := ⟨hS, hO, hX⟩
  have hS1 : (fun w' : World => w'.cell? S = some (.string s) ∧ w'.cell? O = some (.int .u32 off) ∧ w'.cell? X = some (.pointer (some ⟨R, 0, none⟩))) (w.alloc (.cells (cellsOf s.data.toList).toArray 5)).drew :=
    ⟨(Fr.cell (Fr.alloc (Fr.refl (fun _ => False) w) _) bS (fun x => x)).trans hS, (Fr.cell (Fr.alloc (Fr.refl (fun _ => False) w) _) bO (fun x => x)).trans hO, (Fr.cell (Fr.alloc (Fr.refl (fun _ => False) w) _) bX (fun x => x)).trans hX⟩
  have HS1 := Lib.hid hS1; clear hS1
  refine wp_region_held_drew (S := fun w' => w'.cell? S = some (.string s) ∧ w'.cell? O = some (.int .u32 off) ∧ w'.cell? X = some (.pointer (some ⟨R, 0, none⟩))) (by kernel_rfl) hS0 (fun hHeld => ?_)
  refine wpAnyH_take (i := 0) (v := .string s) rfl (by kernel_rfl) (by kernel_rfl) (by kernel_rfl) (fun _ _ _ h => h) (Or.inl ⟨by rfl, ?_⟩) (by assumption) ?_
  · intro w hSw; go_simp
  simp only [Act.put, List.setIfInBounds_toArray, List.set_cons_zero, List.set_cons_succ]
  refine wpAnyH_take (i := 2) (v := .int .u32 off) rfl (by kernel_rfl) (by kernel_rfl) (by kernel_rfl) (fun _ _ _ h => h) (Or.inl ⟨by rfl, ?_⟩) (by assumption) ?_
  · intro w hSw; go_simp
  simp only [Act.put, List.setIfInBounds_toArray, List.set_cons_zero, List.set_cons_succ]
  refine wpAnyH_take (i := 3) (v := .pointer (some ⟨R, 0, none⟩)) rfl (by kernel_rfl) (by kernel_rfl) (by kernel_rfl) (fun _ _ _ h => h) (Or.inl ⟨by rfl, ?_⟩) (by assumption) ?_
  · intro w hSw; go_simp
  simp only [Act.put, List.setIfInBounds_toArray, List.set_cons_zero, List.set_cons_succ]
  refine wpAnyH_take (i := 4) (v := .iface 80 (.pointer (some ⟨R, 0, none⟩))) rfl (by kernel_rfl) (by kernel_rfl) (by kernel_rfl) (fun _ _ _ h => h) (Or.inl ⟨by rfl, ?_⟩) (by assumption) ?_
  · intro w hSw; go_simp
  simp only [Act.put, List.setIfInBounds_toArray, List.set_cons_zero, List.set_cons_succ]
  refine wpAnyH_ready (rs := [1]) (by kernel_rfl) (by simp) ?_
  refine AllReadyH.cons rfl (fun K hK => ?_) AllReadyH.nil
  go_simp
  refine (slice_calls s _ hs).mono ?_
  rintro e w' ⟨rfl, rfl⟩
  dsimp only
  refine hK.out _ _ HS1.out (fun hHeld => ?_)
  clear hK K
  refine wpAnyH_ready (rs := [5]) (by kernel_rfl) (by simp) ?_
  refine AllReadyH.cons rfl (fun K hK => ?_) AllReadyH.nil
  go_simp
  refine HG.out.mono ?_
  rintro e w' ⟨⟨u, v, rfl⟩, n, rfl⟩
  exact ⟨rfl, ⟨_, _, rfl⟩, HF.out n⟩
end Go.Proofs.YtjfgippolckaeaaGreat
