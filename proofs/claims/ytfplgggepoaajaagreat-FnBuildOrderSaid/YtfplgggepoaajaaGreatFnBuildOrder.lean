/- FnBuildOrder: what begins something panics within something that is begun, what ends something panics without it. -/
import Derived.Test.YtfplgggepoaajaaGreatPlain
namespace Go.Proofs.YtfplgggepoaajaaGreat
open Go.RowKit
set_option linter.unusedVariables false
set_option linter.unusedSimpArgs false

def odPre : Nat → List BS
  | 0 => []
  | 1 => [⟨0, 0, 2, 0, 0, 0, 0, 0, 0, 0, []⟩]
  | _ => [⟨10, 0, 0, 0, 0, 0, 0, 1, 1, 1, []⟩]
def odStep (op : Nat) : BS := ⟨op, 0, 0, 0, 0, 0, 0, 1, 0, 1, [97, 98, 99, 100]⟩
theorem od_sok (j op : Nat) (h : op ∈ [0, 10, 12, 13, 14, 15, 19, 20, 1, 11, 22]) : ∀ s ∈ odPre j ++ [odStep op], SOK s := by
  intro s hs
  rcases List.mem_append.1 hs with hs | hs
  · match j, hs with
    | 1, hs => obtain rfl := List.mem_singleton.1 hs; constructor <;> simp
    | (n + 2), hs => obtain rfl := List.mem_singleton.1 hs; constructor <;> simp [algn]
  · obtain rfl := List.mem_singleton.1 hs
    simp only [List.mem_cons, List.not_mem_nil, or_false] at h
    rcases h with rfl | rfl | rfl | rfl | rfl | rfl | rfl | rfl | rfl | rfl | rfl <;> constructor <;> simp [odStep, algn]
theorem infoSStep4 : (Tryz.prog.info? 28).map (fun i => (i.zero, i.size, i.bytes)) = some (some (.agg #[.int .u8 0, .int .u8 0, .int .i64 0, .int .u64 0, .int .u64 0, .int .u32 0, .int .i64 0, .int .i64 0, .int .i64 0, .int .i64 0, .string ⟨#[]⟩]), 11, 88) := by kernel_rfl
theorem od_one (l : List BS) : ∀ u ∈ l.flatMap bsC, u.oneCell' = true := by
  intro u hu
  obtain ⟨s, _, hs⟩ := List.mem_flatMap.1 hu
  exact bsC_one s u hs
theorem own_shape {w : World} {base : Nat} {e : TypeId} {z n : Nat} {v : Value} {xs : List Value} (h : w.ownsRow base e z v n xs) : ∃ a cap, v = .slice a n cap := by
  rcases h.2 with ⟨rfl, h0⟩ | ⟨g, cap, _, rfl, _⟩
  · exact ⟨none, 0, by rw [h0]⟩
  · exact ⟨_, cap, rfl⟩
theorem own_slice1 {w : World} {base : Nat} {e : TypeId} {z n : Nat} {v : Value} {xs : List Value} (h : w.ownsRow base e z v n xs) (hn : 0 < n) : ∃ g cap, v = .slice (some ⟨g, 0, none⟩) n cap ∧ base ≤ g ∧ g < w.heap.size := by
  rcases h.2 with ⟨_, h0⟩ | ⟨g, cap, cur, rfl, hb, hg, h1, h2, h3, h4⟩
  · omega
  · exact ⟨g, cap, rfl, hb, lt_of_block hg⟩
theorem own_base0 {w : World} {base : Nat} {e : TypeId} {z n : Nat} {v : Value} {xs : List Value} (h : w.ownsRow base e z v n xs) : w.ownsRow 0 e z v n xs := ⟨h.1, h.2.imp id (fun ⟨g, cap, cur, e1, _, e3⟩ => ⟨g, cap, cur, e1, Nat.zero_le _, e3⟩)⟩
def OdRes (well : Bool) (n : Nat) (w : World) (e : Ending) (w' : World) : Prop := ∃ a cap D, e = .returned (.tuple #[.slice a n cap, .string D, .bool well]) ∧ Fr0 w w'
theorem Run_od (j op n : Nat) (well : Bool) (hop : op ∈ [0, 10, 12, 13, 14, 15, 19, 20, 1, 11, 22]) (e1 : (mScript 0 (odPre j ++ [odStep op])).2.isSome = well) (e2 : (mScript 0 (odPre j ++ [odStep op])).1.length = n)
    (v : Value) (w : World) (hown : w.ownsRow 0 28 11 v ((odPre j).length + 1) ((odPre j).flatMap bsC ++ bsC (odStep op))) : Calls Tryz.prog 14 #[v] w (OdRes well n w) := by
  have hl : ((odPre j) ++ [odStep op]).length = (odPre j).length + 1 := by simp
  refine (buildRun_calls v (odPre j ++ [odStep op]) w (by rw [List.flatMap_append, hl]; simpa using hown) (by rw [hl]; unfold odPre; split <;> simp) (safe_all _ _ _ (od_sok j op hop))).mono ?_
  rintro e w' ⟨r, rfl, hown', hf⟩
  rw [e1]
  rw [e2] at hown'
  have : ∃ a cap, r = .slice a n cap := by
    rcases hown'.2 with ⟨rfl, h⟩ | ⟨g, cap, _, rfl, _⟩
    · exact ⟨none, 0, by rw [h]⟩
    · exact ⟨_, cap, rfl⟩
  obtain ⟨a, cap, rfl⟩ := this
  exact ⟨a, cap, _, rfl, hf⟩

set_option maxRecDepth 20000 in
set_option maxHeartbeats 2000000 in
theorem Order_0_0 (b s : Nat) (hb : b < 256) (hs : s < 256) (h3 : (b : Int) % 3 = 0) (h11 : (s : Int) % 11 = 0) (w : World) :
    Calls Tryz.prog 6 #[.int .u8 b, .int .u8 s] w fun e w' => e = .returned (.bool true) ∧ Below w.heap.size w w' := by
  obtain ⟨i0, hi, hz0, hz1, hz2⟩ := info_parts infoSStep4
  have HR := Lib.hid (fun v w h => Run_od 0 0 1 true (by simp) (by kernel_rfl) (by kernel_rfl) v w h)
  go_enter Tryz.func6, Tryz.ntmps6
  go_wp2_with (at_builtin; refine wpList_append_own _ rfl (.tmp 36) (.tmp 38) 25 rfl 0 28 i0 (.agg #[.int .u8 0, .int .u8 0, .int .i64 0, .int .u64 0, .int .u64 0, .int .u32 0, .int .i64 0, .int .i64 0, .int .i64 0, .int .i64 0, .string ⟨#[]⟩]) 11 88 Tryz.underlying25 hi hz0 hz1 hz2 rfl (by decide) _ _ _ rfl (World.ownsRow_nil _ _ _ _) ⟨w.heap.size + 2, 0, none⟩ 1 1 (bsC ⟨0, 0, 0, 0, 0, 0, 0, 1, 0, 1, [97, 98, 99, 100]⟩) rfl rfl (newCellsL _ _ _ _ (by first | rfl | simp)) (bsC_one _) (by unfold maxLen; omega) (by omega) (by first | (simp; done) | (simp; omega)) ?_; intro v1 w1 hown1 hgrow1 hnil1)
  have hf1 : Fr0 w w1 := ((((Fr.refl (fun _ => False) w).alloc _).alloc _).alloc _).trans2 (S := fun _ => False) (grown_fr hgrow1) (fun k hk e => by cases e)
  have HF1 := Lib.hid hf1
  clear hf1 hgrow1 hnil1
  refine (HR.out v1 w1 (own_base0 hown1)).mono ?_
  rintro e w2 ⟨a, cap, D, rfl, hf2⟩
  have HF2 := Lib.hid (HF1.out.trans hf2)
  clear hf2 HF1
  go_wp2_with fail
  refine (buildAwake_calls _).mono ?_
  rintro e w3 ⟨rfl, hf3⟩
  have HF3 := Lib.hid (HF2.out.trans hf3)
  clear hf3 HF2
  go_wp2_with fail
  go_ret
  exact ⟨rfl, Fr0.below HF3.out⟩

set_option maxRecDepth 20000 in
set_option maxHeartbeats 2000000 in
theorem Order_0_1 (b s : Nat) (hb : b < 256) (hs : s < 256) (h3 : (b : Int) % 3 = 0) (h11 : (s : Int) % 11 = 1) (w : World) :
    Calls Tryz.prog 6 #[.int .u8 b, .int .u8 s] w fun e w' => e = .returned (.bool true) ∧ Below w.heap.size w w' := by
  obtain ⟨i0, hi, hz0, hz1, hz2⟩ := info_parts infoSStep4
  have HR := Lib.hid (fun v w h => Run_od 0 10 1 true (by simp) (by kernel_rfl) (by kernel_rfl) v w h)
  go_enter Tryz.func6, Tryz.ntmps6
  go_wp2_with (at_builtin; refine wpList_append_own _ rfl (.tmp 36) (.tmp 38) 25 rfl 0 28 i0 (.agg #[.int .u8 0, .int .u8 0, .int .i64 0, .int .u64 0, .int .u64 0, .int .u32 0, .int .i64 0, .int .i64 0, .int .i64 0, .int .i64 0, .string ⟨#[]⟩]) 11 88 Tryz.underlying25 hi hz0 hz1 hz2 rfl (by decide) _ _ _ rfl (World.ownsRow_nil _ _ _ _) ⟨w.heap.size + 2, 0, none⟩ 1 1 (bsC ⟨10, 0, 0, 0, 0, 0, 0, 1, 0, 1, [97, 98, 99, 100]⟩) rfl rfl (newCellsL _ _ _ _ (by first | rfl | simp)) (bsC_one _) (by unfold maxLen; omega) (by omega) (by first | (simp; done) | (simp; omega)) ?_; intro v1 w1 hown1 hgrow1 hnil1)
  have hf1 : Fr0 w w1 := ((((Fr.refl (fun _ => False) w).alloc _).alloc _).alloc _).trans2 (S := fun _ => False) (grown_fr hgrow1) (fun k hk e => by cases e)
  have HF1 := Lib.hid hf1
  clear hf1 hgrow1 hnil1
  refine (HR.out v1 w1 (own_base0 hown1)).mono ?_
  rintro e w2 ⟨a, cap, D, rfl, hf2⟩
  have HF2 := Lib.hid (HF1.out.trans hf2)
  clear hf2 HF1
  go_wp2_with fail
  refine (buildAwake_calls _).mono ?_
  rintro e w3 ⟨rfl, hf3⟩
  have HF3 := Lib.hid (HF2.out.trans hf3)
  clear hf3 HF2
  go_wp2_with fail
  go_ret
  exact ⟨rfl, Fr0.below HF3.out⟩

set_option maxRecDepth 20000 in
set_option maxHeartbeats 2000000 in
theorem Order_0_2 (b s : Nat) (hb : b < 256) (hs : s < 256) (h3 : (b : Int) % 3 = 0) (h11 : (s : Int) % 11 = 2) (w : World) :
    Calls Tryz.prog 6 #[.int .u8 b, .int .u8 s] w fun e w' => e = .returned (.bool true) ∧ Below w.heap.size w w' := by
  obtain ⟨i0, hi, hz0, hz1, hz2⟩ := info_parts infoSStep4
  have HR := Lib.hid (fun v w h => Run_od 0 12 1 true (by simp) (by kernel_rfl) (by kernel_rfl) v w h)
  go_enter Tryz.func6, Tryz.ntmps6
  go_wp2_with (at_builtin; refine wpList_append_own _ rfl (.tmp 36) (.tmp 38) 25 rfl 0 28 i0 (.agg #[.int .u8 0, .int .u8 0, .int .i64 0, .int .u64 0, .int .u64 0, .int .u32 0, .int .i64 0, .int .i64 0, .int .i64 0, .int .i64 0, .string ⟨#[]⟩]) 11 88 Tryz.underlying25 hi hz0 hz1 hz2 rfl (by decide) _ _ _ rfl (World.ownsRow_nil _ _ _ _) ⟨w.heap.size + 2, 0, none⟩ 1 1 (bsC ⟨12, 0, 0, 0, 0, 0, 0, 1, 0, 1, [97, 98, 99, 100]⟩) rfl rfl (newCellsL _ _ _ _ (by first | rfl | simp)) (bsC_one _) (by unfold maxLen; omega) (by omega) (by first | (simp; done) | (simp; omega)) ?_; intro v1 w1 hown1 hgrow1 hnil1)
  have hf1 : Fr0 w w1 := ((((Fr.refl (fun _ => False) w).alloc _).alloc _).alloc _).trans2 (S := fun _ => False) (grown_fr hgrow1) (fun k hk e => by cases e)
  have HF1 := Lib.hid hf1
  clear hf1 hgrow1 hnil1
  refine (HR.out v1 w1 (own_base0 hown1)).mono ?_
  rintro e w2 ⟨a, cap, D, rfl, hf2⟩
  have HF2 := Lib.hid (HF1.out.trans hf2)
  clear hf2 HF1
  go_wp2_with fail
  refine (buildAwake_calls _).mono ?_
  rintro e w3 ⟨rfl, hf3⟩
  have HF3 := Lib.hid (HF2.out.trans hf3)
  clear hf3 HF2
  go_wp2_with fail
  go_ret
  exact ⟨rfl, Fr0.below HF3.out⟩

set_option maxRecDepth 20000 in
set_option maxHeartbeats 2000000 in
theorem Order_0_3 (b s : Nat) (hb : b < 256) (hs : s < 256) (h3 : (b : Int) % 3 = 0) (h11 : (s : Int) % 11 = 3) (w : World) :
    Calls Tryz.prog 6 #[.int .u8 b, .int .u8 s] w fun e w' => e = .returned (.bool true) ∧ Below w.heap.size w w' := by
  obtain ⟨i0, hi, hz0, hz1, hz2⟩ := info_parts infoSStep4
  have HR := Lib.hid (fun v w h => Run_od 0 13 1 true (by simp) (by kernel_rfl) (by kernel_rfl) v w h)
  go_enter Tryz.func6, Tryz.ntmps6
  go_wp2_with (at_builtin; refine wpList_append_own _ rfl (.tmp 36) (.tmp 38) 25 rfl 0 28 i0 (.agg #[.int .u8 0, .int .u8 0, .int .i64 0, .int .u64 0, .int .u64 0, .int .u32 0, .int .i64 0, .int .i64 0, .int .i64 0, .int .i64 0, .string ⟨#[]⟩]) 11 88 Tryz.underlying25 hi hz0 hz1 hz2 rfl (by decide) _ _ _ rfl (World.ownsRow_nil _ _ _ _) ⟨w.heap.size + 2, 0, none⟩ 1 1 (bsC ⟨13, 0, 0, 0, 0, 0, 0, 1, 0, 1, [97, 98, 99, 100]⟩) rfl rfl (newCellsL _ _ _ _ (by first | rfl | simp)) (bsC_one _) (by unfold maxLen; omega) (by omega) (by first | (simp; done) | (simp; omega)) ?_; intro v1 w1 hown1 hgrow1 hnil1)
  have hf1 : Fr0 w w1 := ((((Fr.refl (fun _ => False) w).alloc _).alloc _).alloc _).trans2 (S := fun _ => False) (grown_fr hgrow1) (fun k hk e => by cases e)
  have HF1 := Lib.hid hf1
  clear hf1 hgrow1 hnil1
  refine (HR.out v1 w1 (own_base0 hown1)).mono ?_
  rintro e w2 ⟨a, cap, D, rfl, hf2⟩
  have HF2 := Lib.hid (HF1.out.trans hf2)
  clear hf2 HF1
  go_wp2_with fail
  refine (buildAwake_calls _).mono ?_
  rintro e w3 ⟨rfl, hf3⟩
  have HF3 := Lib.hid (HF2.out.trans hf3)
  clear hf3 HF2
  go_wp2_with fail
  go_ret
  exact ⟨rfl, Fr0.below HF3.out⟩

set_option maxRecDepth 20000 in
set_option maxHeartbeats 2000000 in
theorem Order_0_4 (b s : Nat) (hb : b < 256) (hs : s < 256) (h3 : (b : Int) % 3 = 0) (h11 : (s : Int) % 11 = 4) (w : World) :
    Calls Tryz.prog 6 #[.int .u8 b, .int .u8 s] w fun e w' => e = .returned (.bool true) ∧ Below w.heap.size w w' := by
  obtain ⟨i0, hi, hz0, hz1, hz2⟩ := info_parts infoSStep4
  have HR := Lib.hid (fun v w h => Run_od 0 14 1 true (by simp) (by kernel_rfl) (by kernel_rfl) v w h)
  go_enter Tryz.func6, Tryz.ntmps6
  go_wp2_with (at_builtin; refine wpList_append_own _ rfl (.tmp 36) (.tmp 38) 25 rfl 0 28 i0 (.agg #[.int .u8 0, .int .u8 0, .int .i64 0, .int .u64 0, .int .u64 0, .int .u32 0, .int .i64 0, .int .i64 0, .int .i64 0, .int .i64 0, .string ⟨#[]⟩]) 11 88 Tryz.underlying25 hi hz0 hz1 hz2 rfl (by decide) _ _ _ rfl (World.ownsRow_nil _ _ _ _) ⟨w.heap.size + 2, 0, none⟩ 1 1 (bsC ⟨14, 0, 0, 0, 0, 0, 0, 1, 0, 1, [97, 98, 99, 100]⟩) rfl rfl (newCellsL _ _ _ _ (by first | rfl | simp)) (bsC_one _) (by unfold maxLen; omega) (by omega) (by first | (simp; done) | (simp; omega)) ?_; intro v1 w1 hown1 hgrow1 hnil1)
  have hf1 : Fr0 w w1 := ((((Fr.refl (fun _ => False) w).alloc _).alloc _).alloc _).trans2 (S := fun _ => False) (grown_fr hgrow1) (fun k hk e => by cases e)
  have HF1 := Lib.hid hf1
  clear hf1 hgrow1 hnil1
  refine (HR.out v1 w1 (own_base0 hown1)).mono ?_
  rintro e w2 ⟨a, cap, D, rfl, hf2⟩
  have HF2 := Lib.hid (HF1.out.trans hf2)
  clear hf2 HF1
  go_wp2_with fail
  refine (buildAwake_calls _).mono ?_
  rintro e w3 ⟨rfl, hf3⟩
  have HF3 := Lib.hid (HF2.out.trans hf3)
  clear hf3 HF2
  go_wp2_with fail
  go_ret
  exact ⟨rfl, Fr0.below HF3.out⟩

set_option maxRecDepth 20000 in
set_option maxHeartbeats 2000000 in
theorem Order_0_5 (b s : Nat) (hb : b < 256) (hs : s < 256) (h3 : (b : Int) % 3 = 0) (h11 : (s : Int) % 11 = 5) (w : World) :
    Calls Tryz.prog 6 #[.int .u8 b, .int .u8 s] w fun e w' => e = .returned (.bool true) ∧ Below w.heap.size w w' := by
  obtain ⟨i0, hi, hz0, hz1, hz2⟩ := info_parts infoSStep4
  have HR := Lib.hid (fun v w h => Run_od 0 15 1 true (by simp) (by kernel_rfl) (by kernel_rfl) v w h)
  go_enter Tryz.func6, Tryz.ntmps6
  go_wp2_with (at_builtin; refine wpList_append_own _ rfl (.tmp 36) (.tmp 38) 25 rfl 0 28 i0 (.agg #[.int .u8 0, .int .u8 0, .int .i64 0, .int .u64 0, .int .u64 0, .int .u32 0, .int .i64 0, .int .i64 0, .int .i64 0, .int .i64 0, .string ⟨#[]⟩]) 11 88 Tryz.underlying25 hi hz0 hz1 hz2 rfl (by decide) _ _ _ rfl (World.ownsRow_nil _ _ _ _) ⟨w.heap.size + 2, 0, none⟩ 1 1 (bsC ⟨15, 0, 0, 0, 0, 0, 0, 1, 0, 1, [97, 98, 99, 100]⟩) rfl rfl (newCellsL _ _ _ _ (by first | rfl | simp)) (bsC_one _) (by unfold maxLen; omega) (by omega) (by first | (simp; done) | (simp; omega)) ?_; intro v1 w1 hown1 hgrow1 hnil1)
  have hf1 : Fr0 w w1 := ((((Fr.refl (fun _ => False) w).alloc _).alloc _).alloc _).trans2 (S := fun _ => False) (grown_fr hgrow1) (fun k hk e => by cases e)
  have HF1 := Lib.hid hf1
  clear hf1 hgrow1 hnil1
  refine (HR.out v1 w1 (own_base0 hown1)).mono ?_
  rintro e w2 ⟨a, cap, D, rfl, hf2⟩
  have HF2 := Lib.hid (HF1.out.trans hf2)
  clear hf2 HF1
  go_wp2_with fail
  refine (buildAwake_calls _).mono ?_
  rintro e w3 ⟨rfl, hf3⟩
  have HF3 := Lib.hid (HF2.out.trans hf3)
  clear hf3 HF2
  go_wp2_with fail
  go_ret
  exact ⟨rfl, Fr0.below HF3.out⟩

set_option maxRecDepth 20000 in
set_option maxHeartbeats 2000000 in
theorem Order_0_6 (b s : Nat) (hb : b < 256) (hs : s < 256) (h3 : (b : Int) % 3 = 0) (h11 : (s : Int) % 11 = 6) (w : World) :
    Calls Tryz.prog 6 #[.int .u8 b, .int .u8 s] w fun e w' => e = .returned (.bool true) ∧ Below w.heap.size w w' := by
  obtain ⟨i0, hi, hz0, hz1, hz2⟩ := info_parts infoSStep4
  have HR := Lib.hid (fun v w h => Run_od 0 19 1 true (by simp) (by kernel_rfl) (by kernel_rfl) v w h)
  go_enter Tryz.func6, Tryz.ntmps6
  go_wp2_with (at_builtin; refine wpList_append_own _ rfl (.tmp 36) (.tmp 38) 25 rfl 0 28 i0 (.agg #[.int .u8 0, .int .u8 0, .int .i64 0, .int .u64 0, .int .u64 0, .int .u32 0, .int .i64 0, .int .i64 0, .int .i64 0, .int .i64 0, .string ⟨#[]⟩]) 11 88 Tryz.underlying25 hi hz0 hz1 hz2 rfl (by decide) _ _ _ rfl (World.ownsRow_nil _ _ _ _) ⟨w.heap.size + 2, 0, none⟩ 1 1 (bsC ⟨19, 0, 0, 0, 0, 0, 0, 1, 0, 1, [97, 98, 99, 100]⟩) rfl rfl (newCellsL _ _ _ _ (by first | rfl | simp)) (bsC_one _) (by unfold maxLen; omega) (by omega) (by first | (simp; done) | (simp; omega)) ?_; intro v1 w1 hown1 hgrow1 hnil1)
  have hf1 : Fr0 w w1 := ((((Fr.refl (fun _ => False) w).alloc _).alloc _).alloc _).trans2 (S := fun _ => False) (grown_fr hgrow1) (fun k hk e => by cases e)
  have HF1 := Lib.hid hf1
  clear hf1 hgrow1 hnil1
  refine (HR.out v1 w1 (own_base0 hown1)).mono ?_
  rintro e w2 ⟨a, cap, D, rfl, hf2⟩
  have HF2 := Lib.hid (HF1.out.trans hf2)
  clear hf2 HF1
  go_wp2_with fail
  refine (buildAwake_calls _).mono ?_
  rintro e w3 ⟨rfl, hf3⟩
  have HF3 := Lib.hid (HF2.out.trans hf3)
  clear hf3 HF2
  go_wp2_with fail
  go_ret
  exact ⟨rfl, Fr0.below HF3.out⟩

set_option maxRecDepth 20000 in
set_option maxHeartbeats 2000000 in
theorem Order_0_7 (b s : Nat) (hb : b < 256) (hs : s < 256) (h3 : (b : Int) % 3 = 0) (h11 : (s : Int) % 11 = 7) (w : World) :
    Calls Tryz.prog 6 #[.int .u8 b, .int .u8 s] w fun e w' => e = .returned (.bool true) ∧ Below w.heap.size w w' := by
  obtain ⟨i0, hi, hz0, hz1, hz2⟩ := info_parts infoSStep4
  have HR := Lib.hid (fun v w h => Run_od 0 20 1 true (by simp) (by kernel_rfl) (by kernel_rfl) v w h)
  go_enter Tryz.func6, Tryz.ntmps6
  go_wp2_with (at_builtin; refine wpList_append_own _ rfl (.tmp 36) (.tmp 38) 25 rfl 0 28 i0 (.agg #[.int .u8 0, .int .u8 0, .int .i64 0, .int .u64 0, .int .u64 0, .int .u32 0, .int .i64 0, .int .i64 0, .int .i64 0, .int .i64 0, .string ⟨#[]⟩]) 11 88 Tryz.underlying25 hi hz0 hz1 hz2 rfl (by decide) _ _ _ rfl (World.ownsRow_nil _ _ _ _) ⟨w.heap.size + 2, 0, none⟩ 1 1 (bsC ⟨20, 0, 0, 0, 0, 0, 0, 1, 0, 1, [97, 98, 99, 100]⟩) rfl rfl (newCellsL _ _ _ _ (by first | rfl | simp)) (bsC_one _) (by unfold maxLen; omega) (by omega) (by first | (simp; done) | (simp; omega)) ?_; intro v1 w1 hown1 hgrow1 hnil1)
  have hf1 : Fr0 w w1 := ((((Fr.refl (fun _ => False) w).alloc _).alloc _).alloc _).trans2 (S := fun _ => False) (grown_fr hgrow1) (fun k hk e => by cases e)
  have HF1 := Lib.hid hf1
  clear hf1 hgrow1 hnil1
  refine (HR.out v1 w1 (own_base0 hown1)).mono ?_
  rintro e w2 ⟨a, cap, D, rfl, hf2⟩
  have HF2 := Lib.hid (HF1.out.trans hf2)
  clear hf2 HF1
  go_wp2_with fail
  refine (buildAwake_calls _).mono ?_
  rintro e w3 ⟨rfl, hf3⟩
  have HF3 := Lib.hid (HF2.out.trans hf3)
  clear hf3 HF2
  go_wp2_with fail
  go_ret
  exact ⟨rfl, Fr0.below HF3.out⟩

set_option maxRecDepth 20000 in
set_option maxHeartbeats 2000000 in
theorem Order_0_8 (b s : Nat) (hb : b < 256) (hs : s < 256) (h3 : (b : Int) % 3 = 0) (h11 : (s : Int) % 11 = 8) (w : World) :
    Calls Tryz.prog 6 #[.int .u8 b, .int .u8 s] w fun e w' => e = .returned (.bool true) ∧ Below w.heap.size w w' := by
  obtain ⟨i0, hi, hz0, hz1, hz2⟩ := info_parts infoSStep4
  have HR := Lib.hid (fun v w h => Run_od 0 1 1 false (by simp) (by kernel_rfl) (by kernel_rfl) v w h)
  go_enter Tryz.func6, Tryz.ntmps6
  go_wp2_with (at_builtin; refine wpList_append_own _ rfl (.tmp 36) (.tmp 38) 25 rfl 0 28 i0 (.agg #[.int .u8 0, .int .u8 0, .int .i64 0, .int .u64 0, .int .u64 0, .int .u32 0, .int .i64 0, .int .i64 0, .int .i64 0, .int .i64 0, .string ⟨#[]⟩]) 11 88 Tryz.underlying25 hi hz0 hz1 hz2 rfl (by decide) _ _ _ rfl (World.ownsRow_nil _ _ _ _) ⟨w.heap.size + 2, 0, none⟩ 1 1 (bsC ⟨1, 0, 0, 0, 0, 0, 0, 1, 0, 1, [97, 98, 99, 100]⟩) rfl rfl (newCellsL _ _ _ _ (by first | rfl | simp)) (bsC_one _) (by unfold maxLen; omega) (by omega) (by first | (simp; done) | (simp; omega)) ?_; intro v1 w1 hown1 hgrow1 hnil1)
  have hf1 : Fr0 w w1 := ((((Fr.refl (fun _ => False) w).alloc _).alloc _).alloc _).trans2 (S := fun _ => False) (grown_fr hgrow1) (fun k hk e => by cases e)
  have HF1 := Lib.hid hf1
  clear hf1 hgrow1 hnil1
  refine (HR.out v1 w1 (own_base0 hown1)).mono ?_
  rintro e w2 ⟨a, cap, D, rfl, hf2⟩
  have HF2 := Lib.hid (HF1.out.trans hf2)
  clear hf2 HF1
  go_wp2_with fail
  refine (buildAwake_calls _).mono ?_
  rintro e w3 ⟨rfl, hf3⟩
  have HF3 := Lib.hid (HF2.out.trans hf3)
  clear hf3 HF2
  go_wp2_with fail
  go_ret
  exact ⟨rfl, Fr0.below HF3.out⟩

set_option maxRecDepth 20000 in
set_option maxHeartbeats 2000000 in
theorem Order_0_9 (b s : Nat) (hb : b < 256) (hs : s < 256) (h3 : (b : Int) % 3 = 0) (h11 : (s : Int) % 11 = 9) (w : World) :
    Calls Tryz.prog 6 #[.int .u8 b, .int .u8 s] w fun e w' => e = .returned (.bool true) ∧ Below w.heap.size w w' := by
  obtain ⟨i0, hi, hz0, hz1, hz2⟩ := info_parts infoSStep4
  have HR := Lib.hid (fun v w h => Run_od 0 11 1 false (by simp) (by kernel_rfl) (by kernel_rfl) v w h)
  go_enter Tryz.func6, Tryz.ntmps6
  go_wp2_with (at_builtin; refine wpList_append_own _ rfl (.tmp 36) (.tmp 38) 25 rfl 0 28 i0 (.agg #[.int .u8 0, .int .u8 0, .int .i64 0, .int .u64 0, .int .u64 0, .int .u32 0, .int .i64 0, .int .i64 0, .int .i64 0, .int .i64 0, .string ⟨#[]⟩]) 11 88 Tryz.underlying25 hi hz0 hz1 hz2 rfl (by decide) _ _ _ rfl (World.ownsRow_nil _ _ _ _) ⟨w.heap.size + 2, 0, none⟩ 1 1 (bsC ⟨11, 0, 0, 0, 0, 0, 0, 1, 0, 1, [97, 98, 99, 100]⟩) rfl rfl (newCellsL _ _ _ _ (by first | rfl | simp)) (bsC_one _) (by unfold maxLen; omega) (by omega) (by first | (simp; done) | (simp; omega)) ?_; intro v1 w1 hown1 hgrow1 hnil1)
  have hf1 : Fr0 w w1 := ((((Fr.refl (fun _ => False) w).alloc _).alloc _).alloc _).trans2 (S := fun _ => False) (grown_fr hgrow1) (fun k hk e => by cases e)
  have HF1 := Lib.hid hf1
  clear hf1 hgrow1 hnil1
  refine (HR.out v1 w1 (own_base0 hown1)).mono ?_
  rintro e w2 ⟨a, cap, D, rfl, hf2⟩
  have HF2 := Lib.hid (HF1.out.trans hf2)
  clear hf2 HF1
  go_wp2_with fail
  refine (buildAwake_calls _).mono ?_
  rintro e w3 ⟨rfl, hf3⟩
  have HF3 := Lib.hid (HF2.out.trans hf3)
  clear hf3 HF2
  go_wp2_with fail
  go_ret
  exact ⟨rfl, Fr0.below HF3.out⟩

set_option maxRecDepth 20000 in
set_option maxHeartbeats 2000000 in
theorem Order_0_10 (b s : Nat) (hb : b < 256) (hs : s < 256) (h3 : (b : Int) % 3 = 0) (h11 : (s : Int) % 11 = 10) (w : World) :
    Calls Tryz.prog 6 #[.int .u8 b, .int .u8 s] w fun e w' => e = .returned (.bool true) ∧ Below w.heap.size w w' := by
  obtain ⟨i0, hi, hz0, hz1, hz2⟩ := info_parts infoSStep4
  have HR := Lib.hid (fun v w h => Run_od 0 22 1 false (by simp) (by kernel_rfl) (by kernel_rfl) v w h)
  go_enter Tryz.func6, Tryz.ntmps6
  go_wp2_with (at_builtin; refine wpList_append_own _ rfl (.tmp 36) (.tmp 38) 25 rfl 0 28 i0 (.agg #[.int .u8 0, .int .u8 0, .int .i64 0, .int .u64 0, .int .u64 0, .int .u32 0, .int .i64 0, .int .i64 0, .int .i64 0, .int .i64 0, .string ⟨#[]⟩]) 11 88 Tryz.underlying25 hi hz0 hz1 hz2 rfl (by decide) _ _ _ rfl (World.ownsRow_nil _ _ _ _) ⟨w.heap.size + 2, 0, none⟩ 1 1 (bsC ⟨22, 0, 0, 0, 0, 0, 0, 1, 0, 1, [97, 98, 99, 100]⟩) rfl rfl (newCellsL _ _ _ _ (by first | rfl | simp)) (bsC_one _) (by unfold maxLen; omega) (by omega) (by first | (simp; done) | (simp; omega)) ?_; intro v1 w1 hown1 hgrow1 hnil1)
  have hf1 : Fr0 w w1 := ((((Fr.refl (fun _ => False) w).alloc _).alloc _).alloc _).trans2 (S := fun _ => False) (grown_fr hgrow1) (fun k hk e => by cases e)
  have HF1 := Lib.hid hf1
  clear hf1 hgrow1 hnil1
  refine (HR.out v1 w1 (own_base0 hown1)).mono ?_
  rintro e w2 ⟨a, cap, D, rfl, hf2⟩
  have HF2 := Lib.hid (HF1.out.trans hf2)
  clear hf2 HF1
  go_wp2_with fail
  refine (buildAwake_calls _).mono ?_
  rintro e w3 ⟨rfl, hf3⟩
  have HF3 := Lib.hid (HF2.out.trans hf3)
  clear hf3 HF2
  go_wp2_with fail
  go_ret
  exact ⟨rfl, Fr0.below HF3.out⟩

set_option maxRecDepth 20000 in
set_option maxHeartbeats 2000000 in
theorem Order_1_0 (b s : Nat) (hb : b < 256) (hs : s < 256) (h3 : (b : Int) % 3 = 1) (h11 : (s : Int) % 11 = 0) (w : World) :
    Calls Tryz.prog 6 #[.int .u8 b, .int .u8 s] w fun e w' => e = .returned (.bool true) ∧ Below w.heap.size w w' := by
  obtain ⟨i0, hi, hz0, hz1, hz2⟩ := info_parts infoSStep4
  have HR := Lib.hid (fun v w h => Run_od 1 0 2 false (by simp) (by kernel_rfl) (by kernel_rfl) v w h)
  go_enter Tryz.func6, Tryz.ntmps6
  go_wp2_with (first | (at_builtin; refine wpList_append_own _ rfl (.tmp 17) (.tmp 19) 25 rfl w.heap.size 28 i0 (.agg #[.int .u8 0, .int .u8 0, .int .i64 0, .int .u64 0, .int .u64 0, .int .u32 0, .int .i64 0, .int .i64 0, .int .i64 0, .int .i64 0, .string ⟨#[]⟩]) 11 88 Tryz.underlying25 hi hz0 hz1 hz2 rfl (by decide) _ _ _ rfl (World.ownsRow_nil _ _ _ _) ⟨w.heap.size, 0, none⟩ 1 1 (bsC ⟨0, 0, 2, 0, 0, 0, 0, 0, 0, 0, []⟩) rfl rfl (newCellsL _ _ _ _ (by first | rfl | simp)) (bsC_one _) (by unfold maxLen; omega) (by omega) (by first | (simp; done) | (simp; omega)) ?_; intro v0 w0 hown0 hgrow0 hnil0; obtain ⟨g0, c0, rfl, hg0, hg1⟩ := own_slice1 hown0 (by omega); have HB0 := Lib.hid (own_block_lt hown0); have hs0 := (grown_fr hgrow0).size; have HGR0 := Lib.hid hgrow0; have HO0 := Lib.hid hown0; rw [size_alloc] at hs0; clear hgrow0 hown0 hnil0) | (at_builtin; refine wpList_append_own _ rfl (.tmp 36) (.tmp 38) 25 rfl w.heap.size 28 i0 (.agg #[.int .u8 0, .int .u8 0, .int .i64 0, .int .u64 0, .int .u64 0, .int .u32 0, .int .i64 0, .int .i64 0, .int .i64 0, .int .i64 0, .string ⟨#[]⟩]) 11 88 Tryz.underlying25 hi hz0 hz1 hz2 rfl (by decide) _ _ _ rfl (((HO0.out.alloc _).alloc _).alloc _) ⟨w0.heap.size + 2, 0, none⟩ 1 1 (bsC ⟨0, 0, 0, 0, 0, 0, 0, 1, 0, 1, [97, 98, 99, 100]⟩) rfl rfl (newCellsL _ _ _ _ (by first | rfl | simp)) (bsC_one _) (by unfold maxLen; omega) (by omega) (by first | (simp; done) | (simp; omega)) ?_; intro v1 w1 hown1 hgrow1 hnil1))
  have hf0 : Fr0 w w0 := ((Fr.refl (fun _ => False) w).alloc _).trans2 (S := fun _ => False) (grown_fr HGR0.out) (fun k hk e => by cases e)
  have hf1 : Fr0 w w1 := (((hf0.alloc _).alloc _).alloc _).trans2 (S := fun _ => False) (grown_fr hgrow1) (fun k hk e => by have := (HB0.out k e.symm).1; omega)
  have HF1 := Lib.hid hf1
  clear hf1 hgrow1 hnil1
  refine (HR.out v1 w1 (own_base0 hown1)).mono ?_
  rintro e w2 ⟨a, cap, D, rfl, hf2⟩
  have HF2 := Lib.hid (HF1.out.trans hf2)
  clear hf2 HF1
  go_wp2_with fail
  refine (buildAwake_calls _).mono ?_
  rintro e w3 ⟨rfl, hf3⟩
  have HF3 := Lib.hid (HF2.out.trans hf3)
  clear hf3 HF2
  go_wp2_with fail
  go_ret
  exact ⟨rfl, Fr0.below HF3.out⟩

set_option maxRecDepth 20000 in
set_option maxHeartbeats 2000000 in
theorem Order_1_1 (b s : Nat) (hb : b < 256) (hs : s < 256) (h3 : (b : Int) % 3 = 1) (h11 : (s : Int) % 11 = 1) (w : World) :
    Calls Tryz.prog 6 #[.int .u8 b, .int .u8 s] w fun e w' => e = .returned (.bool true) ∧ Below w.heap.size w w' := by
  obtain ⟨i0, hi, hz0, hz1, hz2⟩ := info_parts infoSStep4
  have HR := Lib.hid (fun v w h => Run_od 1 10 2 false (by simp) (by kernel_rfl) (by kernel_rfl) v w h)
  go_enter Tryz.func6, Tryz.ntmps6
  go_wp2_with (first | (at_builtin; refine wpList_append_own _ rfl (.tmp 17) (.tmp 19) 25 rfl w.heap.size 28 i0 (.agg #[.int .u8 0, .int .u8 0, .int .i64 0, .int .u64 0, .int .u64 0, .int .u32 0, .int .i64 0, .int .i64 0, .int .i64 0, .int .i64 0, .string ⟨#[]⟩]) 11 88 Tryz.underlying25 hi hz0 hz1 hz2 rfl (by decide) _ _ _ rfl (World.ownsRow_nil _ _ _ _) ⟨w.heap.size, 0, none⟩ 1 1 (bsC ⟨0, 0, 2, 0, 0, 0, 0, 0, 0, 0, []⟩) rfl rfl (newCellsL _ _ _ _ (by first | rfl | simp)) (bsC_one _) (by unfold maxLen; omega) (by omega) (by first | (simp; done) | (simp; omega)) ?_; intro v0 w0 hown0 hgrow0 hnil0; obtain ⟨g0, c0, rfl, hg0, hg1⟩ := own_slice1 hown0 (by omega); have HB0 := Lib.hid (own_block_lt hown0); have hs0 := (grown_fr hgrow0).size; have HGR0 := Lib.hid hgrow0; have HO0 := Lib.hid hown0; rw [size_alloc] at hs0; clear hgrow0 hown0 hnil0) | (at_builtin; refine wpList_append_own _ rfl (.tmp 36) (.tmp 38) 25 rfl w.heap.size 28 i0 (.agg #[.int .u8 0, .int .u8 0, .int .i64 0, .int .u64 0, .int .u64 0, .int .u32 0, .int .i64 0, .int .i64 0, .int .i64 0, .int .i64 0, .string ⟨#[]⟩]) 11 88 Tryz.underlying25 hi hz0 hz1 hz2 rfl (by decide) _ _ _ rfl (((HO0.out.alloc _).alloc _).alloc _) ⟨w0.heap.size + 2, 0, none⟩ 1 1 (bsC ⟨10, 0, 0, 0, 0, 0, 0, 1, 0, 1, [97, 98, 99, 100]⟩) rfl rfl (newCellsL _ _ _ _ (by first | rfl | simp)) (bsC_one _) (by unfold maxLen; omega) (by omega) (by first | (simp; done) | (simp; omega)) ?_; intro v1 w1 hown1 hgrow1 hnil1))
  have hf0 : Fr0 w w0 := ((Fr.refl (fun _ => False) w).alloc _).trans2 (S := fun _ => False) (grown_fr HGR0.out) (fun k hk e => by cases e)
  have hf1 : Fr0 w w1 := (((hf0.alloc _).alloc _).alloc _).trans2 (S := fun _ => False) (grown_fr hgrow1) (fun k hk e => by have := (HB0.out k e.symm).1; omega)
  have HF1 := Lib.hid hf1
  clear hf1 hgrow1 hnil1
  refine (HR.out v1 w1 (own_base0 hown1)).mono ?_
  rintro e w2 ⟨a, cap, D, rfl, hf2⟩
  have HF2 := Lib.hid (HF1.out.trans hf2)
  clear hf2 HF1
  go_wp2_with fail
  refine (buildAwake_calls _).mono ?_
  rintro e w3 ⟨rfl, hf3⟩
  have HF3 := Lib.hid (HF2.out.trans hf3)
  clear hf3 HF2
  go_wp2_with fail
  go_ret
  exact ⟨rfl, Fr0.below HF3.out⟩

set_option maxRecDepth 20000 in
set_option maxHeartbeats 2000000 in
theorem Order_1_2 (b s : Nat) (hb : b < 256) (hs : s < 256) (h3 : (b : Int) % 3 = 1) (h11 : (s : Int) % 11 = 2) (w : World) :
    Calls Tryz.prog 6 #[.int .u8 b, .int .u8 s] w fun e w' => e = .returned (.bool true) ∧ Below w.heap.size w w' := by
  obtain ⟨i0, hi, hz0, hz1, hz2⟩ := info_parts infoSStep4
  have HR := Lib.hid (fun v w h => Run_od 1 12 2 false (by simp) (by kernel_rfl) (by kernel_rfl) v w h)
  go_enter Tryz.func6, Tryz.ntmps6
  go_wp2_with (first | (at_builtin; refine wpList_append_own _ rfl (.tmp 17) (.tmp 19) 25 rfl w.heap.size 28 i0 (.agg #[.int .u8 0, .int .u8 0, .int .i64 0, .int .u64 0, .int .u64 0, .int .u32 0, .int .i64 0, .int .i64 0, .int .i64 0, .int .i64 0, .string ⟨#[]⟩]) 11 88 Tryz.underlying25 hi hz0 hz1 hz2 rfl (by decide) _ _ _ rfl (World.ownsRow_nil _ _ _ _) ⟨w.heap.size, 0, none⟩ 1 1 (bsC ⟨0, 0, 2, 0, 0, 0, 0, 0, 0, 0, []⟩) rfl rfl (newCellsL _ _ _ _ (by first | rfl | simp)) (bsC_one _) (by unfold maxLen; omega) (by omega) (by first | (simp; done) | (simp; omega)) ?_; intro v0 w0 hown0 hgrow0 hnil0; obtain ⟨g0, c0, rfl, hg0, hg1⟩ := own_slice1 hown0 (by omega); have HB0 := Lib.hid (own_block_lt hown0); have hs0 := (grown_fr hgrow0).size; have HGR0 := Lib.hid hgrow0; have HO0 := Lib.hid hown0; rw [size_alloc] at hs0; clear hgrow0 hown0 hnil0) | (at_builtin; refine wpList_append_own _ rfl (.tmp 36) (.tmp 38) 25 rfl w.heap.size 28 i0 (.agg #[.int .u8 0, .int .u8 0, .int .i64 0, .int .u64 0, .int .u64 0, .int .u32 0, .int .i64 0, .int .i64 0, .int .i64 0, .int .i64 0, .string ⟨#[]⟩]) 11 88 Tryz.underlying25 hi hz0 hz1 hz2 rfl (by decide) _ _ _ rfl (((HO0.out.alloc _).alloc _).alloc _) ⟨w0.heap.size + 2, 0, none⟩ 1 1 (bsC ⟨12, 0, 0, 0, 0, 0, 0, 1, 0, 1, [97, 98, 99, 100]⟩) rfl rfl (newCellsL _ _ _ _ (by first | rfl | simp)) (bsC_one _) (by unfold maxLen; omega) (by omega) (by first | (simp; done) | (simp; omega)) ?_; intro v1 w1 hown1 hgrow1 hnil1))
  have hf0 : Fr0 w w0 := ((Fr.refl (fun _ => False) w).alloc _).trans2 (S := fun _ => False) (grown_fr HGR0.out) (fun k hk e => by cases e)
  have hf1 : Fr0 w w1 := (((hf0.alloc _).alloc _).alloc _).trans2 (S := fun _ => False) (grown_fr hgrow1) (fun k hk e => by have := (HB0.out k e.symm).1; omega)
  have HF1 := Lib.hid hf1
  clear hf1 hgrow1 hnil1
  refine (HR.out v1 w1 (own_base0 hown1)).mono ?_
  rintro e w2 ⟨a, cap, D, rfl, hf2⟩
  have HF2 := Lib.hid (HF1.out.trans hf2)
  clear hf2 HF1
  go_wp2_with fail
  refine (buildAwake_calls _).mono ?_
  rintro e w3 ⟨rfl, hf3⟩
  have HF3 := Lib.hid (HF2.out.trans hf3)
  clear hf3 HF2
  go_wp2_with fail
  go_ret
  exact ⟨rfl, Fr0.below HF3.out⟩

set_option maxRecDepth 20000 in
set_option maxHeartbeats 2000000 in
theorem Order_1_3 (b s : Nat) (hb : b < 256) (hs : s < 256) (h3 : (b : Int) % 3 = 1) (h11 : (s : Int) % 11 = 3) (w : World) :
    Calls Tryz.prog 6 #[.int .u8 b, .int .u8 s] w fun e w' => e = .returned (.bool true) ∧ Below w.heap.size w w' := by
  obtain ⟨i0, hi, hz0, hz1, hz2⟩ := info_parts infoSStep4
  have HR := Lib.hid (fun v w h => Run_od 1 13 2 false (by simp) (by kernel_rfl) (by kernel_rfl) v w h)
  go_enter Tryz.func6, Tryz.ntmps6
  go_wp2_with (first | (at_builtin; refine wpList_append_own _ rfl (.tmp 17) (.tmp 19) 25 rfl w.heap.size 28 i0 (.agg #[.int .u8 0, .int .u8 0, .int .i64 0, .int .u64 0, .int .u64 0, .int .u32 0, .int .i64 0, .int .i64 0, .int .i64 0, .int .i64 0, .string ⟨#[]⟩]) 11 88 Tryz.underlying25 hi hz0 hz1 hz2 rfl (by decide) _ _ _ rfl (World.ownsRow_nil _ _ _ _) ⟨w.heap.size, 0, none⟩ 1 1 (bsC ⟨0, 0, 2, 0, 0, 0, 0, 0, 0, 0, []⟩) rfl rfl (newCellsL _ _ _ _ (by first | rfl | simp)) (bsC_one _) (by unfold maxLen; omega) (by omega) (by first | (simp; done) | (simp; omega)) ?_; intro v0 w0 hown0 hgrow0 hnil0; obtain ⟨g0, c0, rfl, hg0, hg1⟩ := own_slice1 hown0 (by omega); have HB0 := Lib.hid (own_block_lt hown0); have hs0 := (grown_fr hgrow0).size; have HGR0 := Lib.hid hgrow0; have HO0 := Lib.hid hown0; rw [size_alloc] at hs0; clear hgrow0 hown0 hnil0) | (at_builtin; refine wpList_append_own _ rfl (.tmp 36) (.tmp 38) 25 rfl w.heap.size 28 i0 (.agg #[.int .u8 0, .int .u8 0, .int .i64 0, .int .u64 0, .int .u64 0, .int .u32 0, .int .i64 0, .int .i64 0, .int .i64 0, .int .i64 0, .string ⟨#[]⟩]) 11 88 Tryz.underlying25 hi hz0 hz1 hz2 rfl (by decide) _ _ _ rfl (((HO0.out.alloc _).alloc _).alloc _) ⟨w0.heap.size + 2, 0, none⟩ 1 1 (bsC ⟨13, 0, 0, 0, 0, 0, 0, 1, 0, 1, [97, 98, 99, 100]⟩) rfl rfl (newCellsL _ _ _ _ (by first | rfl | simp)) (bsC_one _) (by unfold maxLen; omega) (by omega) (by first | (simp; done) | (simp; omega)) ?_; intro v1 w1 hown1 hgrow1 hnil1))
  have hf0 : Fr0 w w0 := ((Fr.refl (fun _ => False) w).alloc _).trans2 (S := fun _ => False) (grown_fr HGR0.out) (fun k hk e => by cases e)
  have hf1 : Fr0 w w1 := (((hf0.alloc _).alloc _).alloc _).trans2 (S := fun _ => False) (grown_fr hgrow1) (fun k hk e => by have := (HB0.out k e.symm).1; omega)
  have HF1 := Lib.hid hf1
  clear hf1 hgrow1 hnil1
  refine (HR.out v1 w1 (own_base0 hown1)).mono ?_
  rintro e w2 ⟨a, cap, D, rfl, hf2⟩
  have HF2 := Lib.hid (HF1.out.trans hf2)
  clear hf2 HF1
  go_wp2_with fail
  refine (buildAwake_calls _).mono ?_
  rintro e w3 ⟨rfl, hf3⟩
  have HF3 := Lib.hid (HF2.out.trans hf3)
  clear hf3 HF2
  go_wp2_with fail
  go_ret
  exact ⟨rfl, Fr0.below HF3.out⟩

set_option maxRecDepth 20000 in
set_option maxHeartbeats 2000000 in
theorem Order_1_4 (b s : Nat) (hb : b < 256) (hs : s < 256) (h3 : (b : Int) % 3 = 1) (h11 : (s : Int) % 11 = 4) (w : World) :
    Calls Tryz.prog 6 #[.int .u8 b, .int .u8 s] w fun e w' => e = .returned (.bool true) ∧ Below w.heap.size w w' := by
  obtain ⟨i0, hi, hz0, hz1, hz2⟩ := info_parts infoSStep4
  have HR := Lib.hid (fun v w h => Run_od 1 14 2 false (by simp) (by kernel_rfl) (by kernel_rfl) v w h)
  go_enter Tryz.func6, Tryz.ntmps6
  go_wp2_with (first | (at_builtin; refine wpList_append_own _ rfl (.tmp 17) (.tmp 19) 25 rfl w.heap.size 28 i0 (.agg #[.int .u8 0, .int .u8 0, .int .i64 0, .int .u64 0, .int .u64 0, .int .u32 0, .int .i64 0, .int .i64 0, .int .i64 0, .int .i64 0, .string ⟨#[]⟩]) 11 88 Tryz.underlying25 hi hz0 hz1 hz2 rfl (by decide) _ _ _ rfl (World.ownsRow_nil _ _ _ _) ⟨w.heap.size, 0, none⟩ 1 1 (bsC ⟨0, 0, 2, 0, 0, 0, 0, 0, 0, 0, []⟩) rfl rfl (newCellsL _ _ _ _ (by first | rfl | simp)) (bsC_one _) (by unfold maxLen; omega) (by omega) (by first | (simp; done) | (simp; omega)) ?_; intro v0 w0 hown0 hgrow0 hnil0; obtain ⟨g0, c0, rfl, hg0, hg1⟩ := own_slice1 hown0 (by omega); have HB0 := Lib.hid (own_block_lt hown0); have hs0 := (grown_fr hgrow0).size; have HGR0 := Lib.hid hgrow0; have HO0 := Lib.hid hown0; rw [size_alloc] at hs0; clear hgrow0 hown0 hnil0) | (at_builtin; refine wpList_append_own _ rfl (.tmp 36) (.tmp 38) 25 rfl w.heap.size 28 i0 (.agg #[.int .u8 0, .int .u8 0, .int .i64 0, .int .u64 0, .int .u64 0, .int .u32 0, .int .i64 0, .int .i64 0, .int .i64 0, .int .i64 0, .string ⟨#[]⟩]) 11 88 Tryz.underlying25 hi hz0 hz1 hz2 rfl (by decide) _ _ _ rfl (((HO0.out.alloc _).alloc _).alloc _) ⟨w0.heap.size + 2, 0, none⟩ 1 1 (bsC ⟨14, 0, 0, 0, 0, 0, 0, 1, 0, 1, [97, 98, 99, 100]⟩) rfl rfl (newCellsL _ _ _ _ (by first | rfl | simp)) (bsC_one _) (by unfold maxLen; omega) (by omega) (by first | (simp; done) | (simp; omega)) ?_; intro v1 w1 hown1 hgrow1 hnil1))
  have hf0 : Fr0 w w0 := ((Fr.refl (fun _ => False) w).alloc _).trans2 (S := fun _ => False) (grown_fr HGR0.out) (fun k hk e => by cases e)
  have hf1 : Fr0 w w1 := (((hf0.alloc _).alloc _).alloc _).trans2 (S := fun _ => False) (grown_fr hgrow1) (fun k hk e => by have := (HB0.out k e.symm).1; omega)
  have HF1 := Lib.hid hf1
  clear hf1 hgrow1 hnil1
  refine (HR.out v1 w1 (own_base0 hown1)).mono ?_
  rintro e w2 ⟨a, cap, D, rfl, hf2⟩
  have HF2 := Lib.hid (HF1.out.trans hf2)
  clear hf2 HF1
  go_wp2_with fail
  refine (buildAwake_calls _).mono ?_
  rintro e w3 ⟨rfl, hf3⟩
  have HF3 := Lib.hid (HF2.out.trans hf3)
  clear hf3 HF2
  go_wp2_with fail
  go_ret
  exact ⟨rfl, Fr0.below HF3.out⟩

set_option maxRecDepth 20000 in
set_option maxHeartbeats 2000000 in
theorem Order_1_5 (b s : Nat) (hb : b < 256) (hs : s < 256) (h3 : (b : Int) % 3 = 1) (h11 : (s : Int) % 11 = 5) (w : World) :
    Calls Tryz.prog 6 #[.int .u8 b, .int .u8 s] w fun e w' => e = .returned (.bool true) ∧ Below w.heap.size w w' := by
  obtain ⟨i0, hi, hz0, hz1, hz2⟩ := info_parts infoSStep4
  have HR := Lib.hid (fun v w h => Run_od 1 15 2 false (by simp) (by kernel_rfl) (by kernel_rfl) v w h)
  go_enter Tryz.func6, Tryz.ntmps6
  go_wp2_with (first | (at_builtin; refine wpList_append_own _ rfl (.tmp 17) (.tmp 19) 25 rfl w.heap.size 28 i0 (.agg #[.int .u8 0, .int .u8 0, .int .i64 0, .int .u64 0, .int .u64 0, .int .u32 0, .int .i64 0, .int .i64 0, .int .i64 0, .int .i64 0, .string ⟨#[]⟩]) 11 88 Tryz.underlying25 hi hz0 hz1 hz2 rfl (by decide) _ _ _ rfl (World.ownsRow_nil _ _ _ _) ⟨w.heap.size, 0, none⟩ 1 1 (bsC ⟨0, 0, 2, 0, 0, 0, 0, 0, 0, 0, []⟩) rfl rfl (newCellsL _ _ _ _ (by first | rfl | simp)) (bsC_one _) (by unfold maxLen; omega) (by omega) (by first | (simp; done) | (simp; omega)) ?_; intro v0 w0 hown0 hgrow0 hnil0; obtain ⟨g0, c0, rfl, hg0, hg1⟩ := own_slice1 hown0 (by omega); have HB0 := Lib.hid (own_block_lt hown0); have hs0 := (grown_fr hgrow0).size; have HGR0 := Lib.hid hgrow0; have HO0 := Lib.hid hown0; rw [size_alloc] at hs0; clear hgrow0 hown0 hnil0) | (at_builtin; refine wpList_append_own _ rfl (.tmp 36) (.tmp 38) 25 rfl w.heap.size 28 i0 (.agg #[.int .u8 0, .int .u8 0, .int .i64 0, .int .u64 0, .int .u64 0, .int .u32 0, .int .i64 0, .int .i64 0, .int .i64 0, .int .i64 0, .string ⟨#[]⟩]) 11 88 Tryz.underlying25 hi hz0 hz1 hz2 rfl (by decide) _ _ _ rfl (((HO0.out.alloc _).alloc _).alloc _) ⟨w0.heap.size + 2, 0, none⟩ 1 1 (bsC ⟨15, 0, 0, 0, 0, 0, 0, 1, 0, 1, [97, 98, 99, 100]⟩) rfl rfl (newCellsL _ _ _ _ (by first | rfl | simp)) (bsC_one _) (by unfold maxLen; omega) (by omega) (by first | (simp; done) | (simp; omega)) ?_; intro v1 w1 hown1 hgrow1 hnil1))
  have hf0 : Fr0 w w0 := ((Fr.refl (fun _ => False) w).alloc _).trans2 (S := fun _ => False) (grown_fr HGR0.out) (fun k hk e => by cases e)
  have hf1 : Fr0 w w1 := (((hf0.alloc _).alloc _).alloc _).trans2 (S := fun _ => False) (grown_fr hgrow1) (fun k hk e => by have := (HB0.out k e.symm).1; omega)
  have HF1 := Lib.hid hf1
  clear hf1 hgrow1 hnil1
  refine (HR.out v1 w1 (own_base0 hown1)).mono ?_
  rintro e w2 ⟨a, cap, D, rfl, hf2⟩
  have HF2 := Lib.hid (HF1.out.trans hf2)
  clear hf2 HF1
  go_wp2_with fail
  refine (buildAwake_calls _).mono ?_
  rintro e w3 ⟨rfl, hf3⟩
  have HF3 := Lib.hid (HF2.out.trans hf3)
  clear hf3 HF2
  go_wp2_with fail
  go_ret
  exact ⟨rfl, Fr0.below HF3.out⟩

set_option maxRecDepth 20000 in
set_option maxHeartbeats 2000000 in
theorem Order_1_6 (b s : Nat) (hb : b < 256) (hs : s < 256) (h3 : (b : Int) % 3 = 1) (h11 : (s : Int) % 11 = 6) (w : World) :
    Calls Tryz.prog 6 #[.int .u8 b, .int .u8 s] w fun e w' => e = .returned (.bool true) ∧ Below w.heap.size w w' := by
  obtain ⟨i0, hi, hz0, hz1, hz2⟩ := info_parts infoSStep4
  have HR := Lib.hid (fun v w h => Run_od 1 19 2 false (by simp) (by kernel_rfl) (by kernel_rfl) v w h)
  go_enter Tryz.func6, Tryz.ntmps6
  go_wp2_with (first | (at_builtin; refine wpList_append_own _ rfl (.tmp 17) (.tmp 19) 25 rfl w.heap.size 28 i0 (.agg #[.int .u8 0, .int .u8 0, .int .i64 0, .int .u64 0, .int .u64 0, .int .u32 0, .int .i64 0, .int .i64 0, .int .i64 0, .int .i64 0, .string ⟨#[]⟩]) 11 88 Tryz.underlying25 hi hz0 hz1 hz2 rfl (by decide) _ _ _ rfl (World.ownsRow_nil _ _ _ _) ⟨w.heap.size, 0, none⟩ 1 1 (bsC ⟨0, 0, 2, 0, 0, 0, 0, 0, 0, 0, []⟩) rfl rfl (newCellsL _ _ _ _ (by first | rfl | simp)) (bsC_one _) (by unfold maxLen; omega) (by omega) (by first | (simp; done) | (simp; omega)) ?_; intro v0 w0 hown0 hgrow0 hnil0; obtain ⟨g0, c0, rfl, hg0, hg1⟩ := own_slice1 hown0 (by omega); have HB0 := Lib.hid (own_block_lt hown0); have hs0 := (grown_fr hgrow0).size; have HGR0 := Lib.hid hgrow0; have HO0 := Lib.hid hown0; rw [size_alloc] at hs0; clear hgrow0 hown0 hnil0) | (at_builtin; refine wpList_append_own _ rfl (.tmp 36) (.tmp 38) 25 rfl w.heap.size 28 i0 (.agg #[.int .u8 0, .int .u8 0, .int .i64 0, .int .u64 0, .int .u64 0, .int .u32 0, .int .i64 0, .int .i64 0, .int .i64 0, .int .i64 0, .string ⟨#[]⟩]) 11 88 Tryz.underlying25 hi hz0 hz1 hz2 rfl (by decide) _ _ _ rfl (((HO0.out.alloc _).alloc _).alloc _) ⟨w0.heap.size + 2, 0, none⟩ 1 1 (bsC ⟨19, 0, 0, 0, 0, 0, 0, 1, 0, 1, [97, 98, 99, 100]⟩) rfl rfl (newCellsL _ _ _ _ (by first | rfl | simp)) (bsC_one _) (by unfold maxLen; omega) (by omega) (by first | (simp; done) | (simp; omega)) ?_; intro v1 w1 hown1 hgrow1 hnil1))
  have hf0 : Fr0 w w0 := ((Fr.refl (fun _ => False) w).alloc _).trans2 (S := fun _ => False) (grown_fr HGR0.out) (fun k hk e => by cases e)
  have hf1 : Fr0 w w1 := (((hf0.alloc _).alloc _).alloc _).trans2 (S := fun _ => False) (grown_fr hgrow1) (fun k hk e => by have := (HB0.out k e.symm).1; omega)
  have HF1 := Lib.hid hf1
  clear hf1 hgrow1 hnil1
  refine (HR.out v1 w1 (own_base0 hown1)).mono ?_
  rintro e w2 ⟨a, cap, D, rfl, hf2⟩
  have HF2 := Lib.hid (HF1.out.trans hf2)
  clear hf2 HF1
  go_wp2_with fail
  refine (buildAwake_calls _).mono ?_
  rintro e w3 ⟨rfl, hf3⟩
  have HF3 := Lib.hid (HF2.out.trans hf3)
  clear hf3 HF2
  go_wp2_with fail
  go_ret
  exact ⟨rfl, Fr0.below HF3.out⟩

set_option maxRecDepth 20000 in
set_option maxHeartbeats 2000000 in
theorem Order_1_7 (b s : Nat) (hb : b < 256) (hs : s < 256) (h3 : (b : Int) % 3 = 1) (h11 : (s : Int) % 11 = 7) (w : World) :
    Calls Tryz.prog 6 #[.int .u8 b, .int .u8 s] w fun e w' => e = .returned (.bool true) ∧ Below w.heap.size w w' := by
  obtain ⟨i0, hi, hz0, hz1, hz2⟩ := info_parts infoSStep4
  have HR := Lib.hid (fun v w h => Run_od 1 20 2 false (by simp) (by kernel_rfl) (by kernel_rfl) v w h)
  go_enter Tryz.func6, Tryz.ntmps6
  go_wp2_with (first | (at_builtin; refine wpList_append_own _ rfl (.tmp 17) (.tmp 19) 25 rfl w.heap.size 28 i0 (.agg #[.int .u8 0, .int .u8 0, .int .i64 0, .int .u64 0, .int .u64 0, .int .u32 0, .int .i64 0, .int .i64 0, .int .i64 0, .int .i64 0, .string ⟨#[]⟩]) 11 88 Tryz.underlying25 hi hz0 hz1 hz2 rfl (by decide) _ _ _ rfl (World.ownsRow_nil _ _ _ _) ⟨w.heap.size, 0, none⟩ 1 1 (bsC ⟨0, 0, 2, 0, 0, 0, 0, 0, 0, 0, []⟩) rfl rfl (newCellsL _ _ _ _ (by first | rfl | simp)) (bsC_one _) (by unfold maxLen; omega) (by omega) (by first | (simp; done) | (simp; omega)) ?_; intro v0 w0 hown0 hgrow0 hnil0; obtain ⟨g0, c0, rfl, hg0, hg1⟩ := own_slice1 hown0 (by omega); have HB0 := Lib.hid (own_block_lt hown0); have hs0 := (grown_fr hgrow0).size; have HGR0 := Lib.hid hgrow0; have HO0 := Lib.hid hown0; rw [size_alloc] at hs0; clear hgrow0 hown0 hnil0) | (at_builtin; refine wpList_append_own _ rfl (.tmp 36) (.tmp 38) 25 rfl w.heap.size 28 i0 (.agg #[.int .u8 0, .int .u8 0, .int .i64 0, .int .u64 0, .int .u64 0, .int .u32 0, .int .i64 0, .int .i64 0, .int .i64 0, .int .i64 0, .string ⟨#[]⟩]) 11 88 Tryz.underlying25 hi hz0 hz1 hz2 rfl (by decide) _ _ _ rfl (((HO0.out.alloc _).alloc _).alloc _) ⟨w0.heap.size + 2, 0, none⟩ 1 1 (bsC ⟨20, 0, 0, 0, 0, 0, 0, 1, 0, 1, [97, 98, 99, 100]⟩) rfl rfl (newCellsL _ _ _ _ (by first | rfl | simp)) (bsC_one _) (by unfold maxLen; omega) (by omega) (by first | (simp; done) | (simp; omega)) ?_; intro v1 w1 hown1 hgrow1 hnil1))
  have hf0 : Fr0 w w0 := ((Fr.refl (fun _ => False) w).alloc _).trans2 (S := fun _ => False) (grown_fr HGR0.out) (fun k hk e => by cases e)
  have hf1 : Fr0 w w1 := (((hf0.alloc _).alloc _).alloc _).trans2 (S := fun _ => False) (grown_fr hgrow1) (fun k hk e => by have := (HB0.out k e.symm).1; omega)
  have HF1 := Lib.hid hf1
  clear hf1 hgrow1 hnil1
  refine (HR.out v1 w1 (own_base0 hown1)).mono ?_
  rintro e w2 ⟨a, cap, D, rfl, hf2⟩
  have HF2 := Lib.hid (HF1.out.trans hf2)
  clear hf2 HF1
  go_wp2_with fail
  refine (buildAwake_calls _).mono ?_
  rintro e w3 ⟨rfl, hf3⟩
  have HF3 := Lib.hid (HF2.out.trans hf3)
  clear hf3 HF2
  go_wp2_with fail
  go_ret
  exact ⟨rfl, Fr0.below HF3.out⟩

set_option maxRecDepth 20000 in
set_option maxHeartbeats 2000000 in
theorem Order_1_8 (b s : Nat) (hb : b < 256) (hs : s < 256) (h3 : (b : Int) % 3 = 1) (h11 : (s : Int) % 11 = 8) (w : World) :
    Calls Tryz.prog 6 #[.int .u8 b, .int .u8 s] w fun e w' => e = .returned (.bool true) ∧ Below w.heap.size w w' := by
  obtain ⟨i0, hi, hz0, hz1, hz2⟩ := info_parts infoSStep4
  have HR := Lib.hid (fun v w h => Run_od 1 1 2 true (by simp) (by kernel_rfl) (by kernel_rfl) v w h)
  go_enter Tryz.func6, Tryz.ntmps6
  go_wp2_with (first | (at_builtin; refine wpList_append_own _ rfl (.tmp 17) (.tmp 19) 25 rfl w.heap.size 28 i0 (.agg #[.int .u8 0, .int .u8 0, .int .i64 0, .int .u64 0, .int .u64 0, .int .u32 0, .int .i64 0, .int .i64 0, .int .i64 0, .int .i64 0, .string ⟨#[]⟩]) 11 88 Tryz.underlying25 hi hz0 hz1 hz2 rfl (by decide) _ _ _ rfl (World.ownsRow_nil _ _ _ _) ⟨w.heap.size, 0, none⟩ 1 1 (bsC ⟨0, 0, 2, 0, 0, 0, 0, 0, 0, 0, []⟩) rfl rfl (newCellsL _ _ _ _ (by first | rfl | simp)) (bsC_one _) (by unfold maxLen; omega) (by omega) (by first | (simp; done) | (simp; omega)) ?_; intro v0 w0 hown0 hgrow0 hnil0; obtain ⟨g0, c0, rfl, hg0, hg1⟩ := own_slice1 hown0 (by omega); have HB0 := Lib.hid (own_block_lt hown0); have hs0 := (grown_fr hgrow0).size; have HGR0 := Lib.hid hgrow0; have HO0 := Lib.hid hown0; rw [size_alloc] at hs0; clear hgrow0 hown0 hnil0) | (at_builtin; refine wpList_append_own _ rfl (.tmp 36) (.tmp 38) 25 rfl w.heap.size 28 i0 (.agg #[.int .u8 0, .int .u8 0, .int .i64 0, .int .u64 0, .int .u64 0, .int .u32 0, .int .i64 0, .int .i64 0, .int .i64 0, .int .i64 0, .string ⟨#[]⟩]) 11 88 Tryz.underlying25 hi hz0 hz1 hz2 rfl (by decide) _ _ _ rfl (((HO0.out.alloc _).alloc _).alloc _) ⟨w0.heap.size + 2, 0, none⟩ 1 1 (bsC ⟨1, 0, 0, 0, 0, 0, 0, 1, 0, 1, [97, 98, 99, 100]⟩) rfl rfl (newCellsL _ _ _ _ (by first | rfl | simp)) (bsC_one _) (by unfold maxLen; omega) (by omega) (by first | (simp; done) | (simp; omega)) ?_; intro v1 w1 hown1 hgrow1 hnil1))
  have hf0 : Fr0 w w0 := ((Fr.refl (fun _ => False) w).alloc _).trans2 (S := fun _ => False) (grown_fr HGR0.out) (fun k hk e => by cases e)
  have hf1 : Fr0 w w1 := (((hf0.alloc _).alloc _).alloc _).trans2 (S := fun _ => False) (grown_fr hgrow1) (fun k hk e => by have := (HB0.out k e.symm).1; omega)
  have HF1 := Lib.hid hf1
  clear hf1 hgrow1 hnil1
  refine (HR.out v1 w1 (own_base0 hown1)).mono ?_
  rintro e w2 ⟨a, cap, D, rfl, hf2⟩
  have HF2 := Lib.hid (HF1.out.trans hf2)
  clear hf2 HF1
  go_wp2_with fail
  refine (buildAwake_calls _).mono ?_
  rintro e w3 ⟨rfl, hf3⟩
  have HF3 := Lib.hid (HF2.out.trans hf3)
  clear hf3 HF2
  go_wp2_with fail
  go_ret
  exact ⟨rfl, Fr0.below HF3.out⟩

set_option maxRecDepth 20000 in
set_option maxHeartbeats 2000000 in
theorem Order_1_9 (b s : Nat) (hb : b < 256) (hs : s < 256) (h3 : (b : Int) % 3 = 1) (h11 : (s : Int) % 11 = 9) (w : World) :
    Calls Tryz.prog 6 #[.int .u8 b, .int .u8 s] w fun e w' => e = .returned (.bool true) ∧ Below w.heap.size w w' := by
  obtain ⟨i0, hi, hz0, hz1, hz2⟩ := info_parts infoSStep4
  have HR := Lib.hid (fun v w h => Run_od 1 11 2 false (by simp) (by kernel_rfl) (by kernel_rfl) v w h)
  go_enter Tryz.func6, Tryz.ntmps6
  go_wp2_with (first | (at_builtin; refine wpList_append_own _ rfl (.tmp 17) (.tmp 19) 25 rfl w.heap.size 28 i0 (.agg #[.int .u8 0, .int .u8 0, .int .i64 0, .int .u64 0, .int .u64 0, .int .u32 0, .int .i64 0, .int .i64 0, .int .i64 0, .int .i64 0, .string ⟨#[]⟩]) 11 88 Tryz.underlying25 hi hz0 hz1 hz2 rfl (by decide) _ _ _ rfl (World.ownsRow_nil _ _ _ _) ⟨w.heap.size, 0, none⟩ 1 1 (bsC ⟨0, 0, 2, 0, 0, 0, 0, 0, 0, 0, []⟩) rfl rfl (newCellsL _ _ _ _ (by first | rfl | simp)) (bsC_one _) (by unfold maxLen; omega) (by omega) (by first | (simp; done) | (simp; omega)) ?_; intro v0 w0 hown0 hgrow0 hnil0; obtain ⟨g0, c0, rfl, hg0, hg1⟩ := own_slice1 hown0 (by omega); have HB0 := Lib.hid (own_block_lt hown0); have hs0 := (grown_fr hgrow0).size; have HGR0 := Lib.hid hgrow0; have HO0 := Lib.hid hown0; rw [size_alloc] at hs0; clear hgrow0 hown0 hnil0) | (at_builtin; refine wpList_append_own _ rfl (.tmp 36) (.tmp 38) 25 rfl w.heap.size 28 i0 (.agg #[.int .u8 0, .int .u8 0, .int .i64 0, .int .u64 0, .int .u64 0, .int .u32 0, .int .i64 0, .int .i64 0, .int .i64 0, .int .i64 0, .string ⟨#[]⟩]) 11 88 Tryz.underlying25 hi hz0 hz1 hz2 rfl (by decide) _ _ _ rfl (((HO0.out.alloc _).alloc _).alloc _) ⟨w0.heap.size + 2, 0, none⟩ 1 1 (bsC ⟨11, 0, 0, 0, 0, 0, 0, 1, 0, 1, [97, 98, 99, 100]⟩) rfl rfl (newCellsL _ _ _ _ (by first | rfl | simp)) (bsC_one _) (by unfold maxLen; omega) (by omega) (by first | (simp; done) | (simp; omega)) ?_; intro v1 w1 hown1 hgrow1 hnil1))
  have hf0 : Fr0 w w0 := ((Fr.refl (fun _ => False) w).alloc _).trans2 (S := fun _ => False) (grown_fr HGR0.out) (fun k hk e => by cases e)
  have hf1 : Fr0 w w1 := (((hf0.alloc _).alloc _).alloc _).trans2 (S := fun _ => False) (grown_fr hgrow1) (fun k hk e => by have := (HB0.out k e.symm).1; omega)
  have HF1 := Lib.hid hf1
  clear hf1 hgrow1 hnil1
  refine (HR.out v1 w1 (own_base0 hown1)).mono ?_
  rintro e w2 ⟨a, cap, D, rfl, hf2⟩
  have HF2 := Lib.hid (HF1.out.trans hf2)
  clear hf2 HF1
  go_wp2_with fail
  refine (buildAwake_calls _).mono ?_
  rintro e w3 ⟨rfl, hf3⟩
  have HF3 := Lib.hid (HF2.out.trans hf3)
  clear hf3 HF2
  go_wp2_with fail
  go_ret
  exact ⟨rfl, Fr0.below HF3.out⟩

set_option maxRecDepth 20000 in
set_option maxHeartbeats 2000000 in
theorem Order_1_10 (b s : Nat) (hb : b < 256) (hs : s < 256) (h3 : (b : Int) % 3 = 1) (h11 : (s : Int) % 11 = 10) (w : World) :
    Calls Tryz.prog 6 #[.int .u8 b, .int .u8 s] w fun e w' => e = .returned (.bool true) ∧ Below w.heap.size w w' := by
  obtain ⟨i0, hi, hz0, hz1, hz2⟩ := info_parts infoSStep4
  have HR := Lib.hid (fun v w h => Run_od 1 22 2 false (by simp) (by kernel_rfl) (by kernel_rfl) v w h)
  go_enter Tryz.func6, Tryz.ntmps6
  go_wp2_with (first | (at_builtin; refine wpList_append_own _ rfl (.tmp 17) (.tmp 19) 25 rfl w.heap.size 28 i0 (.agg #[.int .u8 0, .int .u8 0, .int .i64 0, .int .u64 0, .int .u64 0, .int .u32 0, .int .i64 0, .int .i64 0, .int .i64 0, .int .i64 0, .string ⟨#[]⟩]) 11 88 Tryz.underlying25 hi hz0 hz1 hz2 rfl (by decide) _ _ _ rfl (World.ownsRow_nil _ _ _ _) ⟨w.heap.size, 0, none⟩ 1 1 (bsC ⟨0, 0, 2, 0, 0, 0, 0, 0, 0, 0, []⟩) rfl rfl (newCellsL _ _ _ _ (by first | rfl | simp)) (bsC_one _) (by unfold maxLen; omega) (by omega) (by first | (simp; done) | (simp; omega)) ?_; intro v0 w0 hown0 hgrow0 hnil0; obtain ⟨g0, c0, rfl, hg0, hg1⟩ := own_slice1 hown0 (by omega); have HB0 := Lib.hid (own_block_lt hown0); have hs0 := (grown_fr hgrow0).size; have HGR0 := Lib.hid hgrow0; have HO0 := Lib.hid hown0; rw [size_alloc] at hs0; clear hgrow0 hown0 hnil0) | (at_builtin; refine wpList_append_own _ rfl (.tmp 36) (.tmp 38) 25 rfl w.heap.size 28 i0 (.agg #[.int .u8 0, .int .u8 0, .int .i64 0, .int .u64 0, .int .u64 0, .int .u32 0, .int .i64 0, .int .i64 0, .int .i64 0, .int .i64 0, .string ⟨#[]⟩]) 11 88 Tryz.underlying25 hi hz0 hz1 hz2 rfl (by decide) _ _ _ rfl (((HO0.out.alloc _).alloc _).alloc _) ⟨w0.heap.size + 2, 0, none⟩ 1 1 (bsC ⟨22, 0, 0, 0, 0, 0, 0, 1, 0, 1, [97, 98, 99, 100]⟩) rfl rfl (newCellsL _ _ _ _ (by first | rfl | simp)) (bsC_one _) (by unfold maxLen; omega) (by omega) (by first | (simp; done) | (simp; omega)) ?_; intro v1 w1 hown1 hgrow1 hnil1))
  have hf0 : Fr0 w w0 := ((Fr.refl (fun _ => False) w).alloc _).trans2 (S := fun _ => False) (grown_fr HGR0.out) (fun k hk e => by cases e)
  have hf1 : Fr0 w w1 := (((hf0.alloc _).alloc _).alloc _).trans2 (S := fun _ => False) (grown_fr hgrow1) (fun k hk e => by have := (HB0.out k e.symm).1; omega)
  have HF1 := Lib.hid hf1
  clear hf1 hgrow1 hnil1
  refine (HR.out v1 w1 (own_base0 hown1)).mono ?_
  rintro e w2 ⟨a, cap, D, rfl, hf2⟩
  have HF2 := Lib.hid (HF1.out.trans hf2)
  clear hf2 HF1
  go_wp2_with fail
  refine (buildAwake_calls _).mono ?_
  rintro e w3 ⟨rfl, hf3⟩
  have HF3 := Lib.hid (HF2.out.trans hf3)
  clear hf3 HF2
  go_wp2_with fail
  go_ret
  exact ⟨rfl, Fr0.below HF3.out⟩

set_option maxRecDepth 20000 in
set_option maxHeartbeats 2000000 in
theorem Order_2_0 (b s : Nat) (hb : b < 256) (hs : s < 256) (h3 : (b : Int) % 3 = 2) (h11 : (s : Int) % 11 = 0) (w : World) :
    Calls Tryz.prog 6 #[.int .u8 b, .int .u8 s] w fun e w' => e = .returned (.bool true) ∧ Below w.heap.size w w' := by
  obtain ⟨i0, hi, hz0, hz1, hz2⟩ := info_parts infoSStep4
  have HR := Lib.hid (fun v w h => Run_od 2 0 2 false (by simp) (by kernel_rfl) (by kernel_rfl) v w h)
  go_enter Tryz.func6, Tryz.ntmps6
  go_wp2_with (first | (at_builtin; refine wpList_append_own _ rfl (.tmp 23) (.tmp 25) 25 rfl w.heap.size 28 i0 (.agg #[.int .u8 0, .int .u8 0, .int .i64 0, .int .u64 0, .int .u64 0, .int .u32 0, .int .i64 0, .int .i64 0, .int .i64 0, .int .i64 0, .string ⟨#[]⟩]) 11 88 Tryz.underlying25 hi hz0 hz1 hz2 rfl (by decide) _ _ _ rfl (World.ownsRow_nil _ _ _ _) ⟨w.heap.size, 0, none⟩ 1 1 (bsC ⟨10, 0, 0, 0, 0, 0, 0, 1, 1, 1, []⟩) rfl rfl (newCellsL _ _ _ _ (by first | rfl | simp)) (bsC_one _) (by unfold maxLen; omega) (by omega) (by first | (simp; done) | (simp; omega)) ?_; intro v0 w0 hown0 hgrow0 hnil0; obtain ⟨g0, c0, rfl, hg0, hg1⟩ := own_slice1 hown0 (by omega); have HB0 := Lib.hid (own_block_lt hown0); have hs0 := (grown_fr hgrow0).size; have HGR0 := Lib.hid hgrow0; have HO0 := Lib.hid hown0; rw [size_alloc] at hs0; clear hgrow0 hown0 hnil0) | (at_builtin; refine wpList_append_own _ rfl (.tmp 36) (.tmp 38) 25 rfl w.heap.size 28 i0 (.agg #[.int .u8 0, .int .u8 0, .int .i64 0, .int .u64 0, .int .u64 0, .int .u32 0, .int .i64 0, .int .i64 0, .int .i64 0, .int .i64 0, .string ⟨#[]⟩]) 11 88 Tryz.underlying25 hi hz0 hz1 hz2 rfl (by decide) _ _ _ rfl (((HO0.out.alloc _).alloc _).alloc _) ⟨w0.heap.size + 2, 0, none⟩ 1 1 (bsC ⟨0, 0, 0, 0, 0, 0, 0, 1, 0, 1, [97, 98, 99, 100]⟩) rfl rfl (newCellsL _ _ _ _ (by first | rfl | simp)) (bsC_one _) (by unfold maxLen; omega) (by omega) (by first | (simp; done) | (simp; omega)) ?_; intro v1 w1 hown1 hgrow1 hnil1))
  have hf0 : Fr0 w w0 := ((Fr.refl (fun _ => False) w).alloc _).trans2 (S := fun _ => False) (grown_fr HGR0.out) (fun k hk e => by cases e)
  have hf1 : Fr0 w w1 := (((hf0.alloc _).alloc _).alloc _).trans2 (S := fun _ => False) (grown_fr hgrow1) (fun k hk e => by have := (HB0.out k e.symm).1; omega)
  have HF1 := Lib.hid hf1
  clear hf1 hgrow1 hnil1
  refine (HR.out v1 w1 (own_base0 hown1)).mono ?_
  rintro e w2 ⟨a, cap, D, rfl, hf2⟩
  have HF2 := Lib.hid (HF1.out.trans hf2)
  clear hf2 HF1
  go_wp2_with fail
  refine (buildAwake_calls _).mono ?_
  rintro e w3 ⟨rfl, hf3⟩
  have HF3 := Lib.hid (HF2.out.trans hf3)
  clear hf3 HF2
  go_wp2_with fail
  go_ret
  exact ⟨rfl, Fr0.below HF3.out⟩

set_option maxRecDepth 20000 in
set_option maxHeartbeats 2000000 in
theorem Order_2_1 (b s : Nat) (hb : b < 256) (hs : s < 256) (h3 : (b : Int) % 3 = 2) (h11 : (s : Int) % 11 = 1) (w : World) :
    Calls Tryz.prog 6 #[.int .u8 b, .int .u8 s] w fun e w' => e = .returned (.bool true) ∧ Below w.heap.size w w' := by
  obtain ⟨i0, hi, hz0, hz1, hz2⟩ := info_parts infoSStep4
  have HR := Lib.hid (fun v w h => Run_od 2 10 2 false (by simp) (by kernel_rfl) (by kernel_rfl) v w h)
  go_enter Tryz.func6, Tryz.ntmps6
  go_wp2_with (first | (at_builtin; refine wpList_append_own _ rfl (.tmp 23) (.tmp 25) 25 rfl w.heap.size 28 i0 (.agg #[.int .u8 0, .int .u8 0, .int .i64 0, .int .u64 0, .int .u64 0, .int .u32 0, .int .i64 0, .int .i64 0, .int .i64 0, .int .i64 0, .string ⟨#[]⟩]) 11 88 Tryz.underlying25 hi hz0 hz1 hz2 rfl (by decide) _ _ _ rfl (World.ownsRow_nil _ _ _ _) ⟨w.heap.size, 0, none⟩ 1 1 (bsC ⟨10, 0, 0, 0, 0, 0, 0, 1, 1, 1, []⟩) rfl rfl (newCellsL _ _ _ _ (by first | rfl | simp)) (bsC_one _) (by unfold maxLen; omega) (by omega) (by first | (simp; done) | (simp; omega)) ?_; intro v0 w0 hown0 hgrow0 hnil0; obtain ⟨g0, c0, rfl, hg0, hg1⟩ := own_slice1 hown0 (by omega); have HB0 := Lib.hid (own_block_lt hown0); have hs0 := (grown_fr hgrow0).size; have HGR0 := Lib.hid hgrow0; have HO0 := Lib.hid hown0; rw [size_alloc] at hs0; clear hgrow0 hown0 hnil0) | (at_builtin; refine wpList_append_own _ rfl (.tmp 36) (.tmp 38) 25 rfl w.heap.size 28 i0 (.agg #[.int .u8 0, .int .u8 0, .int .i64 0, .int .u64 0, .int .u64 0, .int .u32 0, .int .i64 0, .int .i64 0, .int .i64 0, .int .i64 0, .string ⟨#[]⟩]) 11 88 Tryz.underlying25 hi hz0 hz1 hz2 rfl (by decide) _ _ _ rfl (((HO0.out.alloc _).alloc _).alloc _) ⟨w0.heap.size + 2, 0, none⟩ 1 1 (bsC ⟨10, 0, 0, 0, 0, 0, 0, 1, 0, 1, [97, 98, 99, 100]⟩) rfl rfl (newCellsL _ _ _ _ (by first | rfl | simp)) (bsC_one _) (by unfold maxLen; omega) (by omega) (by first | (simp; done) | (simp; omega)) ?_; intro v1 w1 hown1 hgrow1 hnil1))
  have hf0 : Fr0 w w0 := ((Fr.refl (fun _ => False) w).alloc _).trans2 (S := fun _ => False) (grown_fr HGR0.out) (fun k hk e => by cases e)
  have hf1 : Fr0 w w1 := (((hf0.alloc _).alloc _).alloc _).trans2 (S := fun _ => False) (grown_fr hgrow1) (fun k hk e => by have := (HB0.out k e.symm).1; omega)
  have HF1 := Lib.hid hf1
  clear hf1 hgrow1 hnil1
  refine (HR.out v1 w1 (own_base0 hown1)).mono ?_
  rintro e w2 ⟨a, cap, D, rfl, hf2⟩
  have HF2 := Lib.hid (HF1.out.trans hf2)
  clear hf2 HF1
  go_wp2_with fail
  refine (buildAwake_calls _).mono ?_
  rintro e w3 ⟨rfl, hf3⟩
  have HF3 := Lib.hid (HF2.out.trans hf3)
  clear hf3 HF2
  go_wp2_with fail
  go_ret
  exact ⟨rfl, Fr0.below HF3.out⟩

set_option maxRecDepth 20000 in
set_option maxHeartbeats 2000000 in
theorem Order_2_2 (b s : Nat) (hb : b < 256) (hs : s < 256) (h3 : (b : Int) % 3 = 2) (h11 : (s : Int) % 11 = 2) (w : World) :
    Calls Tryz.prog 6 #[.int .u8 b, .int .u8 s] w fun e w' => e = .returned (.bool true) ∧ Below w.heap.size w w' := by
  obtain ⟨i0, hi, hz0, hz1, hz2⟩ := info_parts infoSStep4
  have HR := Lib.hid (fun v w h => Run_od 2 12 2 false (by simp) (by kernel_rfl) (by kernel_rfl) v w h)
  go_enter Tryz.func6, Tryz.ntmps6
  go_wp2_with (first | (at_builtin; refine wpList_append_own _ rfl (.tmp 23) (.tmp 25) 25 rfl w.heap.size 28 i0 (.agg #[.int .u8 0, .int .u8 0, .int .i64 0, .int .u64 0, .int .u64 0, .int .u32 0, .int .i64 0, .int .i64 0, .int .i64 0, .int .i64 0, .string ⟨#[]⟩]) 11 88 Tryz.underlying25 hi hz0 hz1 hz2 rfl (by decide) _ _ _ rfl (World.ownsRow_nil _ _ _ _) ⟨w.heap.size, 0, none⟩ 1 1 (bsC ⟨10, 0, 0, 0, 0, 0, 0, 1, 1, 1, []⟩) rfl rfl (newCellsL _ _ _ _ (by first | rfl | simp)) (bsC_one _) (by unfold maxLen; omega) (by omega) (by first | (simp; done) | (simp; omega)) ?_; intro v0 w0 hown0 hgrow0 hnil0; obtain ⟨g0, c0, rfl, hg0, hg1⟩ := own_slice1 hown0 (by omega); have HB0 := Lib.hid (own_block_lt hown0); have hs0 := (grown_fr hgrow0).size; have HGR0 := Lib.hid hgrow0; have HO0 := Lib.hid hown0; rw [size_alloc] at hs0; clear hgrow0 hown0 hnil0) | (at_builtin; refine wpList_append_own _ rfl (.tmp 36) (.tmp 38) 25 rfl w.heap.size 28 i0 (.agg #[.int .u8 0, .int .u8 0, .int .i64 0, .int .u64 0, .int .u64 0, .int .u32 0, .int .i64 0, .int .i64 0, .int .i64 0, .int .i64 0, .string ⟨#[]⟩]) 11 88 Tryz.underlying25 hi hz0 hz1 hz2 rfl (by decide) _ _ _ rfl (((HO0.out.alloc _).alloc _).alloc _) ⟨w0.heap.size + 2, 0, none⟩ 1 1 (bsC ⟨12, 0, 0, 0, 0, 0, 0, 1, 0, 1, [97, 98, 99, 100]⟩) rfl rfl (newCellsL _ _ _ _ (by first | rfl | simp)) (bsC_one _) (by unfold maxLen; omega) (by omega) (by first | (simp; done) | (simp; omega)) ?_; intro v1 w1 hown1 hgrow1 hnil1))
  have hf0 : Fr0 w w0 := ((Fr.refl (fun _ => False) w).alloc _).trans2 (S := fun _ => False) (grown_fr HGR0.out) (fun k hk e => by cases e)
  have hf1 : Fr0 w w1 := (((hf0.alloc _).alloc _).alloc _).trans2 (S := fun _ => False) (grown_fr hgrow1) (fun k hk e => by have := (HB0.out k e.symm).1; omega)
  have HF1 := Lib.hid hf1
  clear hf1 hgrow1 hnil1
  refine (HR.out v1 w1 (own_base0 hown1)).mono ?_
  rintro e w2 ⟨a, cap, D, rfl, hf2⟩
  have HF2 := Lib.hid (HF1.out.trans hf2)
  clear hf2 HF1
  go_wp2_with fail
  refine (buildAwake_calls _).mono ?_
  rintro e w3 ⟨rfl, hf3⟩
  have HF3 := Lib.hid (HF2.out.trans hf3)
  clear hf3 HF2
  go_wp2_with fail
  go_ret
  exact ⟨rfl, Fr0.below HF3.out⟩

set_option maxRecDepth 20000 in
set_option maxHeartbeats 2000000 in
theorem Order_2_3 (b s : Nat) (hb : b < 256) (hs : s < 256) (h3 : (b : Int) % 3 = 2) (h11 : (s : Int) % 11 = 3) (w : World) :
    Calls Tryz.prog 6 #[.int .u8 b, .int .u8 s] w fun e w' => e = .returned (.bool true) ∧ Below w.heap.size w w' := by
  obtain ⟨i0, hi, hz0, hz1, hz2⟩ := info_parts infoSStep4
  have HR := Lib.hid (fun v w h => Run_od 2 13 2 false (by simp) (by kernel_rfl) (by kernel_rfl) v w h)
  go_enter Tryz.func6, Tryz.ntmps6
  go_wp2_with (first | (at_builtin; refine wpList_append_own _ rfl (.tmp 23) (.tmp 25) 25 rfl w.heap.size 28 i0 (.agg #[.int .u8 0, .int .u8 0, .int .i64 0, .int .u64 0, .int .u64 0, .int .u32 0, .int .i64 0, .int .i64 0, .int .i64 0, .int .i64 0, .string ⟨#[]⟩]) 11 88 Tryz.underlying25 hi hz0 hz1 hz2 rfl (by decide) _ _ _ rfl (World.ownsRow_nil _ _ _ _) ⟨w.heap.size, 0, none⟩ 1 1 (bsC ⟨10, 0, 0, 0, 0, 0, 0, 1, 1, 1, []⟩) rfl rfl (newCellsL _ _ _ _ (by first | rfl | simp)) (bsC_one _) (by unfold maxLen; omega) (by omega) (by first | (simp; done) | (simp; omega)) ?_; intro v0 w0 hown0 hgrow0 hnil0; obtain ⟨g0, c0, rfl, hg0, hg1⟩ := own_slice1 hown0 (by omega); have HB0 := Lib.hid (own_block_lt hown0); have hs0 := (grown_fr hgrow0).size; have HGR0 := Lib.hid hgrow0; have HO0 := Lib.hid hown0; rw [size_alloc] at hs0; clear hgrow0 hown0 hnil0) | (at_builtin; refine wpList_append_own _ rfl (.tmp 36) (.tmp 38) 25 rfl w.heap.size 28 i0 (.agg #[.int .u8 0, .int .u8 0, .int .i64 0, .int .u64 0, .int .u64 0, .int .u32 0, .int .i64 0, .int .i64 0, .int .i64 0, .int .i64 0, .string ⟨#[]⟩]) 11 88 Tryz.underlying25 hi hz0 hz1 hz2 rfl (by decide) _ _ _ rfl (((HO0.out.alloc _).alloc _).alloc _) ⟨w0.heap.size + 2, 0, none⟩ 1 1 (bsC ⟨13, 0, 0, 0, 0, 0, 0, 1, 0, 1, [97, 98, 99, 100]⟩) rfl rfl (newCellsL _ _ _ _ (by first | rfl | simp)) (bsC_one _) (by unfold maxLen; omega) (by omega) (by first | (simp; done) | (simp; omega)) ?_; intro v1 w1 hown1 hgrow1 hnil1))
  have hf0 : Fr0 w w0 := ((Fr.refl (fun _ => False) w).alloc _).trans2 (S := fun _ => False) (grown_fr HGR0.out) (fun k hk e => by cases e)
  have hf1 : Fr0 w w1 := (((hf0.alloc _).alloc _).alloc _).trans2 (S := fun _ => False) (grown_fr hgrow1) (fun k hk e => by have := (HB0.out k e.symm).1; omega)
  have HF1 := Lib.hid hf1
  clear hf1 hgrow1 hnil1
  refine (HR.out v1 w1 (own_base0 hown1)).mono ?_
  rintro e w2 ⟨a, cap, D, rfl, hf2⟩
  have HF2 := Lib.hid (HF1.out.trans hf2)
  clear hf2 HF1
  go_wp2_with fail
  refine (buildAwake_calls _).mono ?_
  rintro e w3 ⟨rfl, hf3⟩
  have HF3 := Lib.hid (HF2.out.trans hf3)
  clear hf3 HF2
  go_wp2_with fail
  go_ret
  exact ⟨rfl, Fr0.below HF3.out⟩

set_option maxRecDepth 20000 in
set_option maxHeartbeats 2000000 in
theorem Order_2_4 (b s : Nat) (hb : b < 256) (hs : s < 256) (h3 : (b : Int) % 3 = 2) (h11 : (s : Int) % 11 = 4) (w : World) :
    Calls Tryz.prog 6 #[.int .u8 b, .int .u8 s] w fun e w' => e = .returned (.bool true) ∧ Below w.heap.size w w' := by
  obtain ⟨i0, hi, hz0, hz1, hz2⟩ := info_parts infoSStep4
  have HR := Lib.hid (fun v w h => Run_od 2 14 2 false (by simp) (by kernel_rfl) (by kernel_rfl) v w h)
  go_enter Tryz.func6, Tryz.ntmps6
  go_wp2_with (first | (at_builtin; refine wpList_append_own _ rfl (.tmp 23) (.tmp 25) 25 rfl w.heap.size 28 i0 (.agg #[.int .u8 0, .int .u8 0, .int .i64 0, .int .u64 0, .int .u64 0, .int .u32 0, .int .i64 0, .int .i64 0, .int .i64 0, .int .i64 0, .string ⟨#[]⟩]) 11 88 Tryz.underlying25 hi hz0 hz1 hz2 rfl (by decide) _ _ _ rfl (World.ownsRow_nil _ _ _ _) ⟨w.heap.size, 0, none⟩ 1 1 (bsC ⟨10, 0, 0, 0, 0, 0, 0, 1, 1, 1, []⟩) rfl rfl (newCellsL _ _ _ _ (by first | rfl | simp)) (bsC_one _) (by unfold maxLen; omega) (by omega) (by first | (simp; done) | (simp; omega)) ?_; intro v0 w0 hown0 hgrow0 hnil0; obtain ⟨g0, c0, rfl, hg0, hg1⟩ := own_slice1 hown0 (by omega); have HB0 := Lib.hid (own_block_lt hown0); have hs0 := (grown_fr hgrow0).size; have HGR0 := Lib.hid hgrow0; have HO0 := Lib.hid hown0; rw [size_alloc] at hs0; clear hgrow0 hown0 hnil0) | (at_builtin; refine wpList_append_own _ rfl (.tmp 36) (.tmp 38) 25 rfl w.heap.size 28 i0 (.agg #[.int .u8 0, .int .u8 0, .int .i64 0, .int .u64 0, .int .u64 0, .int .u32 0, .int .i64 0, .int .i64 0, .int .i64 0, .int .i64 0, .string ⟨#[]⟩]) 11 88 Tryz.underlying25 hi hz0 hz1 hz2 rfl (by decide) _ _ _ rfl (((HO0.out.alloc _).alloc _).alloc _) ⟨w0.heap.size + 2, 0, none⟩ 1 1 (bsC ⟨14, 0, 0, 0, 0, 0, 0, 1, 0, 1, [97, 98, 99, 100]⟩) rfl rfl (newCellsL _ _ _ _ (by first | rfl | simp)) (bsC_one _) (by unfold maxLen; omega) (by omega) (by first | (simp; done) | (simp; omega)) ?_; intro v1 w1 hown1 hgrow1 hnil1))
  have hf0 : Fr0 w w0 := ((Fr.refl (fun _ => False) w).alloc _).trans2 (S := fun _ => False) (grown_fr HGR0.out) (fun k hk e => by cases e)
  have hf1 : Fr0 w w1 := (((hf0.alloc _).alloc _).alloc _).trans2 (S := fun _ => False) (grown_fr hgrow1) (fun k hk e => by have := (HB0.out k e.symm).1; omega)
  have HF1 := Lib.hid hf1
  clear hf1 hgrow1 hnil1
  refine (HR.out v1 w1 (own_base0 hown1)).mono ?_
  rintro e w2 ⟨a, cap, D, rfl, hf2⟩
  have HF2 := Lib.hid (HF1.out.trans hf2)
  clear hf2 HF1
  go_wp2_with fail
  refine (buildAwake_calls _).mono ?_
  rintro e w3 ⟨rfl, hf3⟩
  have HF3 := Lib.hid (HF2.out.trans hf3)
  clear hf3 HF2
  go_wp2_with fail
  go_ret
  exact ⟨rfl, Fr0.below HF3.out⟩

set_option maxRecDepth 20000 in
set_option maxHeartbeats 2000000 in
theorem Order_2_5 (b s : Nat) (hb : b < 256) (hs : s < 256) (h3 : (b : Int) % 3 = 2) (h11 : (s : Int) % 11 = 5) (w : World) :
    Calls Tryz.prog 6 #[.int .u8 b, .int .u8 s] w fun e w' => e = .returned (.bool true) ∧ Below w.heap.size w w' := by
  obtain ⟨i0, hi, hz0, hz1, hz2⟩ := info_parts infoSStep4
  have HR := Lib.hid (fun v w h => Run_od 2 15 2 false (by simp) (by kernel_rfl) (by kernel_rfl) v w h)
  go_enter Tryz.func6, Tryz.ntmps6
  go_wp2_with (first | (at_builtin; refine wpList_append_own _ rfl (.tmp 23) (.tmp 25) 25 rfl w.heap.size 28 i0 (.agg #[.int .u8 0, .int .u8 0, .int .i64 0, .int .u64 0, .int .u64 0, .int .u32 0, .int .i64 0, .int .i64 0, .int .i64 0, .int .i64 0, .string ⟨#[]⟩]) 11 88 Tryz.underlying25 hi hz0 hz1 hz2 rfl (by decide) _ _ _ rfl (World.ownsRow_nil _ _ _ _) ⟨w.heap.size, 0, none⟩ 1 1 (bsC ⟨10, 0, 0, 0, 0, 0, 0, 1, 1, 1, []⟩) rfl rfl (newCellsL _ _ _ _ (by first | rfl | simp)) (bsC_one _) (by unfold maxLen; omega) (by omega) (by first | (simp; done) | (simp; omega)) ?_; intro v0 w0 hown0 hgrow0 hnil0; obtain ⟨g0, c0, rfl, hg0, hg1⟩ := own_slice1 hown0 (by omega); have HB0 := Lib.hid (own_block_lt hown0); have hs0 := (grown_fr hgrow0).size; have HGR0 := Lib.hid hgrow0; have HO0 := Lib.hid hown0; rw [size_alloc] at hs0; clear hgrow0 hown0 hnil0) | (at_builtin; refine wpList_append_own _ rfl (.tmp 36) (.tmp 38) 25 rfl w.heap.size 28 i0 (.agg #[.int .u8 0, .int .u8 0, .int .i64 0, .int .u64 0, .int .u64 0, .int .u32 0, .int .i64 0, .int .i64 0, .int .i64 0, .int .i64 0, .string ⟨#[]⟩]) 11 88 Tryz.underlying25 hi hz0 hz1 hz2 rfl (by decide) _ _ _ rfl (((HO0.out.alloc _).alloc _).alloc _) ⟨w0.heap.size + 2, 0, none⟩ 1 1 (bsC ⟨15, 0, 0, 0, 0, 0, 0, 1, 0, 1, [97, 98, 99, 100]⟩) rfl rfl (newCellsL _ _ _ _ (by first | rfl | simp)) (bsC_one _) (by unfold maxLen; omega) (by omega) (by first | (simp; done) | (simp; omega)) ?_; intro v1 w1 hown1 hgrow1 hnil1))
  have hf0 : Fr0 w w0 := ((Fr.refl (fun _ => False) w).alloc _).trans2 (S := fun _ => False) (grown_fr HGR0.out) (fun k hk e => by cases e)
  have hf1 : Fr0 w w1 := (((hf0.alloc _).alloc _).alloc _).trans2 (S := fun _ => False) (grown_fr hgrow1) (fun k hk e => by have := (HB0.out k e.symm).1; omega)
  have HF1 := Lib.hid hf1
  clear hf1 hgrow1 hnil1
  refine (HR.out v1 w1 (own_base0 hown1)).mono ?_
  rintro e w2 ⟨a, cap, D, rfl, hf2⟩
  have HF2 := Lib.hid (HF1.out.trans hf2)
  clear hf2 HF1
  go_wp2_with fail
  refine (buildAwake_calls _).mono ?_
  rintro e w3 ⟨rfl, hf3⟩
  have HF3 := Lib.hid (HF2.out.trans hf3)
  clear hf3 HF2
  go_wp2_with fail
  go_ret
  exact ⟨rfl, Fr0.below HF3.out⟩

set_option maxRecDepth 20000 in
set_option maxHeartbeats 2000000 in
theorem Order_2_6 (b s : Nat) (hb : b < 256) (hs : s < 256) (h3 : (b : Int) % 3 = 2) (h11 : (s : Int) % 11 = 6) (w : World) :
    Calls Tryz.prog 6 #[.int .u8 b, .int .u8 s] w fun e w' => e = .returned (.bool true) ∧ Below w.heap.size w w' := by
  obtain ⟨i0, hi, hz0, hz1, hz2⟩ := info_parts infoSStep4
  have HR := Lib.hid (fun v w h => Run_od 2 19 2 false (by simp) (by kernel_rfl) (by kernel_rfl) v w h)
  go_enter Tryz.func6, Tryz.ntmps6
  go_wp2_with (first | (at_builtin; refine wpList_append_own _ rfl (.tmp 23) (.tmp 25) 25 rfl w.heap.size 28 i0 (.agg #[.int .u8 0, .int .u8 0, .int .i64 0, .int .u64 0, .int .u64 0, .int .u32 0, .int .i64 0, .int .i64 0, .int .i64 0, .int .i64 0, .string ⟨#[]⟩]) 11 88 Tryz.underlying25 hi hz0 hz1 hz2 rfl (by decide) _ _ _ rfl (World.ownsRow_nil _ _ _ _) ⟨w.heap.size, 0, none⟩ 1 1 (bsC ⟨10, 0, 0, 0, 0, 0, 0, 1, 1, 1, []⟩) rfl rfl (newCellsL _ _ _ _ (by first | rfl | simp)) (bsC_one _) (by unfold maxLen; omega) (by omega) (by first | (simp; done) | (simp; omega)) ?_; intro v0 w0 hown0 hgrow0 hnil0; obtain ⟨g0, c0, rfl, hg0, hg1⟩ := own_slice1 hown0 (by omega); have HB0 := Lib.hid (own_block_lt hown0); have hs0 := (grown_fr hgrow0).size; have HGR0 := Lib.hid hgrow0; have HO0 := Lib.hid hown0; rw [size_alloc] at hs0; clear hgrow0 hown0 hnil0) | (at_builtin; refine wpList_append_own _ rfl (.tmp 36) (.tmp 38) 25 rfl w.heap.size 28 i0 (.agg #[.int .u8 0, .int .u8 0, .int .i64 0, .int .u64 0, .int .u64 0, .int .u32 0, .int .i64 0, .int .i64 0, .int .i64 0, .int .i64 0, .string ⟨#[]⟩]) 11 88 Tryz.underlying25 hi hz0 hz1 hz2 rfl (by decide) _ _ _ rfl (((HO0.out.alloc _).alloc _).alloc _) ⟨w0.heap.size + 2, 0, none⟩ 1 1 (bsC ⟨19, 0, 0, 0, 0, 0, 0, 1, 0, 1, [97, 98, 99, 100]⟩) rfl rfl (newCellsL _ _ _ _ (by first | rfl | simp)) (bsC_one _) (by unfold maxLen; omega) (by omega) (by first | (simp; done) | (simp; omega)) ?_; intro v1 w1 hown1 hgrow1 hnil1))
  have hf0 : Fr0 w w0 := ((Fr.refl (fun _ => False) w).alloc _).trans2 (S := fun _ => False) (grown_fr HGR0.out) (fun k hk e => by cases e)
  have hf1 : Fr0 w w1 := (((hf0.alloc _).alloc _).alloc _).trans2 (S := fun _ => False) (grown_fr hgrow1) (fun k hk e => by have := (HB0.out k e.symm).1; omega)
  have HF1 := Lib.hid hf1
  clear hf1 hgrow1 hnil1
  refine (HR.out v1 w1 (own_base0 hown1)).mono ?_
  rintro e w2 ⟨a, cap, D, rfl, hf2⟩
  have HF2 := Lib.hid (HF1.out.trans hf2)
  clear hf2 HF1
  go_wp2_with fail
  refine (buildAwake_calls _).mono ?_
  rintro e w3 ⟨rfl, hf3⟩
  have HF3 := Lib.hid (HF2.out.trans hf3)
  clear hf3 HF2
  go_wp2_with fail
  go_ret
  exact ⟨rfl, Fr0.below HF3.out⟩

set_option maxRecDepth 20000 in
set_option maxHeartbeats 2000000 in
theorem Order_2_7 (b s : Nat) (hb : b < 256) (hs : s < 256) (h3 : (b : Int) % 3 = 2) (h11 : (s : Int) % 11 = 7) (w : World) :
    Calls Tryz.prog 6 #[.int .u8 b, .int .u8 s] w fun e w' => e = .returned (.bool true) ∧ Below w.heap.size w w' := by
  obtain ⟨i0, hi, hz0, hz1, hz2⟩ := info_parts infoSStep4
  have HR := Lib.hid (fun v w h => Run_od 2 20 2 false (by simp) (by kernel_rfl) (by kernel_rfl) v w h)
  go_enter Tryz.func6, Tryz.ntmps6
  go_wp2_with (first | (at_builtin; refine wpList_append_own _ rfl (.tmp 23) (.tmp 25) 25 rfl w.heap.size 28 i0 (.agg #[.int .u8 0, .int .u8 0, .int .i64 0, .int .u64 0, .int .u64 0, .int .u32 0, .int .i64 0, .int .i64 0, .int .i64 0, .int .i64 0, .string ⟨#[]⟩]) 11 88 Tryz.underlying25 hi hz0 hz1 hz2 rfl (by decide) _ _ _ rfl (World.ownsRow_nil _ _ _ _) ⟨w.heap.size, 0, none⟩ 1 1 (bsC ⟨10, 0, 0, 0, 0, 0, 0, 1, 1, 1, []⟩) rfl rfl (newCellsL _ _ _ _ (by first | rfl | simp)) (bsC_one _) (by unfold maxLen; omega) (by omega) (by first | (simp; done) | (simp; omega)) ?_; intro v0 w0 hown0 hgrow0 hnil0; obtain ⟨g0, c0, rfl, hg0, hg1⟩ := own_slice1 hown0 (by omega); have HB0 := Lib.hid (own_block_lt hown0); have hs0 := (grown_fr hgrow0).size; have HGR0 := Lib.hid hgrow0; have HO0 := Lib.hid hown0; rw [size_alloc] at hs0; clear hgrow0 hown0 hnil0) | (at_builtin; refine wpList_append_own _ rfl (.tmp 36) (.tmp 38) 25 rfl w.heap.size 28 i0 (.agg #[.int .u8 0, .int .u8 0, .int .i64 0, .int .u64 0, .int .u64 0, .int .u32 0, .int .i64 0, .int .i64 0, .int .i64 0, .int .i64 0, .string ⟨#[]⟩]) 11 88 Tryz.underlying25 hi hz0 hz1 hz2 rfl (by decide) _ _ _ rfl (((HO0.out.alloc _).alloc _).alloc _) ⟨w0.heap.size + 2, 0, none⟩ 1 1 (bsC ⟨20, 0, 0, 0, 0, 0, 0, 1, 0, 1, [97, 98, 99, 100]⟩) rfl rfl (newCellsL _ _ _ _ (by first | rfl | simp)) (bsC_one _) (by unfold maxLen; omega) (by omega) (by first | (simp; done) | (simp; omega)) ?_; intro v1 w1 hown1 hgrow1 hnil1))
  have hf0 : Fr0 w w0 := ((Fr.refl (fun _ => False) w).alloc _).trans2 (S := fun _ => False) (grown_fr HGR0.out) (fun k hk e => by cases e)
  have hf1 : Fr0 w w1 := (((hf0.alloc _).alloc _).alloc _).trans2 (S := fun _ => False) (grown_fr hgrow1) (fun k hk e => by have := (HB0.out k e.symm).1; omega)
  have HF1 := Lib.hid hf1
  clear hf1 hgrow1 hnil1
  refine (HR.out v1 w1 (own_base0 hown1)).mono ?_
  rintro e w2 ⟨a, cap, D, rfl, hf2⟩
  have HF2 := Lib.hid (HF1.out.trans hf2)
  clear hf2 HF1
  go_wp2_with fail
  refine (buildAwake_calls _).mono ?_
  rintro e w3 ⟨rfl, hf3⟩
  have HF3 := Lib.hid (HF2.out.trans hf3)
  clear hf3 HF2
  go_wp2_with fail
  go_ret
  exact ⟨rfl, Fr0.below HF3.out⟩

set_option maxRecDepth 20000 in
set_option maxHeartbeats 2000000 in
theorem Order_2_8 (b s : Nat) (hb : b < 256) (hs : s < 256) (h3 : (b : Int) % 3 = 2) (h11 : (s : Int) % 11 = 8) (w : World) :
    Calls Tryz.prog 6 #[.int .u8 b, .int .u8 s] w fun e w' => e = .returned (.bool true) ∧ Below w.heap.size w w' := by
  obtain ⟨i0, hi, hz0, hz1, hz2⟩ := info_parts infoSStep4
  have HR := Lib.hid (fun v w h => Run_od 2 1 2 true (by simp) (by kernel_rfl) (by kernel_rfl) v w h)
  go_enter Tryz.func6, Tryz.ntmps6
  go_wp2_with (first | (at_builtin; refine wpList_append_own _ rfl (.tmp 23) (.tmp 25) 25 rfl w.heap.size 28 i0 (.agg #[.int .u8 0, .int .u8 0, .int .i64 0, .int .u64 0, .int .u64 0, .int .u32 0, .int .i64 0, .int .i64 0, .int .i64 0, .int .i64 0, .string ⟨#[]⟩]) 11 88 Tryz.underlying25 hi hz0 hz1 hz2 rfl (by decide) _ _ _ rfl (World.ownsRow_nil _ _ _ _) ⟨w.heap.size, 0, none⟩ 1 1 (bsC ⟨10, 0, 0, 0, 0, 0, 0, 1, 1, 1, []⟩) rfl rfl (newCellsL _ _ _ _ (by first | rfl | simp)) (bsC_one _) (by unfold maxLen; omega) (by omega) (by first | (simp; done) | (simp; omega)) ?_; intro v0 w0 hown0 hgrow0 hnil0; obtain ⟨g0, c0, rfl, hg0, hg1⟩ := own_slice1 hown0 (by omega); have HB0 := Lib.hid (own_block_lt hown0); have hs0 := (grown_fr hgrow0).size; have HGR0 := Lib.hid hgrow0; have HO0 := Lib.hid hown0; rw [size_alloc] at hs0; clear hgrow0 hown0 hnil0) | (at_builtin; refine wpList_append_own _ rfl (.tmp 36) (.tmp 38) 25 rfl w.heap.size 28 i0 (.agg #[.int .u8 0, .int .u8 0, .int .i64 0, .int .u64 0, .int .u64 0, .int .u32 0, .int .i64 0, .int .i64 0, .int .i64 0, .int .i64 0, .string ⟨#[]⟩]) 11 88 Tryz.underlying25 hi hz0 hz1 hz2 rfl (by decide) _ _ _ rfl (((HO0.out.alloc _).alloc _).alloc _) ⟨w0.heap.size + 2, 0, none⟩ 1 1 (bsC ⟨1, 0, 0, 0, 0, 0, 0, 1, 0, 1, [97, 98, 99, 100]⟩) rfl rfl (newCellsL _ _ _ _ (by first | rfl | simp)) (bsC_one _) (by unfold maxLen; omega) (by omega) (by first | (simp; done) | (simp; omega)) ?_; intro v1 w1 hown1 hgrow1 hnil1))
  have hf0 : Fr0 w w0 := ((Fr.refl (fun _ => False) w).alloc _).trans2 (S := fun _ => False) (grown_fr HGR0.out) (fun k hk e => by cases e)
  have hf1 : Fr0 w w1 := (((hf0.alloc _).alloc _).alloc _).trans2 (S := fun _ => False) (grown_fr hgrow1) (fun k hk e => by have := (HB0.out k e.symm).1; omega)
  have HF1 := Lib.hid hf1
  clear hf1 hgrow1 hnil1
  refine (HR.out v1 w1 (own_base0 hown1)).mono ?_
  rintro e w2 ⟨a, cap, D, rfl, hf2⟩
  have HF2 := Lib.hid (HF1.out.trans hf2)
  clear hf2 HF1
  go_wp2_with fail
  refine (buildAwake_calls _).mono ?_
  rintro e w3 ⟨rfl, hf3⟩
  have HF3 := Lib.hid (HF2.out.trans hf3)
  clear hf3 HF2
  go_wp2_with fail
  go_ret
  exact ⟨rfl, Fr0.below HF3.out⟩

set_option maxRecDepth 20000 in
set_option maxHeartbeats 2000000 in
theorem Order_2_9 (b s : Nat) (hb : b < 256) (hs : s < 256) (h3 : (b : Int) % 3 = 2) (h11 : (s : Int) % 11 = 9) (w : World) :
    Calls Tryz.prog 6 #[.int .u8 b, .int .u8 s] w fun e w' => e = .returned (.bool true) ∧ Below w.heap.size w w' := by
  obtain ⟨i0, hi, hz0, hz1, hz2⟩ := info_parts infoSStep4
  have HR := Lib.hid (fun v w h => Run_od 2 11 2 true (by simp) (by kernel_rfl) (by kernel_rfl) v w h)
  go_enter Tryz.func6, Tryz.ntmps6
  go_wp2_with (first | (at_builtin; refine wpList_append_own _ rfl (.tmp 23) (.tmp 25) 25 rfl w.heap.size 28 i0 (.agg #[.int .u8 0, .int .u8 0, .int .i64 0, .int .u64 0, .int .u64 0, .int .u32 0, .int .i64 0, .int .i64 0, .int .i64 0, .int .i64 0, .string ⟨#[]⟩]) 11 88 Tryz.underlying25 hi hz0 hz1 hz2 rfl (by decide) _ _ _ rfl (World.ownsRow_nil _ _ _ _) ⟨w.heap.size, 0, none⟩ 1 1 (bsC ⟨10, 0, 0, 0, 0, 0, 0, 1, 1, 1, []⟩) rfl rfl (newCellsL _ _ _ _ (by first | rfl | simp)) (bsC_one _) (by unfold maxLen; omega) (by omega) (by first | (simp; done) | (simp; omega)) ?_; intro v0 w0 hown0 hgrow0 hnil0; obtain ⟨g0, c0, rfl, hg0, hg1⟩ := own_slice1 hown0 (by omega); have HB0 := Lib.hid (own_block_lt hown0); have hs0 := (grown_fr hgrow0).size; have HGR0 := Lib.hid hgrow0; have HO0 := Lib.hid hown0; rw [size_alloc] at hs0; clear hgrow0 hown0 hnil0) | (at_builtin; refine wpList_append_own _ rfl (.tmp 36) (.tmp 38) 25 rfl w.heap.size 28 i0 (.agg #[.int .u8 0, .int .u8 0, .int .i64 0, .int .u64 0, .int .u64 0, .int .u32 0, .int .i64 0, .int .i64 0, .int .i64 0, .int .i64 0, .string ⟨#[]⟩]) 11 88 Tryz.underlying25 hi hz0 hz1 hz2 rfl (by decide) _ _ _ rfl (((HO0.out.alloc _).alloc _).alloc _) ⟨w0.heap.size + 2, 0, none⟩ 1 1 (bsC ⟨11, 0, 0, 0, 0, 0, 0, 1, 0, 1, [97, 98, 99, 100]⟩) rfl rfl (newCellsL _ _ _ _ (by first | rfl | simp)) (bsC_one _) (by unfold maxLen; omega) (by omega) (by first | (simp; done) | (simp; omega)) ?_; intro v1 w1 hown1 hgrow1 hnil1))
  have hf0 : Fr0 w w0 := ((Fr.refl (fun _ => False) w).alloc _).trans2 (S := fun _ => False) (grown_fr HGR0.out) (fun k hk e => by cases e)
  have hf1 : Fr0 w w1 := (((hf0.alloc _).alloc _).alloc _).trans2 (S := fun _ => False) (grown_fr hgrow1) (fun k hk e => by have := (HB0.out k e.symm).1; omega)
  have HF1 := Lib.hid hf1
  clear hf1 hgrow1 hnil1
  refine (HR.out v1 w1 (own_base0 hown1)).mono ?_
  rintro e w2 ⟨a, cap, D, rfl, hf2⟩
  have HF2 := Lib.hid (HF1.out.trans hf2)
  clear hf2 HF1
  go_wp2_with fail
  refine (buildAwake_calls _).mono ?_
  rintro e w3 ⟨rfl, hf3⟩
  have HF3 := Lib.hid (HF2.out.trans hf3)
  clear hf3 HF2
  go_wp2_with fail
  go_ret
  exact ⟨rfl, Fr0.below HF3.out⟩

set_option maxRecDepth 20000 in
set_option maxHeartbeats 2000000 in
theorem Order_2_10 (b s : Nat) (hb : b < 256) (hs : s < 256) (h3 : (b : Int) % 3 = 2) (h11 : (s : Int) % 11 = 10) (w : World) :
    Calls Tryz.prog 6 #[.int .u8 b, .int .u8 s] w fun e w' => e = .returned (.bool true) ∧ Below w.heap.size w w' := by
  obtain ⟨i0, hi, hz0, hz1, hz2⟩ := info_parts infoSStep4
  have HR := Lib.hid (fun v w h => Run_od 2 22 2 false (by simp) (by kernel_rfl) (by kernel_rfl) v w h)
  go_enter Tryz.func6, Tryz.ntmps6
  go_wp2_with (first | (at_builtin; refine wpList_append_own _ rfl (.tmp 23) (.tmp 25) 25 rfl w.heap.size 28 i0 (.agg #[.int .u8 0, .int .u8 0, .int .i64 0, .int .u64 0, .int .u64 0, .int .u32 0, .int .i64 0, .int .i64 0, .int .i64 0, .int .i64 0, .string ⟨#[]⟩]) 11 88 Tryz.underlying25 hi hz0 hz1 hz2 rfl (by decide) _ _ _ rfl (World.ownsRow_nil _ _ _ _) ⟨w.heap.size, 0, none⟩ 1 1 (bsC ⟨10, 0, 0, 0, 0, 0, 0, 1, 1, 1, []⟩) rfl rfl (newCellsL _ _ _ _ (by first | rfl | simp)) (bsC_one _) (by unfold maxLen; omega) (by omega) (by first | (simp; done) | (simp; omega)) ?_; intro v0 w0 hown0 hgrow0 hnil0; obtain ⟨g0, c0, rfl, hg0, hg1⟩ := own_slice1 hown0 (by omega); have HB0 := Lib.hid (own_block_lt hown0); have hs0 := (grown_fr hgrow0).size; have HGR0 := Lib.hid hgrow0; have HO0 := Lib.hid hown0; rw [size_alloc] at hs0; clear hgrow0 hown0 hnil0) | (at_builtin; refine wpList_append_own _ rfl (.tmp 36) (.tmp 38) 25 rfl w.heap.size 28 i0 (.agg #[.int .u8 0, .int .u8 0, .int .i64 0, .int .u64 0, .int .u64 0, .int .u32 0, .int .i64 0, .int .i64 0, .int .i64 0, .int .i64 0, .string ⟨#[]⟩]) 11 88 Tryz.underlying25 hi hz0 hz1 hz2 rfl (by decide) _ _ _ rfl (((HO0.out.alloc _).alloc _).alloc _) ⟨w0.heap.size + 2, 0, none⟩ 1 1 (bsC ⟨22, 0, 0, 0, 0, 0, 0, 1, 0, 1, [97, 98, 99, 100]⟩) rfl rfl (newCellsL _ _ _ _ (by first | rfl | simp)) (bsC_one _) (by unfold maxLen; omega) (by omega) (by first | (simp; done) | (simp; omega)) ?_; intro v1 w1 hown1 hgrow1 hnil1))
  have hf0 : Fr0 w w0 := ((Fr.refl (fun _ => False) w).alloc _).trans2 (S := fun _ => False) (grown_fr HGR0.out) (fun k hk e => by cases e)
  have hf1 : Fr0 w w1 := (((hf0.alloc _).alloc _).alloc _).trans2 (S := fun _ => False) (grown_fr hgrow1) (fun k hk e => by have := (HB0.out k e.symm).1; omega)
  have HF1 := Lib.hid hf1
  clear hf1 hgrow1 hnil1
  refine (HR.out v1 w1 (own_base0 hown1)).mono ?_
  rintro e w2 ⟨a, cap, D, rfl, hf2⟩
  have HF2 := Lib.hid (HF1.out.trans hf2)
  clear hf2 HF1
  go_wp2_with fail
  refine (buildAwake_calls _).mono ?_
  rintro e w3 ⟨rfl, hf3⟩
  have HF3 := Lib.hid (HF2.out.trans hf3)
  clear hf3 HF2
  go_wp2_with fail
  go_ret
  exact ⟨rfl, Fr0.below HF3.out⟩

theorem FnBuildOrder_walk (begun step : Int) (w0 : (Lit.int .u8 begun).wf = true) (w1 : (Lit.int .u8 step).wf = true) (w : World) :
    Calls Tryz.prog 6 #[.int .u8 begun, .int .u8 step] w fun e w' => e = .returned (.bool true) ∧ Below w.heap.size w w' := by
  obtain ⟨b, rfl, hb⟩ : ∃ k : Nat, begun = k ∧ k < 256 := by
    have := bounds_u8 w0
    exact ⟨begun.toNat, by omega, by omega⟩
  obtain ⟨s, rfl, hs⟩ : ∃ k : Nat, step = k ∧ k < 256 := by
    have := bounds_u8 w1
    exact ⟨step.toNat, by omega, by omega⟩
  clear w0 w1
  have h3 : (b : Int) % 3 = 0 ∨ (b : Int) % 3 = 1 ∨ (b : Int) % 3 = 2 := by omega
  have h11 : (s : Int) % 11 = 0 ∨ (s : Int) % 11 = 1 ∨ (s : Int) % 11 = 2 ∨ (s : Int) % 11 = 3 ∨ (s : Int) % 11 = 4 ∨ (s : Int) % 11 = 5 ∨ (s : Int) % 11 = 6 ∨ (s : Int) % 11 = 7 ∨ (s : Int) % 11 = 8 ∨ (s : Int) % 11 = 9 ∨ (s : Int) % 11 = 10 := by omega
  rcases h3 with h3 | h3 | h3 <;> rcases h11 with h11 | h11 | h11 | h11 | h11 | h11 | h11 | h11 | h11 | h11 | h11
  · exact Order_0_0 b s hb hs h3 h11 w
  · exact Order_0_1 b s hb hs h3 h11 w
  · exact Order_0_2 b s hb hs h3 h11 w
  · exact Order_0_3 b s hb hs h3 h11 w
  · exact Order_0_4 b s hb hs h3 h11 w
  · exact Order_0_5 b s hb hs h3 h11 w
  · exact Order_0_6 b s hb hs h3 h11 w
  · exact Order_0_7 b s hb hs h3 h11 w
  · exact Order_0_8 b s hb hs h3 h11 w
  · exact Order_0_9 b s hb hs h3 h11 w
  · exact Order_0_10 b s hb hs h3 h11 w
  · exact Order_1_0 b s hb hs h3 h11 w
  · exact Order_1_1 b s hb hs h3 h11 w
  · exact Order_1_2 b s hb hs h3 h11 w
  · exact Order_1_3 b s hb hs h3 h11 w
  · exact Order_1_4 b s hb hs h3 h11 w
  · exact Order_1_5 b s hb hs h3 h11 w
  · exact Order_1_6 b s hb hs h3 h11 w
  · exact Order_1_7 b s hb hs h3 h11 w
  · exact Order_1_8 b s hb hs h3 h11 w
  · exact Order_1_9 b s hb hs h3 h11 w
  · exact Order_1_10 b s hb hs h3 h11 w
  · exact Order_2_0 b s hb hs h3 h11 w
  · exact Order_2_1 b s hb hs h3 h11 w
  · exact Order_2_2 b s hb hs h3 h11 w
  · exact Order_2_3 b s hb hs h3 h11 w
  · exact Order_2_4 b s hb hs h3 h11 w
  · exact Order_2_5 b s hb hs h3 h11 w
  · exact Order_2_6 b s hb hs h3 h11 w
  · exact Order_2_7 b s hb hs h3 h11 w
  · exact Order_2_8 b s hb hs h3 h11 w
  · exact Order_2_9 b s hb hs h3 h11 w
  · exact Order_2_10 b s hb hs h3 h11 w
end Go.Proofs.YtfplgggepoaajaaGreat
