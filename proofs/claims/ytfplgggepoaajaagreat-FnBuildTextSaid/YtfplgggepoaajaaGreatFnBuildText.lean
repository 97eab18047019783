/- FnBuildText: a string is its length, its bytes, and a zero; as a shared one it stands there once. -/
import Derived.Test.YtfplgggepoaajaaGreatPlain
import Derived.Test.YtfplgggepoaajaaGreatRegHead
namespace Go.Proofs.YtfplgggepoaajaaGreat
open Go.RowKit
set_option linter.unusedVariables false
set_option linter.unusedSimpArgs false

def txS (f t : List UInt8) : List BS := [⟨14, 0, 0, 0, 0, 0, 0, 0, 0, 0, f⟩, ⟨15, 0, 0, 0, 0, 0, 0, 0, 0, 0, t⟩, ⟨12, 0, 0, 0, 0, 0, 0, 0, 0, 0, t⟩, ⟨13, 0, 0, 0, 0, 0, 0, 0, 0, 0, t⟩, ⟨15, 0, 0, 0, 0, 0, 0, 0, 0, 0, t⟩]
theorem tx_safe (f t : List UInt8) (hf : f.length ≤ 1000) (ht : t.length ≤ 1000) : SafeRun (txS f t) [] (st0 0) := by
  refine safe_plain _ _ _ (fun s hs => ?_) (HasVt.start 0)
  simp only [txS, List.mem_cons, List.mem_nil_iff, or_false] at hs
  rcases hs with rfl | rfl | rfl | rfl | rfl
  all_goals exact ⟨by constructor <;> simp [hf, ht], by simp, by simp, by simp⟩
def headOf (t : List UInt8) : List UInt8 := leB 4 t.length ++ (t ++ [0])
theorem headOf_length (t : List UInt8) : (headOf t).length = t.length + 5 := by
  simp [headOf, leB_length]; omega
/-- Where a string stands. -/
def Stands (t D : List UInt8) (r : Nat) : Prop := r % 4 = 0 ∧ ∃ pre post, D = pre ++ (headOf t ++ post) ∧ (headOf t).length + post.length = r
theorem Stands.more {t D : List UInt8} {r : Nat} (h : Stands t D r) (xs : List UInt8) : Stands t (xs ++ D) r := by
  obtain ⟨h4, pre, post, h1, h2⟩ := h
  exact ⟨h4, xs ++ pre, post, by rw [h1, List.append_assoc], h2⟩
theorem text_more (m : BM) (t : List UInt8) : ∃ xs, (m.text t true).bytes = xs ++ m.bytes ∧ 0 < xs.length ∧ xs.length ≤ t.length + 9 ∧ Stands t (m.text t true).bytes (m.text t true).bytes.length := by
  obtain ⟨k, hk, hb, h4⟩ := text_true m t
  refine ⟨leB 4 t.length ++ (t ++ (0 :: List.replicate k 0)), by rw [hb]; simp, by simp [leB_length]; omega, by simp [leB_length]; omega, h4, [], List.replicate k 0 ++ m.bytes, ?_, ?_⟩
  · rw [hb]; simp [headOf]
  · rw [hb]; simp [headOf, leB_length]; omega
theorem tx_run (f t : List UInt8) (hf : f.length ≤ 1000) (ht : t.length ≤ 1000) : ∃ L0 L1 L2 L3 st', L1 < L2 ∧ L2 < L3 ∧ L3 ≤ 10000 ∧
    mScript 0 (txS f t) = ([⟨L0, L0, [], false⟩, ⟨L1, L1, [], false⟩, ⟨L2, L2, [], false⟩, ⟨L3, L3, [], false⟩, ⟨L1, L3, [], false⟩], some st') ∧ st'.m.bytes.length = L3 ∧
    Stands t st'.m.bytes L1 ∧ Stands t st'.m.bytes L2 ∧ Stands t st'.m.bytes L3 := by
  obtain ⟨m1, hm1⟩ : ∃ m1, m1 = (st0 0).m.text f false := ⟨_, rfl⟩
  obtain ⟨m2, hm2⟩ : ∃ m2, m2 = m1.text t true := ⟨_, rfl⟩
  obtain ⟨m3, hm3⟩ : ∃ m3, m3 = m2.text t true := ⟨_, rfl⟩
  obtain ⟨m4, hm4⟩ : ∃ m4, m4 = m3.text t true := ⟨_, rfl⟩
  have hl1 : m1.bytes.length ≤ 2000 := by
    rw [hm1]
    have := (st0 0).m.text_len f false
    simp only [st0, List.length_nil] at this ⊢
    omega
  obtain ⟨x2, e2, p2, q2, s2⟩ := text_more m1 t
  obtain ⟨x3, e3, p3, q3, s3⟩ := text_more m2 t
  obtain ⟨x4, e4, p4, q4, s4⟩ := text_more m3 t
  rw [← hm2] at e2 s2
  rw [← hm3] at e3 s3
  rw [← hm4] at e4 s4
  have l2 : m2.bytes.length = x2.length + m1.bytes.length := by rw [e2, List.length_append]
  have l3 : m3.bytes.length = x3.length + m2.bytes.length := by rw [e3, List.length_append]
  have l4 : m4.bytes.length = x4.length + m3.bytes.length := by rw [e4, List.length_append]
  let D : DataW Unit := (DataW.map []).put (.string t) (.lit (.int .u32 m2.bytes.length))
  have hkl : WideAt.IsKeyLit (.string t) := by trivial
  have hhas : Maps.has D (.string t) = true := Maps.has_put_same ⟨[], rfl⟩ hkl _
  have hat : ∀ z, D.atKey (.string t) z = .lit (.int .u32 m2.bytes.length) := fun z => Maps.atKey_put_same ⟨[], rfl⟩ hkl _ z
  refine ⟨m1.bytes.length, m2.bytes.length, m3.bytes.length, m4.bytes.length, { st0 0 with m := m4, nested := false, shared := some D }, by omega, by omega, by omega, ?_, rfl, ?_, ?_, s4⟩
  · have a1 : ∀ o, mStep (st0 0) ⟨14, 0, 0, 0, 0, 0, 0, 0, 0, 0, f⟩ o = some (m1.bytes.length, [], { st0 0 with m := m1, nested := false }) := by
      intro o
      show numN (BSt.created (st0 0) f false) = _
      rw [created_eq _ _ _ rfl, hm1]; rfl
    have a2 : ∀ o, mStep { st0 0 with m := m1, nested := false } ⟨15, 0, 0, 0, 0, 0, 0, 0, 0, 0, t⟩ o = some (m2.bytes.length, [], { st0 0 with m := m2, nested := false, shared := some D }) := by
      intro o
      show numN (BSt.sharedStr _ t) = _
      unfold BSt.sharedStr
      rw [if_neg (by show ¬ (Maps.has (DataW.map []) (.string t) = true); simp [Maps.has])]
      have e : BSt.created { st0 0 with m := m1, nested := false, shared := some (DataW.map []) } t true = some (m2.bytes.length, { st0 0 with m := m2, nested := false, shared := some (DataW.map []) }) := by
        rw [created_eq _ _ _ rfl, hm2]
      show numN (Option.map _ (BSt.created { st0 0 with m := m1, nested := false, shared := some (DataW.map []) } t true)) = _
      rw [e]; rfl
    have a3 : ∀ o, mStep { st0 0 with m := m2, nested := false, shared := some D } ⟨12, 0, 0, 0, 0, 0, 0, 0, 0, 0, t⟩ o = some (m3.bytes.length, [], { st0 0 with m := m3, nested := false, shared := some D }) := by
      intro o
      show numN (BSt.created _ t true) = _
      rw [created_eq _ _ _ rfl, hm3]; rfl
    have a4 : ∀ o, mStep { st0 0 with m := m3, nested := false, shared := some D } ⟨13, 0, 0, 0, 0, 0, 0, 0, 0, 0, t⟩ o = some (m4.bytes.length, [], { st0 0 with m := m4, nested := false, shared := some D }) := by
      intro o
      show numN (BSt.created _ t true) = _
      rw [created_eq _ _ _ rfl, hm4]; rfl
    have a5 : ∀ o, mStep { st0 0 with m := m4, nested := false, shared := some D } ⟨15, 0, 0, 0, 0, 0, 0, 0, 0, 0, t⟩ o = some (m2.bytes.length, [], { st0 0 with m := m4, nested := false, shared := some D }) := by
      intro o
      show numN (BSt.sharedStr _ t) = _
      unfold BSt.sharedStr
      rw [if_pos (by show Maps.has D (.string t) = true; exact hhas)]
      show numN (some (numOf (D.atKey (.string t) _), _)) = _
      rw [hat]; rfl
    show mRunB _ _ _ = _
    unfold txS
    rw [mRunB_cons (a1 _), mRunB_cons (a2 _), mRunB_cons (a3 _), mRunB_cons (a4 _), mRunB_cons (a5 _)]
    rfl
  · show Stands t m4.bytes _
    rw [e4, e3]
    exact (s2.more x3).more x4
  · show Stands t m4.bytes _
    rw [e4]
    exact s3.more x4
theorem own_cells_in {w : World} {base z : Nat} {e : TypeId} {g n cap : Nat} {α : Type} {f : α → List Value} (hf : ∀ x, (f x).length = z) {l : List α} (h : w.ownsRow base e z (.slice (some ⟨g, 0, none⟩) n cap) l.length (l.flatMap f)) (i j : Nat) (hi : i < l.length) (hj : j < z) : w.cell? ⟨g, i * z + j, none⟩ = (f l[i])[j]? := by
  obtain ⟨g', cap', hv, hgl, hcs⟩ := own_cellsZ hf h hi
  injection hv with e1 _ _
  injection e1 with e1
  injection e1 with e1
  subst e1
  exact hcs j hj
theorem own_slice {w : World} {base z : Nat} {e : TypeId} {v : Value} {n : Nat} {xs : List Value} (h : w.ownsRow base e z v n xs) (hn : 0 < n) : ∃ g cap, v = .slice (some ⟨g, 0, none⟩) n cap ∧ base ≤ g ∧ g < w.heap.size := by
  rcases h.2 with ⟨_, h0⟩ | ⟨g, cap, cur, rfl, hb, hg, h1, h2, h3, h4⟩
  · omega
  · exact ⟨g, cap, rfl, hb, lt_of_block hg⟩
theorem Run_tx (f t : List UInt8) (hf : f.length ≤ 1000) (ht : t.length ≤ 1000) (w W : World) (hW : W = w.alloc (.cells ((txS f t).flatMap bsC).toArray 28)) :
    Calls Tryz.prog 14 #[.slice (some ⟨w.heap.size, 0, none⟩) 5 5] W fun e w' => ∃ g cap L1 L2 L3 D, e = .returned (.tuple #[.slice (some ⟨g, 0, none⟩) 5 cap, .string (strOf D), .bool true]) ∧ W.heap.size ≤ g ∧ g < w'.heap.size ∧ Fr0 W w' ∧ L1 < L2 ∧ L2 < L3 ∧ L3 ≤ 10000 ∧ D.length = L3 ∧
      Stands t D L1 ∧ Stands t D L2 ∧ Stands t D L3 ∧
      w'.cell? ⟨g, 4, none⟩ = some (.int .u32 (L1 : Nat)) ∧ w'.cell? ⟨g, 8, none⟩ = some (.int .u32 (L2 : Nat)) ∧ w'.cell? ⟨g, 12, none⟩ = some (.int .u32 (L3 : Nat)) ∧ w'.cell? ⟨g, 13, none⟩ = some (.int .u32 (L3 : Nat)) ∧ w'.cell? ⟨g, 16, none⟩ = some (.int .u32 (L1 : Nat)) ∧ w'.cell? ⟨g, 17, none⟩ = some (.int .u32 (L3 : Nat)) := by
  subst hW
  refine (buildRun_calls (.slice (some ⟨w.heap.size, 0, none⟩) 5 5) (txS f t) _ (own_lit (w := w) (t := 28) (z := 11) (n := 5) (xs := (txS f t).flatMap bsC) rfl (by omega)) (by simp [txS]) (tx_safe f t hf ht)).mono ?_
  rintro e w' ⟨r, rfl, hown, hfr⟩
  obtain ⟨L0, L1, L2, L3, st', h12, h23, h3, hm, hl, s1, s2, s3⟩ := tx_run f t hf ht
  rw [hm] at hown ⊢
  obtain ⟨g, cap, rfl, hb, hgl⟩ := own_slice hown (by simp)
  exact ⟨g, cap, L1, L2, L3, st'.m.bytes, rfl, hb, hgl, hfr, h12, h23, h3, hl, s1, s2, s3,
    own_cells_in (f := bansC) (z := 4) (fun _ => rfl) hown 1 0 (by simp) (by omega), own_cells_in (f := bansC) (z := 4) (fun _ => rfl) hown 2 0 (by simp) (by omega), own_cells_in (f := bansC) (z := 4) (fun _ => rfl) hown 3 0 (by simp) (by omega), own_cells_in (f := bansC) (z := 4) (fun _ => rfl) hown 3 1 (by simp) (by omega), own_cells_in (f := bansC) (z := 4) (fun _ => rfl) hown 4 0 (by simp) (by omega), own_cells_in (f := bansC) (z := 4) (fun _ => rfl) hown 4 1 (by simp) (by omega)⟩

theorem str_extract (a b c : List UInt8) (q : Nat) (hq : q = a.length + b.length) : (strOf (a ++ (b ++ c))).extract a.length q = strOf b := by
  subst hq
  apply ByteArray.ext
  apply Array.toList_inj.1
  simp [strOf, ByteArray.extract, ByteArray.copySlice, Array.toList_extract]
theorem head_cells (n : Nat) (h : n ≤ 1000) : (#[.int .u8 ((n : Int) % 256), .int .u8 ((n : Int) / 256), .int .u8 0, .int .u8 0] : Array Value) = (cellsOf (leB 4 n)).toArray := by
  have e1 : (n : Int) % 256 = ((UInt8.ofNat n).toNat : Nat) := by rw [UInt8.toNat_ofNat']; omega
  have e2 : (n : Int) / 256 = ((UInt8.ofNat (n / 256)).toNat : Nat) := by rw [UInt8.toNat_ofNat']; omega
  have e3 : n / 256 / 256 = 0 := by omega
  rw [e1, e2]
  simp only [leB, e3, cellsOf, List.map_cons, List.map_nil]
  rfl
theorem run_head (n : Nat) (h : n ≤ 1000) (w : World) : (convert 49 9 (.slice (some ⟨w.heap.size, 0, none⟩) 4 4)).run Tryz.prog (w.alloc (.cells #[.int .u8 ((n : Int) % 256), .int .u8 ((n : Int) / 256), .int .u8 0, .int .u8 0] 5)) = .ok (.string (strOf (leB 4 n))) (w.alloc (.cells #[.int .u8 ((n : Int) % 256), .int .u8 ((n : Int) / 256), .int .u8 0, .int .u8 0] 5)) := by
  rw [head_cells n h]
  exact run_bytes_string (P := Tryz.prog) (w := w.alloc (.cells (cellsOf (leB 4 n)).toArray 5)) (b := w.heap.size) (off := 0) (len := 4) (cap := 4) (l := leB 4 n) (Mem.of_block (by rw [heap_alloc_new])) (leB_length _ _) Tryz.underlying49 Tryz.underlying5 Tryz.underlying9

set_option maxRecDepth 20000 in
set_option maxHeartbeats 4000000 in
theorem FnBuildText_walk (f t : ByteArray) (w0 : f.size ≤ maxLen) (w1 : t.size ≤ maxLen) (w : World) :
    Calls Tryz.prog 9 #[.string f, .string t] w fun e w' => e = .returned (.bool true) ∧ Below w.heap.size w w' := by
  unfold maxLen at w0 w1
  by_cases h1 : 2147483647 < f.size
  · go_enter Tryz.func9, Tryz.ntmps9
    go_wp2_with fail
    go_ret
    exact ⟨rfl, Below.refl _ _⟩
  by_cases h2 : 2147483647 < t.size
  · go_enter Tryz.func9, Tryz.ntmps9
    go_wp2_with fail
    go_ret
    exact ⟨rfl, Below.refl _ _⟩
  by_cases h3 : 1000 < f.size
  · go_enter Tryz.func9, Tryz.ntmps9
    go_wp2_with (go_at_call 12; refine (buildAwake_calls _).mono ?_; rintro e w' ⟨rfl, hf⟩)
    go_ret
    exact ⟨rfl, Fr0.below hf⟩
  by_cases h4 : 1000 < t.size
  · go_enter Tryz.func9, Tryz.ntmps9
    go_wp2_with (go_at_call 12; refine (buildAwake_calls _).mono ?_; rintro e w' ⟨rfl, hf⟩)
    go_ret
    exact ⟨rfl, Fr0.below hf⟩
  have HR := Lib.hid (fun w => Run_tx f.data.toList t.data.toList (by rw [Array.length_toList]; show f.size ≤ 1000; omega) (by rw [Array.length_toList]; show t.size ≤ 1000; omega) w _ rfl)
  unfold txS at HR
  simp only [List.flatMap_cons, List.flatMap_nil, bsC, List.cons_append, List.nil_append, List.append_nil, strOf_data] at HR
  go_enter Tryz.func9, Tryz.ntmps9
  go_wp2_with fail
  refine (HR.out _).mono ?_
  rintro e w1 ⟨g1, cap, L1, L2, L3, D, rfl, hg1, hgl, hf1, h12, h23, hL3, hDl, s1, s2, s3, c4, c8, c12, c13, c16, c17⟩
  have HF1 := Lib.hid (((Fr.refl (fun _ => False) w).alloc _).trans hf1)
  have HS1 := Lib.hid s1
  have HS2 := Lib.hid s2
  have HS3 := Lib.hid s3
  clear hf1 hg1 s1 s2 s3
  go_wp2_with fail
  refine wp_region_head _ (by kernel_rfl) (by kernel_rfl) (by kernel_rfl) (by kernel_rfl) (by simp) ?_
  refine wpOp_step rfl (fun K hK => ?_)
  go_simp
  refine (buildAwake_calls _).mono ?_
  rintro e w2 ⟨rfl, hf2⟩
  refine hK _ _ ?_
  simp only [List.drop_succ_cons, List.drop_zero]
  have d4 : w2.cell? ⟨g1, 4, none⟩ = some (.int .u32 (L1 : Nat)) := (Fr.cell hf2 (p := ⟨g1, 4, none⟩) hgl (fun x => x)).trans c4
  have d8 : w2.cell? ⟨g1, 8, none⟩ = some (.int .u32 (L2 : Nat)) := (Fr.cell hf2 (p := ⟨g1, 8, none⟩) hgl (fun x => x)).trans c8
  have d12 : w2.cell? ⟨g1, 12, none⟩ = some (.int .u32 (L3 : Nat)) := (Fr.cell hf2 (p := ⟨g1, 12, none⟩) hgl (fun x => x)).trans c12
  have d13 : w2.cell? ⟨g1, 13, none⟩ = some (.int .u32 (L3 : Nat)) := (Fr.cell hf2 (p := ⟨g1, 13, none⟩) hgl (fun x => x)).trans c13
  have d16 : w2.cell? ⟨g1, 16, none⟩ = some (.int .u32 (L1 : Nat)) := (Fr.cell hf2 (p := ⟨g1, 16, none⟩) hgl (fun x => x)).trans c16
  have d17 : w2.cell? ⟨g1, 17, none⟩ = some (.int .u32 (L3 : Nat)) := (Fr.cell hf2 (p := ⟨g1, 17, none⟩) hgl (fun x => x)).trans c17
  have hgl2 : g1 < w2.heap.size := Nat.lt_of_lt_of_le hgl hf2.size
  have HF2 := Lib.hid (((HF1.out.drewN 1).trans hf2))
  clear hf2 hgl c4 c8 c12 c13 c16 c17 HF1 hK K HR
  repeat (go_big_quiet_step (fail))
  refine wpQuiet_nil ?_
  intro w3 hw3
  obtain ⟨nq, rfl⟩ := hw3
  have hcv := run_head t.size (by omega) (w2.drewN nq)
  rw [show (w2.drewN nq).heap.size = w2.heap.size from rfl] at hcv
  obtain ⟨tl, htl⟩ : ∃ tl, tl = t.data.toList := ⟨_, rfl⟩
  have hts : t.size = tl.length := by rw [htl, Array.length_toList]; rfl
  have htt : t = strOf tl := by rw [htl, strOf_data]
  obtain ⟨A, hA⟩ : ∃ A, A = strOf (leB 4 t.size) := ⟨_, rfl⟩
  obtain ⟨B, hB⟩ : ∃ B, B = strOf (leB 4 t.size ++ tl) := ⟨_, rfl⟩
  obtain ⟨H, hH⟩ : ∃ H, H = strOf (headOf tl) := ⟨_, rfl⟩
  have hHs : H.size = t.size + 5 := by rw [hH, strOf_size, headOf_length, hts]
  have hadd1 : ∀ w, (Op.stringOp .add A t).run Tryz.prog w = .ok (.string B) w := fun w => by
    have := run_string_add_lists (P := Tryz.prog) w (leB 4 t.size) tl (by rw [leB_length]; omega) (by omega)
    rw [show (⟨tl.toArray⟩ : ByteArray) = t from htt.symm] at this
    rw [hA, hB]
    exact this
  have hadd2 : ∀ w, (Op.stringOp .add B ⟨#[0]⟩).run Tryz.prog w = .ok (.string H) w := fun w => by
    rw [hB, hH]
    have := run_string_add_lists (P := Tryz.prog) w (leB 4 t.size ++ tl) [0] (by rw [List.length_append, leB_length]; omega) (by simp)
    rw [List.append_assoc, hts] at this
    rw [hts]
    exact this
  rw [← hA] at hcv
  have HH := Lib.hid hH
  have HTL := Lib.hid htl
  clear hA hB hH htl hts htt
  go_wp2_with fail
  generalize hw4 : (w2.drewN nq).alloc (.cells #[.int .u8 ((t.size : Int) % 256), .int .u8 ((t.size : Int) / 256), .int .u8 0, .int .u8 0] 5) = w4 at *
  have hf4 : Fr0 w2 w4 := by rw [← hw4]; exact ((Fr.refl (fun _ => False) w2).drewN nq).alloc _
  have HF4 := Lib.hid (HF2.out.trans hf4)
  have e4 := (Fr.cell hf4 (p := ⟨g1, 4, none⟩) hgl2 (fun x => x)).trans d4
  have e8 := (Fr.cell hf4 (p := ⟨g1, 8, none⟩) hgl2 (fun x => x)).trans d8
  have e12 := (Fr.cell hf4 (p := ⟨g1, 12, none⟩) hgl2 (fun x => x)).trans d12
  clear d4 d8 d12 d13 d16 d17 hf4 HF2 hcv hw4 hadd1 hadd2 hgl2
  obtain ⟨N, hN⟩ : ∃ N, N = L3 := ⟨_, rfl⟩
  have hsz : (strOf D).size = N := by rw [strOf_size, hDl, hN]
  have hall : ∀ i : Nat, 1 ≤ i → i ≤ 3 → ∃ R, w4.cell? ⟨g1, i * 4, none⟩ = some (.int .u32 (R : Nat)) ∧ R ≤ N ∧ Stands t.data.toList D R := by
    intro i h1 h2
    rcases (show i = 1 ∨ i = 2 ∨ i = 3 by omega) with rfl | rfl | rfl
    · exact ⟨L1, e4, by omega, HS1.out⟩
    · exact ⟨L2, e8, by omega, HS2.out⟩
    · exact ⟨L3, e12, by omega, HS3.out⟩
  have HA := Lib.hid hall
  have HDL := Lib.hid hDl
  obtain ⟨DS, hDS⟩ : ∃ DS, DS = strOf D := ⟨_, rfl⟩
  rw [← hDS] at hsz ⊢
  have HDS := Lib.hid hDS
  have hNl : N ≤ 10000 := by omega
  have HNL := Lib.hid hN
  clear hall hDl hDS hN
  go_loop [10] (fun v => ∃ i : Nat, 1 ≤ i ∧ i ≤ 4 ∧ v = .int .i64 i) (fun v => 4 - (intOf v).toNat)
  case atStart => exact ⟨1, by omega, by omega, rfl⟩
  case round =>
    obtain ⟨i, hi1, hi4, rfl⟩ := hrel
    by_cases hi : i ≤ 3
    · obtain ⟨R, hc, hRN, h4, pre, post, hD, hpl⟩ := HA.out i hi1 hi
      have hR5 : t.size + 5 ≤ R := by rw [← hpl, headOf_length]; have : t.data.toList.length = t.size := by rw [Array.length_toList]; rfl
                                      omega
      obtain ⟨p, hp⟩ : ∃ p, p = N - R := ⟨_, rfl⟩
      have hpi : (N : Int) - (R : Int) = (p : Nat) := by omega
      obtain ⟨q, hq⟩ : ∃ q, q = p + (t.size + 5) := ⟨_, rfl⟩
      have hqi : (p : Int) + ((t.size : Int) + 5) = (q : Nat) := by omega
      have hqi2 : (p : Int) + (t.size : Int) + 5 = (q : Nat) := by omega
      have hR4 : (R : Int) % 4 = 0 := by omega
      have hsl : ∀ w, (Instr.slice 9 (.string DS) (some (.int .i64 (p : Nat))) (some (.int .i64 (q : Nat))) none).run Tryz.prog w = .ok (.string H) w := fun w => by
        rw [run_slice_string_if w 9 DS .i64 .i64 _ _ Tryz.underlying9, if_pos ⟨by omega, by rw [hsz]; omega⟩, if_pos ⟨by omega, by omega⟩]
        have e : DS.extract ((p : Nat) : Int).toNat ((q : Nat) : Int).toNat = H := by
          rw [Int.toNat_natCast, Int.toNat_natCast, HDS.out, HH.out, HTL.out]
          have hpre : pre.length = p := by
            have := congrArg List.length hD
            rw [List.length_append, List.length_append, HDL.out] at this
            have := HNL.out
            omega
          rw [hD, ← hpre]
          refine str_extract pre (headOf t.data.toList) post q ?_
          rw [hq, hpre, headOf_length, Array.length_toList]; rfl
        rw [e]
      have hle : (t.size : Int) + 5 ≤ (N : Int) - (p : Int) := by omega
      clear hp hq hpl hD h4
      go_wp2_with fail
      exact ⟨⟨i + 1, by omega, by omega, by go_num⟩, by simp [intOf]; omega⟩
    · obtain rfl : i = 4 := by omega
      have k1 : (L1 : Int) < (L2 : Int) := by omega
      have k2 : (L2 : Int) < (L3 : Int) := by omega
      go_wp2_with fail
      go_quiet (fail)
      go_wp2_with fail
      go_ret
      exact ⟨rfl, Fr0.below (HF4.out.drewN _)⟩
end Go.Proofs.YtfplgggepoaajaaGreat
