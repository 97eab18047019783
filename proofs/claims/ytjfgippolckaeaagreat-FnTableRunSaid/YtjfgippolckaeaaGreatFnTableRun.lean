/- FnTableRun: over any bytes a table answers what the reference says. -/
import Derived.Test.YtjfgippolckaeaaGreatTabDo
namespace Go.Proofs.YtjfgippolckaeaaGreat
open Go.RowKit
set_option linter.unusedVariables false
set_option linter.unusedSimpArgs false

theorem of_map {α : Type} {o : Option α} {f : α → Ans} {l m : List UInt8} {a : Ans} (h : o.map (fun n => (f n, l)) = some (a, m)) : m.length = l.length := by
  obtain ⟨x, _, hx⟩ := Option.map_eq_some_iff.1 h
  injection hx with _ hx
  rw [← hx]
theorem mPutSlot_len {l m : List UInt8} {pos slot n : Nat} {k : Int} {b : Bool} (h : mPutSlot l pos k slot n = some (b, m)) : m.length = l.length := by
  unfold mPutSlot at h
  split at h
  · obtain ⟨o, _, h⟩ := Option.bind_eq_some_iff.1 h
    split at h
    · injection h with h
      injection h with _ h
      rw [← h]
    · obtain ⟨x, hx1, hx⟩ := Option.map_eq_some_iff.1 h
      injection hx with _ hx
      rw [← hx]; exact mPut_length hx1
  · cases h
theorem mStep_len {l m : List UInt8} {pos off num : Nat} {op k : Int} {a : Ans} (h : mStep l pos op k off num = some (a, m)) : m.length = l.length := by
  unfold mStep at h
  iterate 8
    split at h
    · exact of_map h
  split at h
  · obtain ⟨x, hx1, hx⟩ := Option.map_eq_some_iff.1 h
    injection hx with _ hx
    rw [← hx]; exact mPut_length hx1
  split at h
  · obtain ⟨x, hx1, hx⟩ := Option.map_eq_some_iff.1 h
    injection hx with _ hx
    rw [← hx]; exact mPutSlot_len (b := x.1) hx1
  · cases h
theorem mAns_len (l : List UInt8) (pos off num : Nat) (op k : Int) : (mAns l pos op k off num).2.length = l.length := by
  unfold mAns
  cases h : mStep l pos op k off num with
  | none => rfl
  | some x => exact mStep_len (a := x.1) (m := x.2) h
theorem mRun_bytes (pos : Nat) (l : List UInt8) (steps : List Stp) (i : Nat) (h : i ≤ steps.length) : (mRun pos l (steps.take i)).2.length = l.length := by
  induction i with
  | zero => rfl
  | succ i ih =>
    rw [mRun_take pos l steps i (by omega)]
    simp only [stepSt]
    rw [mAns_len, ih (by omega)]
theorem run_slice_to4 (b o len cap : Nat) (k : IntKind) (hi : Int) (m : Nat) (hm : hi = m) (h : m ≤ cap) (w : World) :
    (Instr.slice 40 (.slice (some ⟨b, o, none⟩) len cap) none (some (.int k hi)) none).run Tryz.prog w = .ok (.slice (some ⟨b, o, none⟩) m cap) w := by
  subst hm
  have hs4 : (Tryz.prog.info? 35).map (·.size) = some 4 := by kernel_rfl
  cases hq : Tryz.prog.info? 35 with
  | none => simp [hq] at hs4
  | some i => simp [Instr.slice, run_underlying Tryz.underlying40, Instr.sliceBounds, Instr.sliceBound, asIntOf, sizeOf, typeInfo, hq, h, Addr.add]
theorem RowAt.take {w : World} {ao : Option Addr} {n cap : Nat} {l : List Stp} (h : RowAt w (.slice ao n cap) n (l.flatMap stepC)) (hl : l.length = n) (i : Nat) (hi : i ≤ n) : RowAt w (.slice ao i cap) i ((l.take i).flatMap stepC) := by
  obtain ⟨h1, a, c, e, h2⟩ := h
  injection e with e1 e2 e3
  subst e1 e3
  have hlen : ((l.take i).flatMap stepC).length = i * 4 := by rw [flat_length stepC (fun _ => rfl), List.length_take]; congr 1; omega
  refine ⟨hlen, _, _, rfl, ?_⟩
  rcases h2 with hn | ⟨g, o, rfl, hg, hc⟩
  · exact .inl (by omega)
  · refine .inr ⟨g, o, rfl, hg, fun j u hu => hc j u ?_⟩
    have hsp : l.flatMap stepC = (l.take i).flatMap stepC ++ (l.drop i).flatMap stepC := by rw [← List.flatMap_append, List.take_append_drop]
    rw [hsp, List.getElem?_append_left (List.getElem?_eq_some_iff.1 hu).1]
    exact hu
theorem infoAnsS3 : (Tryz.prog.info? 31).map (fun i => (i.zero, i.size, i.bytes)) = some (some (.agg #[.int .u64 0, .string ⟨#[]⟩, .bool false, .bool false]), 4, 32) := by kernel_rfl
theorem ansCellS (wr : World) (x0 x1 x2 x3 : Value) : ∀ j u, [x0, x1, x2, x3][j]? = some u → (wr.alloc (.cells #[x0, x1, x2, x3] 31)).cell? ((⟨wr.heap.size, 0, none⟩ : Addr).add j) = some u := by
  intro j u hu
  have hadd : (⟨wr.heap.size, 0, none⟩ : Addr).add j = ⟨wr.heap.size, j, none⟩ := by unfold Addr.add; split <;> simp_all
  rw [hadd, cell_of (heap_alloc_new wr _)]
  simpa using hu
theorem ansCellS' (wr : World) (x0 x1 x2 x3 : Value) (n : Nat) (hn : wr.heap.size = n) : ∀ j u, [x0, x1, x2, x3][j]? = some u → (wr.alloc (.cells #[x0, x1, x2, x3] 31)).cell? ((⟨n, 0, none⟩ : Addr).add j) = some u := by
  subst hn; exact ansCellS wr x0 x1 x2 x3

set_option maxRecDepth 20000 in
set_option maxHeartbeats 16000000 in
theorem FnTableRun_walk (s : ByteArray) (pos : Int) (ao : Option Addr) (n cap : Nat) (steps : List Stp) (w0 : s.size ≤ maxLen) (w1 : (Lit.int .u32 pos).wf = true) (w : World)
    (w2 : RowAt w (.slice ao n cap) n (steps.flatMap stepC)) (hn : steps.length = n) (hcap : n ≤ cap) (hok : ∀ x ∈ steps, StepOk x) :
    Calls Tryz.prog 4 #[.string s, .int .u32 pos, .slice ao n cap] w fun e w' => e = .returned (.bool true) ∧ Below w.heap.size w w' := by
  unfold maxLen at w0
  obtain ⟨p, rfl, hp⟩ : ∃ n : Nat, pos = n ∧ n < 4294967296 := by
    have := bounds_u32 w1
    exact ⟨pos.toNat, by omega, by omega⟩
  clear w1
  have HW := Lib.hid w2
  have HOK := Lib.hid hok
  have HN := Lib.hid hn
  clear w2 hok hn
  by_cases h1 : 2147483647 < s.size
  · go_enter Tryz.func4, Tryz.ntmps4
    go_wp2_with fail
    go_ret
    exact ⟨rfl, Below.refl _ _⟩
  by_cases h1b : 2147483647 < n
  · go_enter Tryz.func4, Tryz.ntmps4
    go_wp2_with fail
    go_ret
    exact ⟨rfl, Below.refl _ _⟩
  by_cases h2 : 2000 < s.size
  · go_enter Tryz.func4, Tryz.ntmps4
    go_wp2_with (go_at_call 9; refine (tableAwake_calls _).mono ?_; rintro e w' ⟨rfl, hf⟩)
    go_ret
    exact ⟨rfl, hf.below⟩
  by_cases h2b : 30 < n
  · go_enter Tryz.func4, Tryz.ntmps4
    go_wp2_with (go_at_call 9; refine (tableAwake_calls _).mono ?_; rintro e w' ⟨rfl, hf⟩)
    go_ret
    exact ⟨rfl, hf.below⟩
  obtain ⟨i0, hi, hz0, hz1, hz2⟩ := info_parts infoAnsS3
  go_enter Tryz.func4, Tryz.ntmps4
  go_wp2_with fail
  go_loopw [2, 7, 8, 38] (fun v2 av nv iv wr => ∃ i : Nat, i ≤ n ∧ iv = .int .i64 i ∧ v2 = .slice ao n cap ∧ nv = .string (strOf (mRun p s.data.toList (steps.take i)).2) ∧ Fr0 w wr ∧
      wr.ownsRow w.heap.size 31 4 av i ((mRun p s.data.toList (steps.take i)).1.flatMap ansC))
    (fun _ _ _ iv _ => n - (intOf iv).toNat)
  case atStart => exact ⟨0, Nat.zero_le _, rfl, rfl, congrArg Value.string (strOf_data s).symm, Fr.refl _ w, World.ownsRow_nil _ _ _ _⟩
  case round =>
    obtain ⟨i, hi1, rfl, rfl, rfl, hfr, hown⟩ := hrel
    have HF := Lib.hid hfr
    have HOWN := Lib.hid hown
    by_cases hlt : i < n
    · have hil : i < steps.length := by have := HN.out; omega
      have hrw := HW.out.fr hfr
      rw [← HN.out] at hrw
      obtain ⟨g, o, cap', hv, hgl, hcs⟩ := row_cells (f := stepC) (fun _ => rfl) hrw hil
      injection hv with hv1 hv2 hv3
      subst hv1 hv3
      clear hv2 hrw
      have hso := HOK.out _ (List.getElem_mem hil)
      have hnl : (mRun p s.data.toList (steps.take i)).2.length = s.size := by rw [mRun_bytes _ _ _ _ (by omega)]; simp
      have HTD := Lib.hid (fun w' => TableDo_calls (mRun p s.data.toList (steps.take i)).2 p steps[i] w' (by omega) hp hso.2.2.1 hso.2.2.2)
      have hsame := step_same (mRun p s.data.toList (steps.take i)).2 p steps[i].op steps[i].k steps[i].off steps[i].num
      have hhow := sStep_how (mRun p s.data.toList (steps.take i)).2 p steps[i].op steps[i].k steps[i].off steps[i].num
      have hrun := mRun_take p s.data.toList steps i hil
      unfold stepSt at hrun
      have HSM := Lib.hid hsame
      have HRUN := Lib.hid hrun
      obtain ⟨st, hst⟩ : ∃ st, st = steps[i] := ⟨_, rfl⟩
      rw [← hst] at hcs hso HTD HSM HRUN hhow
      have s0 : wr.cell? ⟨g, o + i * 4, none⟩ = some (.int .u8 st.op) := hcs 0 _ rfl
      have s1 : wr.cell? ⟨g, o + i * 4 + 1, none⟩ = some (.int .u8 st.k) := hcs 1 _ rfl
      have s2 : wr.cell? ⟨g, o + i * 4 + 2, none⟩ = some (.int .u32 st.off) := hcs 2 _ rfl
      have s3 : wr.cell? ⟨g, o + i * 4 + 3, none⟩ = some (.int .u64 st.num) := hcs 3 _ rfl
      clear hst hso hnl hsame hrun hcs hown hfr
      generalize sStep (mRun p s.data.toList (steps.take i)).2 p st.op st.k st.off st.num = res at *
      obtain ⟨a, m, how⟩ := res
      unfold tdV stepC at HTD
      have hhow2 : how ≤ 2 := hhow
      clear hhow
      have hcase : (stops st.op how = false ∧ (how = 0 ∨ (how = 1 ∧ (st.op == 9) = false ∧ (st.op == 10) = false))) ∨ (how = 2 ∨ (how = 1 ∧ (st.op == 9) = true) ∨ (how = 1 ∧ (st.op == 9) = false ∧ (st.op == 10) = true)) := by
        have : how = 0 ∨ how = 1 ∨ how = 2 := by omega
        rcases this with rfl | rfl | rfl
        · exact .inl ⟨rfl, .inl rfl⟩
        · cases h9 : (st.op == 9)
          · cases h10 : (st.op == 10)
            · exact .inl ⟨by simp [stops, h9, h10], .inr ⟨rfl, rfl, rfl⟩⟩
            · exact .inr (.inr (.inr ⟨rfl, rfl, rfl⟩))
          · exact .inr (.inr (.inl ⟨rfl, rfl⟩))
        · exact .inr (.inl rfl)
      rcases hcase with ⟨hst, hc⟩ | hc
      · have HSM2 := Lib.hid (HSM.out hst)
        clear hst
        rcases hc with rfl | ⟨rfl, h9, h10⟩
        all_goals
          go_wp2_with fail
          refine (HTD.out _).mono ?_
          rintro e w3 ⟨rfl, hf3⟩
          have hb3 := (hf3.block wr.heap.size (by simp) (fun x => x)).trans (heap_alloc_new wr _)
          have e0 : ∀ o, (w3.alloc o).cell? ⟨wr.heap.size, 0, none⟩ = some (.int .u8 st.op) := fun o => by rw [cell_of ((heap_alloc_old w3 o _ (lt_of_block hb3)).trans hb3)]; rfl
          have hfw := ((Fr.refl (fun _ : Nat => False) wr).alloc (.cells #[.int .u8 st.op, .int .u8 st.k, .int .u32 st.off, .int .u64 st.num] 35)).trans hf3
          have hown := Fr0.own HOWN.out hfw
          have HFW := Lib.hid (HF.out.trans hfw)
          have hsz3 := hfw.size
          have hszw := HF.out.size
          have HSW : RowKit.Hid (w.heap.size ≤ w3.heap.size) := Lib.hid (by omega)
          clear hb3 hf3 hfw hsz3 hszw
          unfold ansC
          go_wp2_with (at_builtin; refine wpList_append_own _ rfl (.tmp 70) (.tmp 72) 41 rfl w.heap.size 31 i0 (.agg #[.int .u64 0, .string ⟨#[]⟩, .bool false, .bool false]) 4 32 Tryz.underlying41 hi hz0 hz1 hz2 rfl (by decide) _ _ _ rfl ((hown.alloc _).alloc _) ⟨w3.heap.size + 1, 0, none⟩ 1 1 (ansC a) rfl rfl (ansCellS' _ _ _ _ _ _ (by simp)) (by intro u hu; simp [ansC] at hu; rcases hu with rfl | rfl | rfl | rfl <;> rfl) (by unfold maxLen; omega) (by omega) (by have := HSW.out; simp; omega) ?_; intro v3 w4 hown4 hgrow4 hnil4)
          go_roundw
          case rel =>
            have hma := HSM2.out
            have hrun := HRUN.out
            rw [hma] at hrun
            have hgf : Fr (fun k => some k = Value.ownBlock _) w3 w4 := Fr.trans2 (S := fun k => some k = Value.ownBlock _) (((Fr.refl _ w3).alloc _).alloc _) (grown_fr hgrow4) (fun _ _ e => e)
            refine ⟨i + 1, by omega, by go_num, rfl, by rw [hrun], HFW.out.trans2 hgf (fun k hk e => by have := (HOWN.out.lt k e.symm).1; omega), ?_⟩
            · rw [hrun]
              show World.ownsRow _ _ _ _ _ _ (List.flatMap ansC (_ ++ [_]))
              rw [List.flatMap_append]
              simpa using hown4
          case measure => simp [intOf]; omega
      · have hsl := fun w => run_slice_to4 g o n cap .i64 i i rfl (by omega) w
        have hmn : i ≤ steps.length := by omega
        have hm30 : i ≤ 30 := by omega
        rcases hc with rfl | ⟨rfl, h9⟩ | ⟨rfl, h9, h10⟩
        all_goals
          go_wp2_with fail
          refine (HTD.out _).mono ?_
          rintro e w3 ⟨rfl, hf3⟩
          have hb3 := (hf3.block wr.heap.size (by simp) (fun x => x)).trans (heap_alloc_new wr _)
          have e0 : ∀ o, (w3.alloc o).cell? ⟨wr.heap.size, 0, none⟩ = some (.int .u8 st.op) := fun o => by rw [cell_of ((heap_alloc_old w3 o _ (lt_of_block hb3)).trans hb3)]; rfl
          have hfw := (((Fr.refl (fun _ : Nat => False) wr).alloc (.cells #[.int .u8 st.op, .int .u8 st.k, .int .u32 st.off, .int .u64 st.num] 35)).trans hf3)
          have hfw2 := fun o => hfw.alloc o
          have HRW := Lib.hid (RowAt.take ((HW.out.fr HF.out).fr (hfw2 (.cells #[.int .u64 a.num, .string (strOf a.text), .bool a.done, .bool a.pan] 31))) HN.out i (by omega))
          have hf5 := HF.out.trans (hfw2 (.cells #[.int .u64 a.num, .string (strOf a.text), .bool a.done, .bool a.pan] 31))
          have hown5 := Fr0.own HOWN.out (hfw2 (.cells #[.int .u64 a.num, .string (strOf a.text), .bool a.done, .bool a.pan] 31))
          clear hb3 hf3 hfw hfw2 HF HOWN
          have HF := Lib.hid hf5
          have HOWN := Lib.hid hown5
          clear hf5 hown5
          unfold ansC
          go_wp2_with fail
          clear e0
          generalize World.alloc w3 (.cells #[.int .u64 a.num, .string (strOf a.text), .bool a.done, .bool a.pan] 31) = wb at *
          have hml : (mRun (p : Nat) s.data.toList (steps.take i)).1.length = i := mRun_len _ _ _ _ (by omega)
          have htl : (steps.take i).length = i := by rw [List.length_take]; omega
          have HML := Lib.hid hml
          have hmok : ∀ x ∈ steps.take i, x.num < 2 ^ 64 := fun x hx => (HOK.out x (List.mem_of_mem_take hx)).2.2.2
          have HTO := Lib.hid (tableTo_calls (.slice (some ⟨g, o, none⟩) i cap) (steps.take i) wb (by rw [htl]; exact HRW.out) (by rw [htl]; omega))
          have HRN := Lib.hid (fun r w' h => TableRun_calls s p r (steps.take i) w' (by omega) (by omega) h (by rw [htl]; omega) hmok)
          rw [htl] at HTO HRN
          rw [hml] at HRN
          clear hml htl hmok
          generalize mRun p s.data.toList (steps.take i) = run at *
          obtain ⟨al, now⟩ := run
          refine HTO.out.mono ?_
          rintro e w1 ⟨r, rfl, hown1, hf1⟩
          have HRN2 := Lib.hid (HRN.out r w1 ⟨hown1.1, hown1.2.imp id (fun ⟨g, cap, cur, e1, e2, e3⟩ => ⟨g, cap, cur, e1, Nat.zero_le _, e3⟩)⟩)
          have HF1 := Lib.hid hf1
          clear hown1 hf1
          go_wp2_with fail
          refine HRN2.out.mono ?_
          rintro e w2 ⟨r2, rfl, hown2, hf2⟩
          have hv2 : ∃ ao2 cap2, r2 = .slice ao2 i cap2 := by
            rcases hown2.2 with ⟨rfl, h⟩ | ⟨g, cap, _, rfl, _⟩
            · exact ⟨none, 0, by rw [h]⟩
            · exact ⟨_, cap, rfl⟩
          have hv3 : ∃ ao3 cap3, u7 = .slice ao3 i cap3 := by
            rcases HOWN.out.2 with ⟨rfl, h⟩ | ⟨g, cap, _, rfl, _⟩
            · exact ⟨none, 0, by rw [h]⟩
            · exact ⟨_, cap, rfl⟩
          obtain ⟨ao2, cap2, rfl⟩ := hv2
          obtain ⟨ao3, cap3, rfl⟩ := hv3
          have HG := Lib.hid hown2
          have HFW := Lib.hid (HF.out.trans (HF1.out.trans hf2))
          have HWT := Lib.hid (Fr0.own HOWN.out (HF1.out.trans hf2))
          clear hown2 hf2
          go_wp2_with fail
          go_loopw [96] (fun iv wr => ∃ j : Nat, j ≤ i ∧ iv = .int .i64 j ∧ Fr0 w2 wr) (fun iv _ => i - (intOf iv).toNat)
          case atStart => exact ⟨0, Nat.zero_le _, rfl, Fr.refl _ _⟩
          case round =>
            obtain ⟨j, hj1, rfl, hfr⟩ := hrel
            have HFR := Lib.hid hfr
            by_cases hjt : j < i
            · have hja : j < al.length := by have : al.length = i := HML.out; omega
              have hg0 := Fr0.own HG.out hfr
              have hw0 := Fr0.own HWT.out hfr
              have hmal : i = al.length := HML.out.symm
              rw [hmal] at hg0 hw0
              obtain ⟨g, cap', hv, hgl, hcs⟩ := own_cells (f := ansC) (fun _ => rfl) hg0 hja
              injection hv with hv1 hv2 hv3
              obtain ⟨g', cap'', hv', hgl', hcs'⟩ := own_cells (f := ansC) (fun _ => rfl) hw0 hja
              injection hv' with hv1' hv2' hv3'
              subst hv1 hv3 hv1' hv3'
              clear hv2 hv2' hmal hg0 hw0
              generalize al[j] = a at *
              have c0 : wr.cell? ⟨g, j * 4, none⟩ = some (.int .u64 a.num) := hcs 0 (by omega)
              have c1 : wr.cell? ⟨g, j * 4 + 1, none⟩ = some (.string (strOf a.text)) := hcs 1 (by omega)
              have c2 : wr.cell? ⟨g, j * 4 + 2, none⟩ = some (.bool a.done) := hcs 2 (by omega)
              have c3 : wr.cell? ⟨g, j * 4 + 3, none⟩ = some (.bool a.pan) := hcs 3 (by omega)
              have d0 : ∀ o, (wr.alloc o).cell? ⟨g', j * 4, none⟩ = some (.int .u64 a.num) := fun o => (Fr.cell ((Fr.refl (fun _ : Nat => False) wr).alloc o) (p := ⟨g', j * 4, none⟩) hgl' (fun x => x)).trans (hcs' 0 (by omega))
              have d1 : ∀ o, (wr.alloc o).cell? ⟨g', j * 4 + 1, none⟩ = some (.string (strOf a.text)) := fun o => (Fr.cell ((Fr.refl (fun _ : Nat => False) wr).alloc o) (p := ⟨g', j * 4 + 1, none⟩) hgl' (fun x => x)).trans (hcs' 1 (by omega))
              have d2 : ∀ o, (wr.alloc o).cell? ⟨g', j * 4 + 2, none⟩ = some (.bool a.done) := fun o => (Fr.cell ((Fr.refl (fun _ : Nat => False) wr).alloc o) (p := ⟨g', j * 4 + 2, none⟩) hgl' (fun x => x)).trans (hcs' 2 (by omega))
              have d3 : ∀ o, (wr.alloc o).cell? ⟨g', j * 4 + 3, none⟩ = some (.bool a.pan) := fun o => (Fr.cell ((Fr.refl (fun _ : Nat => False) wr).alloc o) (p := ⟨g', j * 4 + 3, none⟩) hgl' (fun x => x)).trans (hcs' 3 (by omega))
              clear hcs hcs' hfr
              go_wp2_with fail
              go_quiet (fail)
              go_wp2_with fail
              go_roundw
              case rel =>
                exact ⟨j + 1, by omega, by go_num, (HFR.out.alloc _).drewN _⟩
              case measure => simp [intOf]; omega
            · go_wp2_with (go_at_call 9; refine (tableAwake_calls _).mono ?_; rintro e w5 ⟨rfl, hf5⟩)
              go_ret
              exact ⟨rfl, Fr0.below ((HFW.out.trans HFR.out).trans hf5)⟩
    · obtain rfl : i = n := by omega
      have hrw := HW.out.fr hfr
      have HRW : RowKit.Hid (RowAt wr (.slice ao i cap) i ((steps.take i).flatMap stepC)) := Lib.hid (by rw [List.take_of_length_le (by have := HN.out; omega)]; exact hrw)
      have hmn : i ≤ steps.length := by have := HN.out; omega
      have hm30 : i ≤ 30 := by omega
      clear hrw hown hfr hlt hi1
      go_wp2_with fail
      have hml : (mRun (p : Nat) s.data.toList (steps.take i)).1.length = i := mRun_len _ _ _ _ (by omega)
      have htl : (steps.take i).length = i := by rw [List.length_take]; omega
      have HML := Lib.hid hml
      have hmok : ∀ x ∈ steps.take i, x.num < 2 ^ 64 := fun x hx => (HOK.out x (List.mem_of_mem_take hx)).2.2.2
      have HTO := Lib.hid (tableTo_calls (.slice ao i cap) (steps.take i) wr (by rw [htl]; exact HRW.out) (by rw [htl]; omega))
      have HRN := Lib.hid (fun r w' h => TableRun_calls s p r (steps.take i) w' (by omega) (by omega) h (by rw [htl]; omega) hmok)
      rw [htl] at HTO HRN
      rw [hml] at HRN
      clear hml htl hmok
      generalize mRun p s.data.toList (steps.take i) = run at *
      obtain ⟨al, now⟩ := run
      refine HTO.out.mono ?_
      rintro e w1 ⟨r, rfl, hown1, hf1⟩
      have HRN2 := Lib.hid (HRN.out r w1 ⟨hown1.1, hown1.2.imp id (fun ⟨g, cap, cur, e1, e2, e3⟩ => ⟨g, cap, cur, e1, Nat.zero_le _, e3⟩)⟩)
      have HF1 := Lib.hid hf1
      clear hown1 hf1
      go_wp2_with fail
      refine HRN2.out.mono ?_
      rintro e w2 ⟨r2, rfl, hown2, hf2⟩
      have hv2 : ∃ ao2 cap2, r2 = .slice ao2 i cap2 := by
        rcases hown2.2 with ⟨rfl, h⟩ | ⟨g, cap, _, rfl, _⟩
        · exact ⟨none, 0, by rw [h]⟩
        · exact ⟨_, cap, rfl⟩
      have hv3 : ∃ ao3 cap3, u7 = .slice ao3 i cap3 := by
        rcases HOWN.out.2 with ⟨rfl, h⟩ | ⟨g, cap, _, rfl, _⟩
        · exact ⟨none, 0, by rw [h]⟩
        · exact ⟨_, cap, rfl⟩
      obtain ⟨ao2, cap2, rfl⟩ := hv2
      obtain ⟨ao3, cap3, rfl⟩ := hv3
      have HG := Lib.hid hown2
      have HFW := Lib.hid (HF.out.trans (HF1.out.trans hf2))
      have HWT := Lib.hid (Fr0.own HOWN.out (HF1.out.trans hf2))
      clear hown2 hf2
      go_wp2_with fail
      go_loopw [96] (fun iv wr => ∃ j : Nat, j ≤ i ∧ iv = .int .i64 j ∧ Fr0 w2 wr) (fun iv _ => i - (intOf iv).toNat)
      case atStart => exact ⟨0, Nat.zero_le _, rfl, Fr.refl _ _⟩
      case round =>
        obtain ⟨j, hj1, rfl, hfr⟩ := hrel
        have HFR := Lib.hid hfr
        by_cases hjt : j < i
        · have hja : j < al.length := by have : al.length = i := HML.out; omega
          have hg0 := Fr0.own HG.out hfr
          have hw0 := Fr0.own HWT.out hfr
          have hmal : i = al.length := HML.out.symm
          rw [hmal] at hg0 hw0
          obtain ⟨g, cap', hv, hgl, hcs⟩ := own_cells (f := ansC) (fun _ => rfl) hg0 hja
          injection hv with hv1 hv2 hv3
          obtain ⟨g', cap'', hv', hgl', hcs'⟩ := own_cells (f := ansC) (fun _ => rfl) hw0 hja
          injection hv' with hv1' hv2' hv3'
          subst hv1 hv3 hv1' hv3'
          clear hv2 hv2' hmal hg0 hw0
          generalize al[j] = a at *
          have c0 : wr.cell? ⟨g, j * 4, none⟩ = some (.int .u64 a.num) := hcs 0 (by omega)
          have c1 : wr.cell? ⟨g, j * 4 + 1, none⟩ = some (.string (strOf a.text)) := hcs 1 (by omega)
          have c2 : wr.cell? ⟨g, j * 4 + 2, none⟩ = some (.bool a.done) := hcs 2 (by omega)
          have c3 : wr.cell? ⟨g, j * 4 + 3, none⟩ = some (.bool a.pan) := hcs 3 (by omega)
          have d0 : ∀ o, (wr.alloc o).cell? ⟨g', j * 4, none⟩ = some (.int .u64 a.num) := fun o => (Fr.cell ((Fr.refl (fun _ : Nat => False) wr).alloc o) (p := ⟨g', j * 4, none⟩) hgl' (fun x => x)).trans (hcs' 0 (by omega))
          have d1 : ∀ o, (wr.alloc o).cell? ⟨g', j * 4 + 1, none⟩ = some (.string (strOf a.text)) := fun o => (Fr.cell ((Fr.refl (fun _ : Nat => False) wr).alloc o) (p := ⟨g', j * 4 + 1, none⟩) hgl' (fun x => x)).trans (hcs' 1 (by omega))
          have d2 : ∀ o, (wr.alloc o).cell? ⟨g', j * 4 + 2, none⟩ = some (.bool a.done) := fun o => (Fr.cell ((Fr.refl (fun _ : Nat => False) wr).alloc o) (p := ⟨g', j * 4 + 2, none⟩) hgl' (fun x => x)).trans (hcs' 2 (by omega))
          have d3 : ∀ o, (wr.alloc o).cell? ⟨g', j * 4 + 3, none⟩ = some (.bool a.pan) := fun o => (Fr.cell ((Fr.refl (fun _ : Nat => False) wr).alloc o) (p := ⟨g', j * 4 + 3, none⟩) hgl' (fun x => x)).trans (hcs' 3 (by omega))
          clear hcs hcs' hfr
          go_wp2_with fail
          go_quiet (fail)
          go_wp2_with fail
          go_roundw
          case rel =>
            exact ⟨j + 1, by omega, by go_num, (HFR.out.alloc _).drewN _⟩
          case measure => simp [intOf]; omega
        · go_wp2_with (go_at_call 9; refine (tableAwake_calls _).mono ?_; rintro e w5 ⟨rfl, hf5⟩)
          go_ret
          exact ⟨rfl, Fr0.below ((HFW.out.trans HFR.out).trans hf5)⟩
end Go.Proofs.YtjfgippolckaeaaGreat
