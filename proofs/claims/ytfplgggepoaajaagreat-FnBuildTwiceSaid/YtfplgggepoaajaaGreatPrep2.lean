/- The Builder's Prep: room, and zeros up to a multiple. -/
import Derived.Test.YtfplgggepoaajaaGreatPrep
namespace Go.Proofs.YtfplgggepoaajaaGreat
open Go.RowKit
set_option linter.unusedVariables false
set_option linter.unusedSimpArgs false

/-- What is lacking up to a multiple. -/
def padB (u s : Nat) : Nat := (s - u % s) % s
theorem xor_neg1 (x : Nat) (hx : x < 2 ^ 62) : bits .xor .i64 (-1) (x : Int) = -(x : Int) - 1 := by
  have h2 : (BitVec.ofInt 64 (x : Int)).toNat = x := by
    rw [BitVec.ofInt_natCast, BitVec.toNat_ofNat]; exact Nat.mod_eq_of_lt (by omega)
  have h1 : BitVec.ofInt 64 (-1) = BitVec.allOnes 64 := by decide
  show IntKind.i64.wrap ((BitVec.ofInt 64 (-1) ^^^ BitVec.ofInt 64 (x : Int)).toNat : Int) = _
  rw [h1, BitVec.allOnes_xor, BitVec.toNat_not, h2, IntKind.wrap_i64]
  omega
theorem align_eq (room used add size : Nat) (hs : size = 1 ∨ size = 2 ∨ size = 4 ∨ size = 8 ∨ size = 16) (hl : used + add ≤ 2000000) :
    bits .and .i64 (wrap64 (bits .xor .i64 (-1) ((room : Int) + (used : Int) - (room : Int) + (add : Int)) + 1)) ((size : Int) - 1) = ((padB (used + add) size : Nat) : Int) := by
  have e : (room : Int) + (used : Int) - (room : Int) + (add : Int) = ((used + add : Nat) : Int) := by omega
  rw [e, xor_neg1 _ (by omega)]
  have e2 : wrap64 (-((used + add : Nat) : Int) - 1 + 1) = -((used + add : Nat) : Int) := by
    have : -((used + add : Nat) : Int) - 1 + 1 = -((used + add : Nat) : Int) := by omega
    rw [this, ← IntWalk.i64_left]
    exact IntWalk.i64_in _ (by omega)
  rw [e2]
  unfold padB
  rcases hs with rfl | rfl | rfl | rfl | rfl
  · exact and_mask (used + add) 0 (by decide)
  · exact and_mask (used + add) 1 (by decide)
  · exact and_mask (used + add) 2 (by decide)
  · exact and_mask (used + add) 3 (by decide)
  · exact and_mask (used + add) 4 (by decide)
/-- The head as it stands in memory. -/
def roomOf (w : World) (b : Nat) : Nat := match w.cell? ⟨b, 5, none⟩ with | some (.int _ q) => q.toNat | _ => 0
theorem roomOf_eq {w : World} {b Y : Nat} {r : BRest} {room least : Nat} {bytes : List UInt8} {c : Array Value} (h : BB w b Y r room least bytes c) : roomOf w b = room := by
  have c5 : w.cell? ⟨b, 5, none⟩ = some (.int .u32 room) := by rw [cell_of h.hb]; rfl
  unfold roomOf
  rw [c5]; simp

set_option maxRecDepth 20000 in
set_option maxHeartbeats 8000000 in
theorem Prep_calls (b Y : Nat) (r : BRest) (room least size add : Nat) (bytes : List UInt8) (c : Array Value) (w : World) (h : BB w b Y r room least bytes c) (hs : size = 1 ∨ size = 2 ∨ size = 4 ∨ size = 8 ∨ size = 16) (hadd : bytes.length + add ≤ 1900000) :
    Calls Tryz.prog 64 #[.pointer (some ⟨b, 0, none⟩), .int .i64 size, .int .i64 add] w fun e w' => e = .returned (.tuple #[]) ∧
      BBx w w' b Y r (prepRoom room bytes.length (padB (bytes.length + add) size + size + add) - padB (bytes.length + add) size) (max least size) (List.replicate (padB (bytes.length + add) size) 0 ++ bytes) := by
  have hlim := h.lim
  have hal := align_eq room bytes.length add size hs (by omega)
  have hpl : padB (bytes.length + add) size < 16 := by
    unfold padB
    have := Nat.mod_lt (size - (bytes.length + add) % size) (show 0 < size by omega)
    omega
  have hsz : size ≤ 16 := by omega
  have hsz0 : 0 < size := by omega
  clear hs
  generalize padB (bytes.length + add) size = pad at *
  have c1 : w.cell? ⟨b, 1, none⟩ = some (.int .i64 least) := by rw [cell_of h.hb]; rfl
  have f1 := frozen_of h.hb 1
  have hsg : IntKind.i64.signed = true := rfl
  by_cases hl : least < size
  · have hm : max least size = size := by omega
    rw [hm]
    obtain ⟨w1, hw1⟩ : ∃ w1, w1 = w.setCell ⟨b, 1, none⟩ (.int .i64 size) := ⟨_, rfl⟩
    have hf1 : Fr (fun k => k = b ∨ k = Y) w w1 := by rw [hw1]; exact (Fr.refl _ w).setCell (fun _ => .inl rfl) _
    have hb1 : BB w1 b Y r room size bytes c := by
      rw [hw1]
      exact ⟨heap_setCell_same h.hb 1 (.int .i64 size), by rw [heap_setCell_other _ _ _ _ (show Y ≠ b from fun e => h.ne e.symm)]; exact h.hy, h.fit, h.eq, h.lim, h.ne, h.cap, h.one, h.zero⟩
    have HW1 := Lib.hid hw1
    have HB := Lib.hid hb1
    have HF := Lib.hid hf1
    clear h hw1 hb1 hf1 hm
    go_enter Tryz.func64, Tryz.ntmps64
    go_wp2_with fail
    rw [← HW1.out]
    have HH := Lib.hid (fun nq => Head_calls b Y r room size bytes c (w1.drewN nq) (HB.out.drewN nq))
    have c0 : w1.cell? ⟨b, 0, none⟩ = some (.slice (some ⟨Y, 0, none⟩) (room + bytes.length) c.size) := by rw [cell_of HB.out.hb]; rfl
    go_quiet ((go_at_call 33; exact quiet_same2 (HH.out _)))
    go_wp2_with fail
    have hbn := HB.out.drewN nq
    have hfn := HF.out.drewN nq
    generalize w1.drewN nq = w2 at *
    have HB2 := Lib.hid hbn
    have HF2 := Lib.hid hfn
    clear hbn hfn c0 HB HF HH
    go_loopw [7] (fun lv wr => ∃ Y' c' room' f, (Y' = Y ∨ w.heap.size ≤ Y') ∧ BB wr b Y' r room' size bytes c' ∧ Fr (fun k => k = b ∨ k = Y) w wr ∧ prepRoom room bytes.length (pad + size + add) = roomL f room' bytes.length (pad + size + add) ∧ pad + size + add + 1 ≤ f + room')
      (fun _ wr => pad + size + add + 1 - roomOf wr b)
    case atStart => exact ⟨Y, c, room, _, .inl rfl, HB2.out, HF2.out, rfl, by omega⟩
    case round =>
      obtain ⟨Y', c', room', f, hY, hbb, hfr, hpr, hfu⟩ := hrel
      have hlim' := hbb.lim
      have HBB := Lib.hid hbb
      have HFR := Lib.hid hfr
      have HPR := Lib.hid hpr
      have HY := Lib.hid hY
      have d0 : wr.cell? ⟨b, 0, none⟩ = some (.slice (some ⟨Y', 0, none⟩) (room' + bytes.length) c'.size) := by rw [cell_of hbb.hb]; rfl
      have d5 : wr.cell? ⟨b, 5, none⟩ = some (.int .u32 room') := by rw [cell_of hbb.hb]; rfl
      clear hbb hfr hpr hY
      by_cases hlt : room' ≤ pad + size + add
      · go_wp2_with fail
        refine (grow_calls b Y' r room' size bytes c' wr HBB.out).mono ?_
        rintro e w3 ⟨rfl, Y2, c2, hb3, hy3, hfit3, hcap3, heq3, hone3, hYY, hne3, hf3⟩
        have hbl := HB2.out.lim
        obtain ⟨nl, hnl⟩ : ∃ nl, nl = newL (room' + bytes.length) := ⟨_, rfl⟩
        have hnl2 : room' + bytes.length < nl ∧ nl ≤ 4000000 := by rw [hnl]; unfold newL; split <;> omega
        rw [← hnl] at hb3 hfit3 heq3 hone3
        obtain ⟨room2, hroom2⟩ : ∃ room2, room2 = nl - bytes.length := ⟨_, rfl⟩
        have hval : ((room' : Int) + ((nl : Int) - ((room' : Int) + (bytes.length : Int)))) = ((room2 : Nat) : Int) := by omega
        have hnl3 : nl = room2 + bytes.length := by omega
        have hr2 : room' < room2 := by omega
        have a0 : w3.cell? ⟨b, 0, none⟩ = some (.slice (some ⟨Y2, 0, none⟩) nl c2.size) := by rw [cell_of hb3]; rfl
        have a5 : w3.cell? ⟨b, 5, none⟩ = some (.int .u32 room') := by rw [cell_of hb3]; rfl
        have g5 := frozen_of hb3 5
        have hb4 : ∀ nq, BB ((w3.drewN nq).setCell ⟨b, 5, none⟩ (.int .u32 (room2 : Nat))) b Y2 r room2 size bytes c2 := fun nq => by
          refine ⟨?_, ?_, by omega, ?_, by omega, hne3, hcap3, by rw [← hnl3]; exact hone3, fun h => by omega⟩
          · have := heap_setCell_same (w := w3.drewN nq) hb3 5 (.int .u32 (room2 : Nat))
            rw [← hnl3]
            exact this
          · rw [heap_setCell_other _ _ _ _ (show Y2 ≠ b from fun e => hne3 e.symm)]; exact hy3
          · rw [← hnl3]
            have h1 : room2 = (nl - (room' + bytes.length)) + room' := by omega
            rw [h1, ← List.drop_drop, heq3]
            exact HBB.out.eq
        have hf4 : ∀ nq, Fr (fun k => k = b ∨ k = Y) w ((w3.drewN nq).setCell ⟨b, 5, none⟩ (.int .u32 (room2 : Nat))) := fun nq => by
          refine HFR.out.trans2 (((hf3.drewN nq).setCell (fun _ => .inl rfl) _)) ?_
          rintro k hk (rfl | rfl)
          · exact .inl rfl
          · rcases HY.out with rfl | h
            · exact .inr rfl
            · omega
        have hY4 : Y2 = Y ∨ w.heap.size ≤ Y2 := by
          rcases hYY with rfl | h
          · exact HY.out
          · right; have := HFR.out.size; omega
        have hpr4 : prepRoom room bytes.length (pad + size + add) = roomL (f - 1) room2 bytes.length (pad + size + add) := by
          rw [HPR.out]
          obtain ⟨f', rfl⟩ : ∃ f', f = f' + 1 := ⟨f - 1, by omega⟩
          show (if room' ≤ pad + size + add then roomL f' (newL (room' + bytes.length) - bytes.length) bytes.length (pad + size + add) else room') = _
          rw [if_pos hlt, ← hnl, ← hroom2]
          rfl
        have HB4 := Lib.hid hb4
        have HF4 := Lib.hid hf4
        have HY4 := Lib.hid hY4
        have HP4 := Lib.hid hpr4
        have HR4 := Lib.hid (show pad + size + add + 1 ≤ f - 1 + room2 by omega)
        have hro := roomOf_eq HBB.out
        have HRO := Lib.hid hro
        clear hb4 hf4 hY4 hpr4 hb3 hy3 hfit3 hcap3 heq3 hone3 hYY hne3 hf3 hnl hroom2 hnl3 d0 d5 hro
        go_wp2_with fail
        refine wp_region_last' _ (by simp) (by kernel_rfl) (by kernel_rfl) (by kernel_rfl) (by kernel_rfl) (by kernel_rfl) (by kernel_rfl) ?_
        simp only [List.dropLast]
        repeat (go_big_quiet_step (fail))
        refine wpQuiet_nil ?_
        intro nq
        refine wpOp_step rfl (fun K hK => ?_)
        go_simp
        refine hK _ _ ?_
        have HB5 := Lib.hid (HB4.out nq)
        have HF5 := Lib.hid (HF4.out nq)
        have hro2 := roomOf_eq HB5.out
        generalize (w3.drewN nq).setCell ⟨b, 5, none⟩ (.int .u32 (room2 : Nat)) = w5 at *
        have HRO2 := Lib.hid hro2
        clear hro2
        go_wp2_with fail
        go_roundw
        case rel =>
          exact ⟨Y2, c2, room2, f - 1, HY4.out, HB5.out, HF5.out, HP4.out, HR4.out⟩
        case measure =>
          rw [HRO2.out, HRO.out]
          omega
      · go_wp2_with fail
        refine (Pad_calls b Y' r room' size pad bytes c' wr HBB.out (by omega)).mono ?_
        rintro e w3 ⟨rfl, ⟨c2, hb3⟩, hf3⟩
        have HB3 := Lib.hid hb3
        have HF3 := Lib.hid hf3
        clear hb3 hf3
        go_wp2_with fail
        go_end0
        have hrl : roomL f room' bytes.length (pad + size + add) = room' := by
          cases f with
          | zero => rfl
          | succ f => exact if_neg hlt
        have hpr := HPR.out
        rw [hrl] at hpr
        rw [hpr]
        refine ⟨rfl, Y', c2, HY.out, HB3.out, HFR.out.trans2 HF3.out ?_⟩
        rintro k hk (rfl | rfl)
        · exact .inl rfl
        · rcases HY.out with rfl | h
          · exact .inr rfl
          · omega
  · have hm : max least size = least := by omega
    rw [hm]
    have HB := Lib.hid h
    have HF := Lib.hid (Fr.refl (fun k => k = b ∨ k = Y) w)
    clear h hm
    go_enter Tryz.func64, Tryz.ntmps64
    go_wp2_with fail
    have HH := Lib.hid (fun nq => Head_calls b Y r room least bytes c (w.drewN nq) (HB.out.drewN nq))
    have c0 : w.cell? ⟨b, 0, none⟩ = some (.slice (some ⟨Y, 0, none⟩) (room + bytes.length) c.size) := by rw [cell_of HB.out.hb]; rfl
    go_quiet ((go_at_call 33; exact quiet_same2 (HH.out _)))
    go_wp2_with fail
    have hbn := HB.out.drewN nq
    have hfn := HF.out.drewN nq
    generalize w.drewN nq = w2 at *
    have HB2 := Lib.hid hbn
    have HF2 := Lib.hid hfn
    clear hbn hfn c0 HB HF HH
    go_loopw [7] (fun lv wr => ∃ Y' c' room' f, (Y' = Y ∨ w.heap.size ≤ Y') ∧ BB wr b Y' r room' least bytes c' ∧ Fr (fun k => k = b ∨ k = Y) w wr ∧ prepRoom room bytes.length (pad + size + add) = roomL f room' bytes.length (pad + size + add) ∧ pad + size + add + 1 ≤ f + room')
      (fun _ wr => pad + size + add + 1 - roomOf wr b)
    case atStart => exact ⟨Y, c, room, _, .inl rfl, HB2.out, HF2.out, rfl, by omega⟩
    case round =>
      obtain ⟨Y', c', room', f, hY, hbb, hfr, hpr, hfu⟩ := hrel
      have hlim' := hbb.lim
      have HBB := Lib.hid hbb
      have HFR := Lib.hid hfr
      have HPR := Lib.hid hpr
      have HY := Lib.hid hY
      have d0 : wr.cell? ⟨b, 0, none⟩ = some (.slice (some ⟨Y', 0, none⟩) (room' + bytes.length) c'.size) := by rw [cell_of hbb.hb]; rfl
      have d5 : wr.cell? ⟨b, 5, none⟩ = some (.int .u32 room') := by rw [cell_of hbb.hb]; rfl
      clear hbb hfr hpr hY
      by_cases hlt : room' ≤ pad + size + add
      · go_wp2_with fail
        refine (grow_calls b Y' r room' least bytes c' wr HBB.out).mono ?_
        rintro e w3 ⟨rfl, Y2, c2, hb3, hy3, hfit3, hcap3, heq3, hone3, hYY, hne3, hf3⟩
        have hbl := HB2.out.lim
        obtain ⟨nl, hnl⟩ : ∃ nl, nl = newL (room' + bytes.length) := ⟨_, rfl⟩
        have hnl2 : room' + bytes.length < nl ∧ nl ≤ 4000000 := by rw [hnl]; unfold newL; split <;> omega
        rw [← hnl] at hb3 hfit3 heq3 hone3
        obtain ⟨room2, hroom2⟩ : ∃ room2, room2 = nl - bytes.length := ⟨_, rfl⟩
        have hval : ((room' : Int) + ((nl : Int) - ((room' : Int) + (bytes.length : Int)))) = ((room2 : Nat) : Int) := by omega
        have hnl3 : nl = room2 + bytes.length := by omega
        have hr2 : room' < room2 := by omega
        have a0 : w3.cell? ⟨b, 0, none⟩ = some (.slice (some ⟨Y2, 0, none⟩) nl c2.size) := by rw [cell_of hb3]; rfl
        have a5 : w3.cell? ⟨b, 5, none⟩ = some (.int .u32 room') := by rw [cell_of hb3]; rfl
        have g5 := frozen_of hb3 5
        have hb4 : ∀ nq, BB ((w3.drewN nq).setCell ⟨b, 5, none⟩ (.int .u32 (room2 : Nat))) b Y2 r room2 least bytes c2 := fun nq => by
          refine ⟨?_, ?_, by omega, ?_, by omega, hne3, hcap3, by rw [← hnl3]; exact hone3, fun h => by omega⟩
          · have := heap_setCell_same (w := w3.drewN nq) hb3 5 (.int .u32 (room2 : Nat))
            rw [← hnl3]
            exact this
          · rw [heap_setCell_other _ _ _ _ (show Y2 ≠ b from fun e => hne3 e.symm)]; exact hy3
          · rw [← hnl3]
            have h1 : room2 = (nl - (room' + bytes.length)) + room' := by omega
            rw [h1, ← List.drop_drop, heq3]
            exact HBB.out.eq
        have hf4 : ∀ nq, Fr (fun k => k = b ∨ k = Y) w ((w3.drewN nq).setCell ⟨b, 5, none⟩ (.int .u32 (room2 : Nat))) := fun nq => by
          refine HFR.out.trans2 (((hf3.drewN nq).setCell (fun _ => .inl rfl) _)) ?_
          rintro k hk (rfl | rfl)
          · exact .inl rfl
          · rcases HY.out with rfl | h
            · exact .inr rfl
            · omega
        have hY4 : Y2 = Y ∨ w.heap.size ≤ Y2 := by
          rcases hYY with rfl | h
          · exact HY.out
          · right; have := HFR.out.size; omega
        have hpr4 : prepRoom room bytes.length (pad + size + add) = roomL (f - 1) room2 bytes.length (pad + size + add) := by
          rw [HPR.out]
          obtain ⟨f', rfl⟩ : ∃ f', f = f' + 1 := ⟨f - 1, by omega⟩
          show (if room' ≤ pad + size + add then roomL f' (newL (room' + bytes.length) - bytes.length) bytes.length (pad + size + add) else room') = _
          rw [if_pos hlt, ← hnl, ← hroom2]
          rfl
        have HB4 := Lib.hid hb4
        have HF4 := Lib.hid hf4
        have HY4 := Lib.hid hY4
        have HP4 := Lib.hid hpr4
        have HR4 := Lib.hid (show pad + size + add + 1 ≤ f - 1 + room2 by omega)
        have hro := roomOf_eq HBB.out
        have HRO := Lib.hid hro
        clear hb4 hf4 hY4 hpr4 hb3 hy3 hfit3 hcap3 heq3 hone3 hYY hne3 hf3 hnl hroom2 hnl3 d0 d5 hro
        go_wp2_with fail
        refine wp_region_last' _ (by simp) (by kernel_rfl) (by kernel_rfl) (by kernel_rfl) (by kernel_rfl) (by kernel_rfl) (by kernel_rfl) ?_
        simp only [List.dropLast]
        repeat (go_big_quiet_step (fail))
        refine wpQuiet_nil ?_
        intro nq
        refine wpOp_step rfl (fun K hK => ?_)
        go_simp
        refine hK _ _ ?_
        have HB5 := Lib.hid (HB4.out nq)
        have HF5 := Lib.hid (HF4.out nq)
        have hro2 := roomOf_eq HB5.out
        generalize (w3.drewN nq).setCell ⟨b, 5, none⟩ (.int .u32 (room2 : Nat)) = w5 at *
        have HRO2 := Lib.hid hro2
        clear hro2
        go_wp2_with fail
        go_roundw
        case rel =>
          exact ⟨Y2, c2, room2, f - 1, HY4.out, HB5.out, HF5.out, HP4.out, HR4.out⟩
        case measure =>
          rw [HRO2.out, HRO.out]
          omega
      · go_wp2_with fail
        refine (Pad_calls b Y' r room' least pad bytes c' wr HBB.out (by omega)).mono ?_
        rintro e w3 ⟨rfl, ⟨c2, hb3⟩, hf3⟩
        have HB3 := Lib.hid hb3
        have HF3 := Lib.hid hf3
        clear hb3 hf3
        go_wp2_with fail
        go_end0
        have hrl : roomL f room' bytes.length (pad + size + add) = room' := by
          cases f with
          | zero => rfl
          | succ f => exact if_neg hlt
        have hpr := HPR.out
        rw [hrl] at hpr
        rw [hpr]
        refine ⟨rfl, Y', c2, HY.out, HB3.out, HFR.out.trans2 HF3.out ?_⟩
        rintro k hk (rfl | rfl)
        · exact .inl rfl
        · rcases HY.out with rfl | h
          · exact .inr rfl
          · omega
end Go.Proofs.YtfplgggepoaajaaGreat
