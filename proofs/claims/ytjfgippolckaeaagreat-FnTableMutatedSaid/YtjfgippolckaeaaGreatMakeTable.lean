/- spec.MakeTable: a table that is made by the format. -/
import Derived.Test.YtjfgippolckaeaaGreatMakeM
import Derived.Test.YtjfgippolckaeaaGreatRegInv3
namespace Go.Proofs.YtjfgippolckaeaaGreat
open Go.RowKit
set_option linter.unusedVariables false
set_option linter.unusedSimpArgs false

theorem infoI64 : (Tryz.prog.info? 3).map (fun i => (i.zero, i.size, i.bytes)) = some (some (.int .i64 0), 1, 8) := by kernel_rfl
theorem results_tmp3 {fn : Func} {p u v : Tmp} (h : fn.results = #[.tmp p, .tmp u, .tmp v]) (tmps : Array Value) (P : Program) (w : World) :
    (results fn tmps).run P w = .ok (.tuple #[tmps.getD p undef, tmps.getD u undef, tmps.getD v undef]) w := by
  simp only [results, h]
  simp [Sem.run_bind, Result.andThen]
theorem mod_int (a b z : Nat) : (((a + b : Nat) : Int) % ((z : Nat) : Int)) = (((a + b) % z : Nat) : Int) := by simp
def strLen : Value → Nat | .string s => s.size | _ => 0
theorem str_one (l : List UInt8) (b : UInt8) (j : Nat) (B : List UInt8) (h : l = B ++ List.replicate j b) : strOf l ++ (⟨#[b]⟩ : ByteArray) = strOf (B ++ List.replicate (j + 1) b) := by
  subst h
  have e : (⟨#[b]⟩ : ByteArray) = strOf [b] := rfl
  rw [e, str_add, List.append_assoc, List.replicate_succ']
theorem ne_zero_int (x : Nat) (h : x ≠ 0) : (((x : Nat) : Int) != 0) = true := by simp; omega
theorem str_drop4 (B : List UInt8) : (strOf B).extract 4 B.length = strOf (B.drop 4) := by
  apply ByteArray.ext
  simp [strOf]
  exact List.take_of_length_le (by simp)
theorem str_quad (a b c : List UInt8) : ((strOf a ++ (⟨#[0, 0, 0, 0]⟩ : ByteArray)) ++ strOf b) ++ strOf c = strOf (a ++ [0, 0, 0, 0] ++ b ++ c) := by
  have e : (⟨#[0, 0, 0, 0]⟩ : ByteArray) = strOf [0, 0, 0, 0] := rfl
  rw [e, str_add, str_add, str_add]
theorem strLen_rep (B : List UInt8) (j : Nat) (b : UInt8) : strLen (.string (strOf (B ++ List.replicate j b))) = B.length + j := by
  show (strOf _).size = _
  rw [strOf_size]; simp

set_option maxRecDepth 20000 in
set_option maxHeartbeats 16000000 in
theorem MakeTable_calls (ao : Option Addr) (n cap : Nat) (fs : List Fld) (more : Nat) (behind : Bool) (w : World) (hrow : RowAt w (.slice ao n cap) n (fs.flatMap fldC)) (hlen : fs.length = n) (hok : ∀ x ∈ fs, FldOk x) (hn : n ≤ 2147483647) (hmore : more < 256) :
    Calls Tryz.prog 8 #[.slice ao n cap, .int .u8 more, .bool behind] w fun e w' => e = .returned (mkV (mkTable fs more behind)) ∧ Fr0 w w' := by
  obtain ⟨i0, hi, hz0, hz1, hz2⟩ := info_parts infoI64
  have hmk := run_make (P := Tryz.prog) w 61 3 i0 (.int .i64 0) Tryz.underlying61 hi hz0 .i64 .i64 n n (by omega) (by omega) (by rw [hz2]; omega) (by omega)
  rw [hz1] at hmk
  simp only [Int.toNat_natCast, Nat.mul_one, Value.cells] at hmk
  have e0 : madeCells #[Value.int .i64 0] n = (slotCells [] n).toArray := by
    apply Array.toList_inj.1; rw [toList_madeCells_one]; simp [slotCells]
  rw [e0] at hmk
  clear e0 hz0 hz1 hz2 hi
  have HW := Lib.hid hrow
  have HOK := Lib.hid hok
  have HN := Lib.hid hlen
  clear hrow hlen hok
  go_enter Tryz.func8, Tryz.ntmps8
  go_wp2_with fail
  go_loopw [9, 24] (fun bv iv wr => ∃ i : Nat, i ≤ n ∧ iv = .int .i64 i ∧ ∃ st, mkFields (fs.take i) = some st ∧ bv = .string (strOf st.1) ∧ Fr0 w wr ∧ wr.heap[w.heap.size]? = some (.cells (slotCells st.2 n).toArray 3))
    (fun _ iv _ => n - (intOf iv).toNat)
  case atStart => exact ⟨0, Nat.zero_le _, rfl, ([0, 0, 0, 0], []), rfl, rfl, (Fr.refl _ w).alloc _, heap_alloc_new _ _⟩
  case round =>
    obtain ⟨i, hi1, rfl, ⟨b, sl⟩, hst, rfl, hfr, hsb⟩ := hrel
    have HF := Lib.hid hfr
    have HSB := Lib.hid hsb
    have HST := Lib.hid hst
    have hbl := mkFields_len i (by have := HN.out; omega) _ hst
    have hbl1 : b.length ≤ 4 + 23 * i := hbl.1
    have hbl2 : sl.length = i := hbl.2.1
    have hbl3 : 4 ≤ b.length := hbl.2.2
    clear hbl
    by_cases hlt : i < n
    · have hil : i < fs.length := by have := HN.out; omega
      have hrw := HW.out.fr hfr
      rw [← HN.out] at hrw
      obtain ⟨g, o, cap', hv, hgl, hcs⟩ := row_cells (f := fldC) (fun _ => rfl) hrw hil
      injection hv with hv1 hv2 hv3
      subst hv1 hv3
      have hso := HOK.out _ (List.getElem_mem hil)
      have hmt := mkFields_take fs i hil
      rw [hst, Option.bind_some] at hmt
      clear hv2 hrw hst
      obtain ⟨f, hf⟩ : ∃ f, f = fs[i] := ⟨_, rfl⟩
      rw [← hf] at hcs hso hmt
      clear hf
      have HMT := Lib.hid hmt
      have s0 : wr.cell? ⟨g, o + i * 4, none⟩ = some (.bool f.has) := hcs 0 _ rfl
      have s1 : wr.cell? ⟨g, o + i * 4 + 1, none⟩ = some (.int .u8 f.k) := hcs 1 _ rfl
      have s2 : wr.cell? ⟨g, o + i * 4 + 2, none⟩ = some (.int .u64 f.num) := hcs 2 _ rfl
      have s3 : wr.cell? ⟨g, o + i * 4 + 3, none⟩ = some (.int .u8 f.gap) := hcs 3 _ rfl
      have hw0 : w.heap.size < wr.heap.size := lt_of_block hsb
      clear hmt hcs hfr hsb
      obtain ⟨fh, fk, fn, fg⟩ := f
      dsimp only at s0 s1 s2 s3
      cases fh with
      | false =>
        have hmf : mkField (b, sl) ⟨false, fk, fn, fg⟩ = some (b, sl ++ [0]) := by simp [mkField]
        rw [hmf] at HMT
        clear hmf
        go_wp2_with (go_at_call 17; refine (NumSize_calls _ _).mono ?_; rintro e w' ⟨rfl, rfl⟩)
        go_roundw
        case rel =>
          exact ⟨i + 1, by omega, by go_num, (b, sl ++ [0]), HMT.out, rfl, HF.out.alloc _, by rw [slotCells_zero _ _ (by omega), heap_alloc_old _ _ _ hw0]; exact HSB.out⟩
        case measure => simp [intOf]; omega
      | true =>
        have hz := numSize_le fk
        by_cases hbad : numSize fk = 0 ∨ 10 < fk
        · have hmf : mkField (b, sl) ⟨true, fk, fn, fg⟩ = none := by simp [mkField, hbad]
          rw [hmf] at HMT
          have hnone := mkFields_none fs (i + 1) (by omega) HMT.out
          have hfin : mkTable fs more behind = none := by rw [mkTable, hnone]; rfl
          have HFIN := Lib.hid hfin
          clear hmf hnone hfin
          by_cases hz0 : numSize fk = 0
          · have hb : (((numSize fk : Nat) : Int) == 0) = true := by rw [hz0]; rfl
            clear hbad hz0
            go_wp2_with (go_at_call 17; refine (NumSize_calls _ _).mono ?_; rintro e w' ⟨rfl, rfl⟩)
            exact bodyPost_ret (results_tmp3 rfl _ _ _) rfl ⟨by rw [HFIN.out]; rfl, HF.out.alloc _⟩
          · have hb : (((numSize fk : Nat) : Int) == 0) = false := by simp; omega
            have hk10 : 10 < fk := hbad.resolve_left hz0
            clear hbad hz0
            go_wp2_with (go_at_call 17; refine (NumSize_calls _ _).mono ?_; rintro e w' ⟨rfl, rfl⟩)
            exact bodyPost_ret (results_tmp3 rfl _ _ _) rfl ⟨by rw [HFIN.out]; rfl, HF.out.alloc _⟩
        · have hz0 : 0 < numSize fk := by omega
          have hb : (((numSize fk : Nat) : Int) == 0) = false := by simp; omega
          have hk10 : ¬ 10 < fk := by omega
          have hg : fg < 256 := hso.2.2
          have hnum : fn < 2 ^ 64 := hso.2.1
          clear hbad hso
          go_wp2_with (go_at_call 17; refine (NumSize_calls _ _).mono ?_; rintro e w' ⟨rfl, rfl⟩)
          go_loop [9, 46] (fun bv jv => ∃ j : Nat, j ≤ fg % 8 ∧ jv = .int .i64 j ∧ bv = .string (strOf (b ++ List.replicate j 238))) (fun _ jv => fg % 8 - (intOf jv).toNat)
          case atStart => exact ⟨0, Nat.zero_le _, rfl, by simp⟩
          case round =>
            obtain ⟨j, hj, rfl, rfl⟩ := hrel
            by_cases hlt2 : j < fg % 8
            · have hsum : ¬ 9223372036854775807 < (strOf (b ++ List.replicate j 238)).size + 1 := by rw [strOf_size]; simp; omega
              go_wp2_with fail
              exact ⟨⟨j + 1, by omega, by go_num, congrArg Value.string (str_one _ _ _ _ rfl)⟩, by simp [intOf]; omega⟩
            · obtain rfl : j = fg % 8 := by omega
              obtain ⟨B, hB⟩ : ∃ B, B = b ++ List.replicate (fg % 8) 238 := ⟨_, rfl⟩
              have hBl : B.length = b.length + fg % 8 := by rw [hB]; simp
              rw [← hB]
              have HB := Lib.hid hB
              clear hB hj hlt2
              go_wp2_with fail
              go_loop [9] (fun bv => ∃ j : Nat, j ≤ padN B.length (numSize fk) ∧ bv = .string (strOf (B ++ List.replicate j 238))) (fun bv => B.length + padN B.length (numSize fk) - strLen bv)
              case atStart => exact ⟨0, Nat.zero_le _, by simp⟩
              case round =>
                obtain ⟨j, hj, rfl⟩ := hrel
                by_cases hm : (B.length + j) % numSize fk = 0
                · have hmb : ((((strOf (B ++ List.replicate j 238)).size : Nat) : Int) % ((numSize fk : Nat) : Int) != 0) = false := by rw [strOf_size, List.length_append, List.length_replicate, mod_int, hm]; rfl
                  obtain ⟨B1, hB1⟩ : ∃ B1, B1 = B ++ List.replicate j 238 := ⟨_, rfl⟩
                  have hjp := padN_least B.length (numSize fk) j hz0 hm hj
                  have hjl := padN_lt B.length (numSize fk) hz0
                  have hB1l : B1.length = B.length + j := by rw [hB1]; simp
                  have hmf : mkField (b, sl) ⟨true, fk, fn, fg⟩ = some (B1 ++ numB fk fn, sl ++ [B1.length]) := by
                    unfold mkField
                    rw [if_pos rfl, if_neg (show ¬ (numSize fk = 0 ∨ 10 < fk) by omega)]
                    dsimp only
                    rw [← HB.out, hB1, hjp]
                  rw [hmf] at HMT
                  rw [← hB1] at hmb ⊢
                  have hsize : (strOf B1).size = B1.length := strOf_size _
                  rw [hsize] at hmb
                  have hsum : ¬ 9223372036854775807 < (strOf B1).size + (strOf (numB fk fn)).size := by rw [strOf_size, strOf_size, numB_length]; omega
                  have k0 := cell_of HSB.out i
                  rw [List.getElem?_toArray, List.getElem?_eq_getElem (by rw [slotCells_length _ _ (by omega)]; exact hlt)] at k0
                  have f0 := frozen_of HSB.out i
                  have hWB : ((wr.setCell ⟨w.heap.size, i, none⟩ (.int .i64 B1.length)).alloc (.cells #[.bool true, .int .u8 fk, .int .u64 fn, .int .u8 fg] 29)).heap[w.heap.size]? = some (.cells (slotCells (sl ++ [B1.length]) n).toArray 3) := by
                    have h := heap_setCell_same HSB.out i (.int .i64 B1.length)
                    rw [heap_alloc_old _ _ _ (by simpa [World.setCell] using hw0), h, ← slotCells_set _ _ _ (by omega), hbl2]
                    simp
                  have hWF : Fr0 w ((wr.setCell ⟨w.heap.size, i, none⟩ (.int .i64 B1.length)).alloc (.cells #[.bool true, .int .u8 fk, .int .u64 fn, .int .u8 fg] 29)) := (HF.out.setCell (fun h => absurd h (Nat.lt_irrefl _)) _).alloc _
                  have HNB := Lib.hid (fun w => NumBytes_calls fk fn w hnum)
                  have HB1L := Lib.hid hB1l
                  have HWB := Lib.hid hWB
                  have HWF := Lib.hid hWF
                  have hlw : w.heap.size < ((wr.setCell ⟨w.heap.size, i, none⟩ (.int .i64 B1.length)).alloc (.cells #[.bool true, .int .u8 fk, .int .u64 fn, .int .u8 fg] 29)).heap.size := lt_of_block hWB
                  have HLW := Lib.hid hlw
                  clear hm hjp hB1 hmf hWB hWF hB1l hBl hlw
                  go_wp2_with fail
                  refine (HNB.out _).mono ?_
                  rintro e w2 ⟨rfl, hf2⟩
                  have hfr2 := HWF.out.trans hf2
                  have hsb2 := (hf2.block w.heap.size HLW.out (fun x => x)).trans HWB.out
                  have HF2 := Lib.hid hfr2
                  have HSB2 := Lib.hid hsb2
                  clear hfr2 hsb2 hf2
                  go_wp2_with fail
                  go_roundw
                  case rel =>
                    exact ⟨i + 1, by omega, by go_num, _, HMT.out, congrArg Value.string (str_add _ _), HF2.out, HSB2.out⟩
                  case measure => simp [intOf]; omega
                · have hmb : ((((strOf (B ++ List.replicate j 238)).size : Nat) : Int) % ((numSize fk : Nat) : Int) != 0) = true := by rw [strOf_size, List.length_append, List.length_replicate, mod_int]; exact ne_zero_int _ hm
                  have hjl := padN_lt B.length (numSize fk) hz0
                  have hsum : ¬ 9223372036854775807 < (strOf (B ++ List.replicate j 238)).size + 1 := by rw [strOf_size]; simp; omega
                  have hne : j ≠ padN B.length (numSize fk) := fun e => hm (by rw [e]; exact padN_mod _ _ hz0)
                  clear hm
                  go_wp2_with fail
                  exact ⟨⟨j + 1, by omega, congrArg Value.string (str_one _ _ _ _ rfl)⟩, by rw [str_one _ _ _ _ rfl, strLen_rep, strLen_rep]; omega⟩
    · obtain rfl : i = n := by omega
      have hall : fs.take i = fs := List.take_of_length_le (by have := HN.out; omega)
      rw [hall] at HST
      clear hall hlt hi1 hfr hsb hst
      have hpl := padN_lt b.length 8 (by omega)
      go_wp2_with fail
      go_loop [9] (fun bv => ∃ j : Nat, j ≤ padN b.length 8 ∧ bv = .string (strOf (b ++ List.replicate j 238))) (fun bv => b.length + padN b.length 8 - strLen bv)
      case atStart => exact ⟨0, Nat.zero_le _, by simp⟩
      case round =>
        obtain ⟨j, hj, rfl⟩ := hrel
        have hsz : (strOf (b ++ List.replicate j 238)).size = b.length + j := by rw [strOf_size]; simp
        by_cases hm : (b.length + j) % 8 = 0
        · have hmb : ((((strOf (b ++ List.replicate j 238)).size : Nat) : Int) % 8 != 0) = false := by rw [hsz]; simp; omega
          obtain ⟨B, hB⟩ : ∃ B, B = mkBody b := ⟨_, rfl⟩
          have hjp := padN_least b.length 8 j (by omega) hm hj
          have hB2 : b ++ List.replicate j 238 = B := by rw [hB, mkBody, hjp]
          rw [hB2] at hmb hsz ⊢
          have hsz2 : (strOf B).size = B.length := strOf_size B
          have hBl : B.length = b.length + j := by rw [← hsz2, hsz]
          have hB4 : 4 ≤ B.length := by omega
          have hmt : mkTable fs more behind = if 65535 < B.length ∨ 65535 < 4 + 2 * (i + more) then none else some (mkEnd i more behind B sl) := by
            rw [mkTable, HST.out, Option.bind_some]
            dsimp only
            rw [← hB, HN.out]
          have HMT := Lib.hid hmt
          rw [hsz2] at hmb
          have HBL := Lib.hid hBl
          clear hmt hB hB2 hjp hm hj hsz hBl
          by_cases hbig : 65535 < B.length ∨ 65535 < 4 + 2 * (i + more)
          · have hfin : mkTable fs more behind = none := by rw [HMT.out, if_pos hbig]
            have HFIN := Lib.hid hfin
            clear hfin
            rcases (show 65535 < B.length ∨ (¬ 65535 < B.length ∧ 65535 < 4 + 2 * (i + more)) by omega) with hb1 | ⟨hb1, hb2⟩
            all_goals
              clear hbig
              go_wp2_with fail
              exact bodyPost_ret (results_tmp3 rfl _ _ _) rfl ⟨by rw [HFIN.out]; rfl, HF.out⟩
          · have hb1 : ¬ 65535 < B.length := by omega
            have hb2 : ¬ 65535 < 4 + 2 * (i + more) := by omega
            have hfin : mkTable fs more behind = some (mkEnd i more behind B sl) := by rw [HMT.out, if_neg hbig]
            have HFIN := Lib.hid hfin
            clear hfin hbig
            have hse : (4 + 2 * ((i : Int) + more)) = ((4 + 2 * (i + more) : Nat) : Int) := by omega
            have HSE := Lib.hid hse
            have hlo : ∀ x ∈ sl, x ≤ 65535 := fun x hx => by
              have h3 : x ≤ b.length := mkFields_slots fs.length (Nat.le_refl _) (b, sl) (by rw [List.take_length]; exact HST.out) x hx
              have := HBL.out
              omega
            have HLO := Lib.hid hlo
            clear hse hlo
            go_wp2_with fail
            rw [HSE.out]
            refine (NumBytes_calls 35 (4 + 2 * (i + more)) _ (by omega)).mono ?_
            rintro e w2 ⟨rfl, hf2⟩
            have hfa := HF.out.trans hf2
            have hsa := (hf2.block w.heap.size (lt_of_block HSB.out) (fun x => x)).trans HSB.out
            have HFA := Lib.hid hfa
            have HSA := Lib.hid hsa
            clear hfa hsa hf2
            go_wp2_with fail
            refine (NumBytes_calls 35 B.length _ (by omega)).mono ?_
            rintro e w3 ⟨rfl, hf3⟩
            have hfb := HFA.out.trans hf3
            have hsb := (hf3.block w.heap.size (lt_of_block HSA.out) (fun x => x)).trans HSA.out
            have hsum : ¬ 9223372036854775807 < (strOf (numB 35 (4 + 2 * (i + more)))).size + (strOf (numB 35 B.length)).size := by rw [strOf_size, strOf_size, numB_length, numB_length]; decide
            have HFB := Lib.hid hfb
            have HSBB := Lib.hid hsb
            clear hfb hsb hf3
            go_wp2_with fail
            clear hsum
            have HALL : RowKit.Hid ((sl ++ List.replicate more 0).length = i + more) := Lib.hid (by simp; omega)
            go_loopw [15, 104] (fun vv iv wq => ∃ q : Nat, q ≤ i + more ∧ iv = .int .i64 q ∧ vv = .string (strOf (vt0 i more B.length ++ ((sl ++ List.replicate more 0).take q).flatMap (numB 35))) ∧ Fr0 w wq ∧
                wq.heap[w.heap.size]? = some (.cells (slotCells sl i).toArray 3))
              (fun _ iv _ => i + more - (intOf iv).toNat)
            case atStart => exact ⟨0, Nat.zero_le _, rfl, congrArg Value.string (by rw [str_add]; simp [vt0]), HFB.out, HSBB.out⟩
            case round =>
              obtain ⟨q, hq, rfl, rfl, hfr, hsb⟩ := hrel
              have HFQ := Lib.hid hfr
              have HSQ := Lib.hid hsb
              have hvl : (vt0 i more B.length ++ ((sl ++ List.replicate more 0).take q).flatMap (numB 35)).length = 4 + 2 * q := by
                rw [List.length_append, vt0_length, flat35_length, List.length_take, HALL.out]; omega
              by_cases hlt : q < i + more
              · have htk : (sl ++ List.replicate more 0).take (q + 1) = (sl ++ List.replicate more 0).take q ++ [(sl ++ List.replicate more 0)[q]'(by rw [HALL.out]; exact hlt)] := List.take_succ_eq_append_getElem _
                have HTK := Lib.hid htk
                clear htk
                by_cases hqi : q < i
                · obtain ⟨x, hx⟩ : ∃ x, x = sl[q]'(by omega) := ⟨_, rfl⟩
                  have hxb : x ≤ 65535 := HLO.out x (by rw [hx]; exact List.getElem_mem _)
                  have k0 := cell_of hsb q
                  rw [List.getElem?_toArray, slotCells_get sl i q (by omega) hqi, ← hx] at k0
                  have htq : (sl ++ List.replicate more 0)[q]'(by rw [HALL.out]; exact hlt) = x := by rw [List.getElem_append_left (by omega), hx]
                  have HTQ := Lib.hid htq
                  have hsum : ¬ 9223372036854775807 < (strOf (vt0 i more B.length ++ ((sl ++ List.replicate more 0).take q).flatMap (numB 35))).size + (strOf (numB 35 x)).size := by rw [strOf_size, strOf_size, hvl, numB_length]; have : numSize 35 = 2 := rfl; omega
                  clear hx htq hfr hsb hvl
                  go_wp2_with fail
                  refine (NumBytes_calls 35 x _ (by omega)).mono ?_
                  rintro e w4 ⟨rfl, hf4⟩
                  have hfc := HFQ.out.trans hf4
                  have hsc := (hf4.block w.heap.size (lt_of_block HSQ.out) (fun x => x)).trans HSQ.out
                  have HFC := Lib.hid hfc
                  have HSC := Lib.hid hsc
                  clear hfc hsc hf4
                  go_wp2_with fail
                  go_roundw
                  case rel =>
                    exact ⟨q + 1, by omega, by go_num, congrArg Value.string ((str_add _ _).trans (congrArg strOf (by rw [HTK.out, List.flatMap_append, HTQ.out]; simp))), HFC.out, HSC.out⟩
                  case measure => simp [intOf]; omega
                · have htq : (sl ++ List.replicate more 0)[q]'(by rw [HALL.out]; exact hlt) = 0 := by rw [List.getElem_append_right (by omega)]; simp
                  have HTQ := Lib.hid htq
                  have hsum : ¬ 9223372036854775807 < (strOf (vt0 i more B.length ++ ((sl ++ List.replicate more 0).take q).flatMap (numB 35))).size + (strOf (numB 35 0)).size := by rw [strOf_size, strOf_size, hvl, numB_length]; have : numSize 35 = 2 := rfl; omega
                  clear htq hfr hsb hvl
                  go_wp2_with fail
                  refine (NumBytes_calls 35 0 _ (by omega)).mono ?_
                  rintro e w4 ⟨rfl, hf4⟩
                  have hfc := HFQ.out.trans hf4
                  have hsc := (hf4.block w.heap.size (lt_of_block HSQ.out) (fun x => x)).trans HSQ.out
                  have HFC := Lib.hid hfc
                  have HSC := Lib.hid hsc
                  clear hfc hsc hf4
                  go_wp2_with fail
                  go_roundw
                  case rel =>
                    exact ⟨q + 1, by omega, by go_num, congrArg Value.string ((str_add _ _).trans (congrArg strOf (by rw [HTK.out, List.flatMap_append, HTQ.out]; simp))), HFC.out, HSC.out⟩
                  case measure => simp [intOf]; omega
              · obtain rfl : q = i + more := by omega
                have htk : (sl ++ List.replicate more 0).take (i + more) = sl ++ List.replicate more 0 := List.take_of_length_le (by rw [HALL.out]; exact Nat.le_refl _)
                rw [htk] at hvl ⊢
                obtain ⟨V, hV⟩ : ∃ V, V = vt0 i more B.length ++ (sl ++ List.replicate more 0).flatMap (numB 35) := ⟨_, rfl⟩
                rw [← hV] at hvl ⊢
                have HV := Lib.hid hV
                have hpl := padN_lt V.length 8 (by omega)
                clear htk hV hfr hsb hlt hq
                go_wp2_with fail
                go_loop [15] (fun bv => ∃ j : Nat, j ≤ padN V.length 8 ∧ bv = .string (strOf (V ++ List.replicate j 0))) (fun bv => V.length + padN V.length 8 - strLen bv)
                case atStart => exact ⟨0, Nat.zero_le _, by simp⟩
                case round =>
                  obtain ⟨j, hj, rfl⟩ := hrel
                  have hsz : (strOf (V ++ List.replicate j 0)).size = V.length + j := by rw [strOf_size]; simp
                  by_cases hm : (V.length + j) % 8 = 0
                  · have hmb : ((((strOf (V ++ List.replicate j 0)).size : Nat) : Int) % 8 != 0) = false := by rw [hsz]; simp; omega
                    have hjp := padN_least V.length 8 j (by omega) hm hj
                    obtain ⟨T, hT⟩ : ∃ T, T = mkVt i more B.length sl := ⟨_, rfl⟩
                    have hVT : V ++ List.replicate j 0 = T := by rw [hT, mkVt, hjp]; rw [← HV.out]
                    rw [hVT] at hmb hsz ⊢
                    have hTs : (strOf T).size = T.length := strOf_size T
                    have hTl : T.length ≤ 65550 := by rw [← hTs, hsz]; omega
                    have HT := Lib.hid hT
                    rw [hTs] at hmb
                    clear hVT hjp hm hj hsz hvl hT hpl
                    cases behind with
                    | true =>
                      obtain ⟨bk, hbk⟩ : ∃ bk : Nat, bk = 4294967296 - B.length := ⟨_, rfl⟩
                      have hbk2 : ((8 : Int) - (8 + (B.length : Int))) % 4294967296 = (bk : Nat) := by omega
                      have HBK : RowKit.Hid (bk < 4294967296 ∧ B.length ≤ 65535 ∧ 4 ≤ B.length) := Lib.hid (by omega)
                      have HB4 := Lib.hid hB4
                      have HTS := Lib.hid hTs
                      have HTL := Lib.hid hTl
                      have hfin : mkTable fs more true = some (numB 34 8 ++ [0, 0, 0, 0] ++ (numB 33 bk ++ B.drop 4) ++ T, 8) := by
                        rw [HFIN.out, HT.out, hbk]; rfl
                      have HFN := Lib.hid hfin
                      clear hfin hbk
                      go_wp2_with fail
                      clear hbk2
                      refine wp_region_rows5 (by kernel_rfl) [some 133, some 134, some 135, some 136, some 137, some 138, some 9] (fun w' => Fr0 wr w') Fr0
                        (PhiZ (fun i => none) (fun i => match i with | 0 => .int .u32 bk | 1 => .int .u64 bk | 2 => .string (strOf (numB 33 bk)) | 3 => .string (strOf B) | 4 => .string (strOf (B.drop 4)) | 5 => .string (strOf (numB 33 bk ++ B.drop 4)) | _ => .string (strOf (numB 33 bk ++ B.drop 4))))
                        rfl (by decide) (by kernel_rfl) _ (fun V => by simp only [putAll, Act.put, List.setIfInBounds_toArray, List.set_cons_zero, List.set_cons_succ]; rfl) (PhiZ_keep _ _) (by kernel_rfl) ((Fr.refl _ wr).drew) ?hend ?hstep
                      case hstep =>
                        refine ⟨?_, ?_, ?_, ?_, ?_, ?_, ?_, trivial⟩
                        · intro V w' hS hV hOld K' hK
                          clear hV
                          clear hOld
                          simp only [Act.put, List.setIfInBounds_toArray, List.set_cons_zero, List.set_cons_succ] at hK
                          have HK := Lib.hid hK; clear hK
                          go_simp
                          exact HK.out _ _ hS (Fr.refl _ w') (by first | rfl | exact congrArg _ (rfl))
                        · intro V w' hS hV hOld K' hK
                          obtain ⟨h0, _⟩ := hV
                          have h0 : V 0 = .int .u32 bk := h0
                          clear hOld
                          simp only [Act.put, List.setIfInBounds_toArray, List.set_cons_zero, List.set_cons_succ, h0] at hK
                          have HK := Lib.hid hK; clear hK
                          go_simp
                          exact HK.out _ _ hS (Fr.refl _ w') (by first | rfl | exact congrArg _ (u64_nat _ (by have := HBK.out; omega)))
                        · intro V w' hS hV hOld K' hK
                          obtain ⟨h1, _⟩ := hV
                          have h1 : V 1 = .int .u64 bk := h1
                          clear hOld
                          simp only [Act.put, List.setIfInBounds_toArray, List.set_cons_zero, List.set_cons_succ, h1] at hK
                          have HK := Lib.hid hK; clear hK
                          go_simp
                          refine (NumBytes_calls 33 bk w' (by have := HBK.out; omega)).mono ?_
                          rintro e w2 ⟨rfl, hf⟩
                          exact HK.out _ _ (hS.trans hf) hf rfl
                        · intro V w' hS hV hOld K' hK
                          clear hV
                          have o6 : V 6 = .string (strOf B) := hOld 6 (by kernel_rfl)
                          clear hOld
                          simp only [Act.put, List.setIfInBounds_toArray, List.set_cons_zero, List.set_cons_succ, o6] at hK
                          have HK := Lib.hid hK; clear hK
                          go_simp
                          exact HK.out _ _ hS (Fr.refl _ w') (by first | rfl | exact congrArg _ (rfl))
                        · intro V w' hS hV hOld K' hK
                          obtain ⟨h3, _⟩ := hV
                          have h3 : V 3 = .string (strOf B) := h3
                          clear hOld
                          simp only [Act.put, List.setIfInBounds_toArray, List.set_cons_zero, List.set_cons_succ, h3] at hK
                          have HK := Lib.hid hK; clear hK
                          have hle4 : (4 : Int) ≤ (B.length : Int) := by have := HB4.out; omega
                          go_simp
                          exact HK.out _ _ hS (Fr.refl _ w') (by first | rfl | exact congrArg _ (str_drop4 B))
                        · intro V w' hS hV hOld K' hK
                          obtain ⟨h2, h4, _⟩ := hV
                          have h2 : V 2 = .string (strOf (numB 33 bk)) := h2
                          have h4 : V 4 = .string (strOf (B.drop 4)) := h4
                          clear hOld
                          simp only [Act.put, List.setIfInBounds_toArray, List.set_cons_zero, List.set_cons_succ, h2, h4] at hK
                          have HK := Lib.hid hK; clear hK
                          have hsum : ¬ (9223372036854775807 < (strOf (numB 33 bk)).size + (strOf (B.drop 4)).size) := by have := HBK.out; rw [strOf_size, strOf_size, numB_length, List.length_drop]; have : numSize 33 = 4 := rfl; omega
                          go_simp
                          exact HK.out _ _ hS (Fr.refl _ w') (congrArg Value.string (str_add _ _))
                        · intro V w' hS hV hOld K' hK
                          obtain ⟨h5, _⟩ := hV
                          have h5 : V 5 = .string (strOf (numB 33 bk ++ B.drop 4)) := h5
                          clear hOld
                          simp only [Act.put, List.setIfInBounds_toArray, List.set_cons_zero, List.set_cons_succ, h5] at hK
                          have HK := Lib.hid hK; clear hK
                          go_simp
                          exact HK.out _ _ hS (Fr.refl _ w') (by first | rfl | exact congrArg _ (rfl))
                      case hend =>
                        intro V w5 hf5 hV5
                        have h6 : V 6 = .string (strOf (numB 33 bk ++ B.drop 4)) := hV5 6 (by simp)
                        rw [h6]
                        clear hV5 h6
                        obtain ⟨C, hC⟩ : ∃ C, C = numB 33 bk ++ B.drop 4 := ⟨_, rfl⟩
                        have hCl : C.length ≤ 70000 := by rw [hC, List.length_append, numB_length, List.length_drop]; have : numSize 33 = 4 := rfl; omega
                        rw [← hC] at HFN ⊢
                        have hCs : (strOf C).size = C.length := strOf_size C
                        have hAs : (strOf (numB 34 8)).size = 4 := by rw [strOf_size, numB_length]; rfl
                        have HF5 := Lib.hid (HFQ.out.trans hf5)
                        clear hC hf5
                        go_wp2_with fail
                        refine (NumBytes_calls 34 8 _ (by omega)).mono ?_
                        rintro e w6 ⟨rfl, hf6⟩
                        go_wp2_with fail
                        exact bodyPost_ret (results_tmp3 rfl _ _ _) rfl ⟨by rw [HFN.out, mkV, ← str_quad]; rfl, HF5.out.trans hf6⟩
                    | false =>
                      have HBK : RowKit.Hid (B.length ≤ 65535 ∧ 4 ≤ B.length) := Lib.hid (by omega)
                      have HB4 := Lib.hid hB4
                      have HTS := Lib.hid hTs
                      have HTL := Lib.hid hTl
                      have hfin : mkTable fs more false = some (numB 34 (8 + T.length) ++ [0, 0, 0, 0] ++ T ++ (numB 33 T.length ++ B.drop 4), 8 + T.length) := by
                        rw [HFIN.out, HT.out]; rfl
                      have HFN := Lib.hid hfin
                      clear hfin
                      go_wp2_with fail
                      refine wp_region_rows5 (by kernel_rfl) [some 152, some 153, some 154, some 155, some 156, some 157, some 158, some 9] (fun w' => Fr0 wr w') Fr0
                        (PhiZ (fun i => none) (fun i => match i with | 0 => .string (strOf T) | 1 => .int .i64 T.length | 2 => .int .u64 T.length | 3 => .string (strOf (numB 33 T.length)) | 4 => .string (strOf B) | 5 => .string (strOf (B.drop 4)) | 6 => .string (strOf (numB 33 T.length ++ B.drop 4)) | _ => .string (strOf (numB 33 T.length ++ B.drop 4))))
                        rfl (by decide) (by kernel_rfl) _ (fun V => by simp only [putAll, Act.put, List.setIfInBounds_toArray, List.set_cons_zero, List.set_cons_succ]; rfl) (PhiZ_keep _ _) (by kernel_rfl) ((Fr.refl _ wr).drew) ?hend ?hstep
                      case hstep =>
                        refine ⟨?_, ?_, ?_, ?_, ?_, ?_, ?_, ?_, trivial⟩
                        · intro V w' hS hV hOld K' hK
                          clear hV
                          clear hOld
                          simp only [Act.put, List.setIfInBounds_toArray, List.set_cons_zero, List.set_cons_succ] at hK
                          have HK := Lib.hid hK; clear hK
                          go_simp
                          exact HK.out _ _ hS (Fr.refl _ w') (by first | rfl | exact congrArg _ (rfl))
                        · intro V w' hS hV hOld K' hK
                          obtain ⟨h0, _⟩ := hV
                          have h0 : V 0 = .string (strOf T) := h0
                          clear hOld
                          simp only [Act.put, List.setIfInBounds_toArray, List.set_cons_zero, List.set_cons_succ, h0] at hK
                          have HK := Lib.hid hK; clear hK
                          have hts := HTS.out
                          go_simp
                          exact HK.out _ _ hS (Fr.refl _ w') (by first | rfl | exact congrArg _ (rfl))
                        · intro V w' hS hV hOld K' hK
                          obtain ⟨h1, _⟩ := hV
                          have h1 : V 1 = .int .i64 T.length := h1
                          clear hOld
                          simp only [Act.put, List.setIfInBounds_toArray, List.set_cons_zero, List.set_cons_succ, h1] at hK
                          have HK := Lib.hid hK; clear hK
                          go_simp
                          exact HK.out _ _ hS (Fr.refl _ w') (by first | rfl | exact congrArg _ (u64_nat _ (by have := HTL.out; omega)))
                        · intro V w' hS hV hOld K' hK
                          obtain ⟨h2, _⟩ := hV
                          have h2 : V 2 = .int .u64 T.length := h2
                          clear hOld
                          simp only [Act.put, List.setIfInBounds_toArray, List.set_cons_zero, List.set_cons_succ, h2] at hK
                          have HK := Lib.hid hK; clear hK
                          go_simp
                          refine (NumBytes_calls 33 T.length w' (by have := HTL.out; omega)).mono ?_
                          rintro e w2 ⟨rfl, hf⟩
                          exact HK.out _ _ (hS.trans hf) hf rfl
                        · intro V w' hS hV hOld K' hK
                          clear hV
                          have o7 : V 7 = .string (strOf B) := hOld 7 (by kernel_rfl)
                          clear hOld
                          simp only [Act.put, List.setIfInBounds_toArray, List.set_cons_zero, List.set_cons_succ, o7] at hK
                          have HK := Lib.hid hK; clear hK
                          go_simp
                          exact HK.out _ _ hS (Fr.refl _ w') (by first | rfl | exact congrArg _ (rfl))
                        · intro V w' hS hV hOld K' hK
                          obtain ⟨h4, _⟩ := hV
                          have h4 : V 4 = .string (strOf B) := h4
                          clear hOld
                          simp only [Act.put, List.setIfInBounds_toArray, List.set_cons_zero, List.set_cons_succ, h4] at hK
                          have HK := Lib.hid hK; clear hK
                          have hle4 : (4 : Int) ≤ (B.length : Int) := by have := HB4.out; omega
                          go_simp
                          exact HK.out _ _ hS (Fr.refl _ w') (by first | rfl | exact congrArg _ (str_drop4 B))
                        · intro V w' hS hV hOld K' hK
                          obtain ⟨h3, h5, _⟩ := hV
                          have h3 : V 3 = .string (strOf (numB 33 T.length)) := h3
                          have h5 : V 5 = .string (strOf (B.drop 4)) := h5
                          clear hOld
                          simp only [Act.put, List.setIfInBounds_toArray, List.set_cons_zero, List.set_cons_succ, h3, h5] at hK
                          have HK := Lib.hid hK; clear hK
                          have hsum : ¬ (9223372036854775807 < (strOf (numB 33 T.length)).size + (strOf (B.drop 4)).size) := by have := HTL.out; have := HBK.out; rw [strOf_size, strOf_size, numB_length, List.length_drop]; have : numSize 33 = 4 := rfl; omega
                          go_simp
                          exact HK.out _ _ hS (Fr.refl _ w') (congrArg Value.string (str_add _ _))
                        · intro V w' hS hV hOld K' hK
                          obtain ⟨h6, _⟩ := hV
                          have h6 : V 6 = .string (strOf (numB 33 T.length ++ B.drop 4)) := h6
                          clear hOld
                          simp only [Act.put, List.setIfInBounds_toArray, List.set_cons_zero, List.set_cons_succ, h6] at hK
                          have HK := Lib.hid hK; clear hK
                          go_simp
                          exact HK.out _ _ hS (Fr.refl _ w') (by first | rfl | exact congrArg _ (rfl))
                      case hend =>
                        intro V w5 hf5 hV5
                        have h7 : V 7 = .string (strOf (numB 33 T.length ++ B.drop 4)) := hV5 7 (by simp)
                        rw [h7]
                        clear hV5 h7
                        obtain ⟨C, hC⟩ : ∃ C, C = numB 33 T.length ++ B.drop 4 := ⟨_, rfl⟩
                        have hCl : C.length ≤ 70000 := by rw [hC, List.length_append, numB_length, List.length_drop]; have : numSize 33 = 4 := rfl; omega
                        rw [← hC] at HFN ⊢
                        have hCs : (strOf C).size = C.length := strOf_size C
                        have hAs : (strOf (numB 34 (8 + T.length))).size = 4 := by rw [strOf_size, numB_length]; rfl
                        have h8 : (8 : Int) + (T.length : Int) = ((8 + T.length : Nat) : Int) := by omega
                        have H8 := Lib.hid h8
                        have HF5 := Lib.hid (HFQ.out.trans hf5)
                        clear hC hf5 h8
                        go_wp2_with fail
                        rw [H8.out]
                        refine (NumBytes_calls 34 (8 + T.length) _ (by omega)).mono ?_
                        rintro e w6 ⟨rfl, hf6⟩
                        go_wp2_with fail
                        exact bodyPost_ret (results_tmp3 rfl _ _ _) rfl ⟨by rw [HFN.out, mkV, ← str_quad]; rfl, HF5.out.trans hf6⟩
                  · have hmb : ((((strOf (V ++ List.replicate j 0)).size : Nat) : Int) % 8 != 0) = true := by rw [hsz]; simp; omega
                    have hsum : ¬ 9223372036854775807 < (strOf (V ++ List.replicate j 0)).size + 1 := by rw [hsz]; omega
                    have hne : j ≠ padN V.length 8 := fun e => hm (by rw [e]; exact padN_mod _ _ (by omega))
                    clear hm hsz
                    go_wp2_with fail
                    exact ⟨⟨j + 1, by omega, congrArg Value.string (str_one _ _ _ _ rfl)⟩, by rw [str_one _ _ _ _ rfl, strLen_rep, strLen_rep]; omega⟩
        · have hmb : ((((strOf (b ++ List.replicate j 238)).size : Nat) : Int) % 8 != 0) = true := by rw [hsz]; simp; omega
          have hsum : ¬ 9223372036854775807 < (strOf (b ++ List.replicate j 238)).size + 1 := by rw [hsz]; omega
          have hne : j ≠ padN b.length 8 := fun e => hm (by rw [e]; exact padN_mod _ _ (by omega))
          clear hm hsz
          go_wp2_with fail
          exact ⟨⟨j + 1, by omega, congrArg Value.string (str_one _ _ _ _ rfl)⟩, by rw [str_one _ _ _ _ rfl, strLen_rep, strLen_rep]; omega⟩
end Go.Proofs.YtjfgippolckaeaaGreat
