/- The Builder's Finish, FinishWithFileIdentifier, FinishedBytes. -/
import Derived.Test.YtfplgggepoaajaaGreatEnd
namespace Go.Proofs.YtfplgggepoaajaaGreat
open Go.RowKit
set_option linter.unusedVariables false
set_option linter.unusedSimpArgs false

def BSt.finish (st : BSt) (off : Nat) : Option BSt :=
  if st.nested then none else (BSt.refer { st with m := st.m.prep st.m.least 4 } off).map fun s => { s with fin := true }
theorem Finish_calls (b : Nat) (F : List Nat) (st : BSt) (off : Nat) (w : World) (h : BRep w b F st) (hl : algn st.m.least) (hu : st.m.bytes.length ≤ 1700000) (ho : off < 4294967296) :
    Calls Tryz.prog 67 #[.pointer (some ⟨b, 0, none⟩), .int .u32 off] w (BRes w b F (unitRes (st.finish off))) := by
  have HN := Lib.hid (assertNotNested_calls b F st w h)
  cases hn : st.nested with
  | true =>
    have e : st.finish off = none := by unfold BSt.finish; rw [hn]; rfl
    rw [e]
    rw [hn] at HN
    clear h hl hu hn
    go_enter Tryz.func67, Tryz.ntmps67
    go_wp2_with fail
    refine HN.out.mono ?_
    rintro e w' ⟨⟨u, v, rfl⟩, rfl⟩
    exact ⟨rfl, ⟨u, v, rfl⟩, Fr.refl _ _⟩
  | false =>
    have e : st.finish off = (BSt.refer { st with m := st.m.prep st.m.least 4 } off).map fun s => { s with fin := true } := by unfold BSt.finish; rw [hn]; rfl
    rw [e]
    rw [hn] at HN
    have c1 := h.cells.2.2.2.2
    have hle := st.m.prep_le st.m.least 4 hl
    have hl16 := algn_le hl
    have HP := Lib.hid (Prep_b b F st st.m.least 4 w h hl (by omega))
    obtain ⟨L, hL⟩ : ∃ L, L = st.m.least := ⟨_, rfl⟩
    rw [← hL] at c1 hle HP hl16 ⊢
    clear h hl hn e hL
    have hs : BSt.refer { st with m := st.m.prep L 4 } off = none ∨ ∃ s, BSt.refer { st with m := st.m.prep L 4 } off = some s := by
      cases BSt.refer { st with m := st.m.prep L 4 } off with
      | none => exact .inl rfl
      | some s => exact .inr ⟨s, rfl⟩
    rcases hs with hs | ⟨s, hs⟩
    all_goals
      rw [hs]
      have HS := Lib.hid hs
      clear hs
      go_enter Tryz.func67, Tryz.ntmps67
      go_wp2_with fail
      refine HN.out.mono ?_
      rintro e w' ⟨rfl, rfl⟩
      go_wp2_with fail
      refine HP.out.mono ?_
      rintro e w1 ⟨rfl, F1, hb1, ha1⟩
      have HC := Lib.hid (PrependUOffsetT_b b F1 _ off w1 hb1 (by show (st.m.prep L 4).bytes.length ≤ _; omega) ho)
      rw [HS.out] at HC
      have HA := Lib.hid ha1
      clear hb1 ha1
      go_wp2_with fail
      refine HC.out.mono ?_
    · rintro e w2 ⟨⟨u, v, rfl⟩, hf⟩
      exact ⟨rfl, HA.out.falls ⟨⟨u, v, rfl⟩, hf⟩⟩
    · rintro e w2 ⟨rfl, F2, hb2, ha2⟩
      have c7 := hb2.cells.2.1
      have f7 := hb2.frozen 7
      have h7 := hb2.set7 true
      have HB2 := Lib.hid h7.1
      have HA2 := Lib.hid (HA.out.trans (ha2.trans h7.2))
      clear hb2 ha2 h7
      go_wp2_with fail
      go_end0
      exact ⟨rfl, F2, HB2.out, HA2.out⟩

def BSt.finishId (st : BSt) (off : Nat) (xs : List UInt8) : Option BSt :=
  if xs.length = 4 then BSt.finish { st with m := (st.m.prep st.m.least 8).put xs } off else none
theorem leI_byte (x : UInt8) : leI 1 (x.toNat : Int) = [x] := by
  rw [leI_nat]
  have := leB_le [x]
  simp only [List.length_singleton, le, Nat.mul_zero, Nat.add_zero] at this
  exact this
theorem BM.put_put (m : BM) (xs ys : List UInt8) : (m.put ys).put xs = m.put (xs ++ ys) := by
  unfold BM.put
  simp only [List.length_append, List.append_assoc, BM.mk.injEq, and_true, true_and]
  omega
def IdR (b : Nat) (F : List Nat) (w : World) (st : BSt) (m : BM) (xs : List UInt8) (sv : Value) (i : Nat) (wr : World) : Prop :=
  ∃ F', BRep wr b F' { st with m := m.put (xs.drop i) } ∧ Adv w wr F F' ∧ Src wr F' sv xs
set_option maxHeartbeats 2000000 in
theorem FinishId_calls (b : Nat) (F : List Nat) (st : BSt) (off : Nat) (xs : List UInt8) (sv : Value) (w : World) (h : BRep w b F st) (hsv : Src w F sv xs) (hl : algn st.m.least) (hu : st.m.bytes.length ≤ 1600000) (ho : off < 4294967296) (hx : xs.length ≤ 100000) :
    Calls Tryz.prog 68 #[.pointer (some ⟨b, 0, none⟩), .int .u32 off, sv] w (BRes w b F (unitRes (st.finishId off xs))) := by
  obtain ⟨B, o, cap, hv, hB1, hB2, hB3⟩ := hsv
  have hsv : Src w F sv xs := ⟨B, o, cap, hv, hB1, hB2, hB3⟩
  obtain ⟨n, hn⟩ : ∃ n, n = xs.length := ⟨_, rfl⟩
  rw [← hn] at hv
  have hnil := fun w => Go.run_eql_slice_nil (P := Tryz.prog) w 49 5 (some ⟨B, o, none⟩) n cap Tryz.underlying49
  by_cases h4 : n = 4
  · have e : st.finishId off xs = BSt.finish { st with m := (st.m.prep st.m.least 8).put xs } off := by unfold BSt.finishId; rw [if_pos (by omega)]
    rw [e]
    have c1 := h.cells.2.2.2.2
    have hle := st.m.prep_le st.m.least 8 hl
    have hl16 := algn_le hl
    have hroom := st.m.prep_room st.m.least 8
    have HP := Lib.hid (Prep_b b F st st.m.least 8 w h hl (by omega))
    have HL := Lib.hid hl
    obtain ⟨L, hL⟩ : ∃ L, L = st.m.least := ⟨_, rfl⟩
    have hmax : ((st.m.prep L 8).put xs).least = L := by show max st.m.least L = L; omega
    rw [← hL] at c1 hle HP hl16 hroom HL
    have hst : BSt.finish { st with m := (st.m.prep st.m.least 8).put xs } off = BSt.finish { st with m := (st.m.prep L 8).put xs } off := by rw [hL]
    rw [hst]
    have HN := Lib.hid hn
    have HSV := Lib.hid hsv
    have HV := Lib.hid hv
    rw [hv]
    have HM := Lib.hid hmax
    have HR := Lib.hid hroom
    obtain ⟨res, hres⟩ : ∃ res, res = BSt.finish { st with m := (st.m.prep L 8).put xs } off := ⟨_, rfl⟩
    rw [← hres]
    have HRES := Lib.hid hres
    subst h4
    clear h hl e hL hst hn hsv hv hmax hroom hres
    have hcases : res = none ∨ ∃ s, res = some s := by
      cases res with
      | none => exact .inl rfl
      | some s => exact .inr ⟨s, rfl⟩
    have HCS := Lib.hid hcases
    clear hcases
    go_enter Tryz.func68, Tryz.ntmps68
    go_wp2_with fail
    refine HP.out.mono ?_
    rintro e w1 ⟨rfl, F1, hb1, ha1⟩
    have hI : IdR b F w st (st.m.prep L 8) xs sv 4 w1 := ⟨F1, by rw [List.drop_of_length_le (by rw [← HN.out]; exact Nat.le_refl _)]; exact hb1, ha1, HSV.out.adv ha1⟩
    have HI := Lib.hid hI
    clear hI hb1 ha1
    go_wp2_with fail
    go_loopw [6] (fun v wr => ∃ q : Int, -1 ≤ q ∧ q < 4 ∧ v = .int .i64 q ∧ IdR b F w st (st.m.prep L 8) xs sv (q + 1).toNat wr) (fun v _ => (intOf v + 1).toNat)
    case atStart => exact ⟨3, by omega, by omega, rfl, HI.out⟩
    case round =>
      obtain ⟨q, hq0, hq1, rfl, hR⟩ := hrel
      obtain ⟨F2, hb2, ha2, hs2⟩ := hR
      by_cases hneg : q < 0
      · obtain rfl : q = -1 := by omega
        have hb2' : BRep wr b F2 { st with m := (st.m.prep L 8).put xs } := hb2
        have HC := Lib.hid (Finish_calls b F2 _ off wr hb2' (by show algn ((st.m.prep L 8).put xs).least; rw [HM.out]; exact HL.out) (by show (xs ++ (st.m.prep L 8).bytes).length ≤ _; rw [List.length_append, ← HN.out]; omega) ho)
        rw [← HRES.out] at HC
        have HA := Lib.hid ha2
        clear hb2 hb2' ha2 hs2
        rcases HCS.out with hs | ⟨s, hs⟩
        all_goals
          rw [hs] at HC
          have HS := Lib.hid hs
          clear hs
          go_wp2_with fail
          refine HC.out.mono ?_
        · rintro e w2 ⟨⟨u, v, rfl⟩, hf⟩
          rw [HS.out]
          exact ⟨rfl, HA.out.falls ⟨⟨u, v, rfl⟩, hf⟩⟩
        · rintro e w2 ⟨rfl, F3, hb3, ha3⟩
          have HB3 := Lib.hid hb3
          have HA3 := Lib.hid (HA.out.trans ha3)
          clear hb3 ha3
          go_wp2_with fail
          go_end0
          rw [HS.out]
          exact ⟨rfl, F3, HB3.out, HA3.out⟩
      · obtain ⟨j, rfl⟩ : ∃ j : Nat, q = j := ⟨q.toNat, by omega⟩
        have hj : j < xs.length := by have := HN.out; omega
        obtain ⟨x, hx⟩ : ∃ x, x = xs[j] := ⟨_, rfl⟩
        have hcons : xs.drop j = x :: xs.drop (j + 1) := by rw [hx]; exact List.drop_eq_getElem_cons hj
        rw [show ((j : Int) + 1).toNat = j + 1 by omega] at hb2
        obtain ⟨B', o', cap', hv', _, _, hm'⟩ := hs2
        have hv2 := HV.out
        rw [hv'] at hv2
        have hBo : B' = B ∧ o' = o := by
          simp only [Value.slice.injEq, Option.some.injEq, Addr.mk.injEq] at hv2
          exact ⟨hv2.1.1, hv2.1.2.1⟩
        obtain ⟨rfl, rfl⟩ := hBo
        have cj : wr.cell? ⟨B', o' + j, none⟩ = some (.int .u8 x.toNat) := hm' j x (by rw [hx]; exact List.getElem?_eq_getElem hj)
        have hx0 := x.toNat_lt
        have hrm : 1 ≤ ((st.m.prep L 8).put (xs.drop (j + 1))).room := by
          show 1 ≤ (st.m.prep L 8).room - (xs.drop (j + 1)).length
          have := HR.out
          rw [List.length_drop, ← HN.out]; omega
        have HC := Lib.hid (BRep.liftP (xs := leI 1 (x.toNat : Int)) (z := 1) hb2 (by rw [leI_length]) (fun Y r c hb => PlaceByte_ok b Y r _ _ _ c (x.toNat : Int) (by omega) (by omega) wr hb hrm))
        have HA := Lib.hid ha2
        have HSS := Lib.hid (show Src wr F2 sv xs from ⟨B', o', cap', hv', ‹_›, ‹_›, hm'⟩)
        have HCN := Lib.hid hcons
        clear hb2 ha2 hm' hx hcons hrm hv' hv2 hj
        go_wp2_with fail
        refine HC.out.mono ?_
        rintro e w2 ⟨rfl, F3, hb3, ha3⟩
        have hb4 : BRep w2 b F3 { st with m := (st.m.prep L 8).put (xs.drop j) } := by
          rw [HCN.out, ← List.singleton_append, ← BM.put_put, ← leI_byte]; exact hb3
        have hR : IdR b F w st (st.m.prep L 8) xs sv j w2 := ⟨F3, hb4, HA.out.trans ha3, HSS.out.adv ha3⟩
        have HRR := Lib.hid hR
        clear hb3 hb4 ha3 hR
        go_wp2_with fail
        go_roundw
        case rel => exact ⟨(j : Int) - 1, by omega, by omega, rfl, by rw [show ((j : Int) - 1 + 1).toNat = j by omega]; exact HRR.out⟩
        case measure => simp [intOf]
  · have e : st.finishId off xs = none := by unfold BSt.finishId; rw [if_neg (by omega)]
    rw [e, hv]
    have hq1 : ((n : Int) == 4) = false := by rw [beq_eq_false_iff_ne]; omega
    have hq2 : ((n : Int) != 4) = true := by simp only [bne, hq1]; rfl
    have hq3 : (n == 4) = false := by rw [beq_eq_false_iff_ne]; omega
    have hq4 : (n != 4) = true := by simp only [bne, hq3]; rfl
    clear h hl e hn hv hB3 h4 hsv
    go_enter Tryz.func68, Tryz.ntmps68
    go_wp2_with fail
    exact ⟨rfl, ⟨_, _, rfl⟩, Fr.refl _ _⟩

theorem FinishedBytes_dies (b : Nat) (F : List Nat) (st : BSt) (w : World) (h : BRep w b F st) (hf : st.fin = false) :
    Calls Tryz.prog 70 #[.pointer (some ⟨b, 0, none⟩)] w (Falls2 (fun k => k ∈ F) w) := by
  have HA := Lib.hid (assertFinished_calls b F st w h)
  rw [hf] at HA
  clear h hf
  go_enter Tryz.func70, Tryz.ntmps70
  go_wp2_with fail
  refine HA.out.mono ?_
  rintro e w' ⟨⟨u, v, rfl⟩, rfl⟩
  exact ⟨rfl, ⟨u, v, rfl⟩, Fr.refl _ _⟩
theorem FinishedBytes_ok (b : Nat) (F : List Nat) (st : BSt) (w : World) (h : BRep w b F st) (hf : st.fin = true) :
    Calls Tryz.prog 70 #[.pointer (some ⟨b, 0, none⟩)] w fun e w' => ∃ Y o cap n, e = .returned (.slice (some ⟨Y, o, none⟩) st.m.bytes.length cap) ∧ Mem w' Y o st.m.bytes ∧ w' = w.drewN n := by
  have HA := Lib.hid (assertFinished_calls b F st w h)
  rw [hf] at HA
  obtain ⟨Y, V, G, M, r, c, rfl, hb, ho⟩ := h
  have c0 : w.cell? ⟨b, 0, none⟩ = some (.slice (some ⟨Y, 0, none⟩) (st.m.room + st.m.bytes.length) c.size) := by rw [cell_of hb.hb]; rfl
  have hfit := hb.fit
  have hlim := hb.lim
  have hsl := fun w' => run_slice_from (P := Tryz.prog) Tryz.underlying49 sizeU8b Y 0 (st.m.room + st.m.bytes.length) c.size .u32 (st.m.room : Int) st.m.room rfl (by omega) w'
  rw [show st.m.room + st.m.bytes.length - st.m.room = st.m.bytes.length by omega] at hsl
  have hmem : Mem w Y (sOff 0 st.m.room c.size) st.m.bytes := by
    by_cases hc : st.m.room < c.size
    · rw [sOff_lt hc, Nat.zero_add]; exact hb.mem
    · intro i x hx
      have := (List.getElem?_eq_some_iff.1 hx).1
      omega
  obtain ⟨o, hoo⟩ : ∃ o, o = sOff 0 st.m.room c.size := ⟨_, rfl⟩
  rw [← hoo] at hsl hmem
  obtain ⟨rm, hrm⟩ : ∃ rm, rm = st.m.room := ⟨_, rfl⟩
  obtain ⟨len, hlen⟩ : ∃ len, len = st.m.bytes.length := ⟨_, rfl⟩
  have HH := Lib.hid (fun nq => Head_calls b Y r st.m.room st.m.least st.m.bytes c (w.drewN nq) (hb.drewN nq))
  rw [← hrm] at HH
  rw [← hrm, ← hlen] at c0 hsl hfit hlim
  rw [← hlen]
  have HM := Lib.hid hmem
  clear hb ho hf hmem hoo hrm hlen
  go_enter Tryz.func70, Tryz.ntmps70
  go_wp2_with fail
  refine HA.out.mono ?_
  rintro e w' ⟨rfl, rfl⟩
  go_wp2_with fail
  go_quiet ((go_at_call 33; exact quiet_same2 (HH.out _)))
  go_wp2_with fail
  go_ret
  exact ⟨Y, o, _, _, rfl, HM.out, rfl⟩
end Go.Proofs.YtfplgggepoaajaaGreat
