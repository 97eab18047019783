/- The Builder's CreateSharedString. -/
import Derived.Test.YtfplgggepoaajaaGreatFin
import Derived.Maps.OwnSet
namespace Go.Proofs.YtfplgggepoaajaaGreat
open Go.RowKit
set_option linter.unusedVariables false
set_option linter.unusedSimpArgs false

theorem strLaw : Maps.Keyed Tryz.prog 9 := Maps.string_keyed Tryz.underlying9
theorem zeroOff (w : World) : (zeroValue 77).run Tryz.prog w = .ok (.int .u32 0) w := by kernel_rfl
theorem ownsMap_exact {w : World} {P : Program} {k : TypeId} {R : Value → Option (DataW Unit × List MemPlace)} {b n : Nat} {D : DataW Unit} (h : w.ownsMap P k R b n D) : w.ownsMap P k R b (Maps.size D) D := by
  obtain ⟨es, clock, hb, F, hs, rfl⟩ := h
  refine ⟨es, clock, hb, F, ?_, rfl⟩
  simp [Maps.size, length_sorted]
/-- The shared strings, read; they may turn. -/
theorem BRep.shAt {w : World} {b : Nat} {F : List Nat} {st : BSt} {D : DataW Unit} (h : BRep w b F st) (hD : st.shared = some D) :
    ∃ M, w.cell? ⟨b, 8, none⟩ = some (.map (some M)) ∧ w.ownsMap Tryz.prog 9 (plainElem Tryz.prog 77) M (Maps.size D) D ∧
      ∀ w' D' n, n ≤ 1000000 → w'.ownsMap Tryz.prog 9 (plainElem Tryz.prog 77) M n D' → Fr (fun k => k = M) w w' → BRep w' b F { st with shared := some D' } ∧ Adv w w' F F := by
  obtain ⟨Y, V, G, M, r, c, rfl, hb, ho⟩ := h
  have hsh := ho.sh
  rw [hD] at hsh
  have hMb : M ≠ b := ShRep.ne_of hsh hb.hb
  have hMY : M ≠ Y := ShRep.ne_of hsh hb.hy
  have hMG : M ≠ G := by obtain ⟨cv, _, h2, _⟩ := ho.vs; exact ShRep.ne_of hsh h2
  have hMV : st.vtab ≠ none → M ≠ V := by
    intro hv
    have hvt := ho.vt
    cases hc : st.vtab with
    | none => exact absurd hc hv
    | some l => rw [hc] at hvt; obtain ⟨cv, _, h2, _⟩ := hvt; exact ShRep.ne_of hsh h2
  obtain ⟨hv8, n0, hn0, hown⟩ := hsh
  refine ⟨M, by rw [cell_of hb.hb, ← hv8]; rfl, ownsMap_exact hown, fun w' D' n hn hown' hf => ?_⟩
  refine ⟨⟨Y, V, G, M, r, c, rfl, hb.fr hf (fun e => hMb e.symm) (fun e => hMY e.symm), ⟨?_, ho.oe, ho.vs.fr hf (fun e => hMG e.symm), ho.ne, ho.fi, ⟨hv8, n, hn, hown'⟩, ho.vg⟩⟩, hf.mono (fun i _ hi => by subst hi; simp), fun k hk => .inl hk⟩
  have hvt := ho.vt
  cases hc : st.vtab with
  | none => rw [hc] at hvt; exact hvt
  | some l => rw [hc] at hvt; exact OffRow.fr hvt hf (fun e => hMV (by rw [hc]; simp) e.symm)
theorem BRep.shNew {w : World} {b : Nat} {F : List Nat} {st : BSt} (h : BRep w b F st) :
    ∃ F', BRep ((w.setCell ⟨b, 8, none⟩ (.map (some w.heap.size))).alloc (.map #[] 0)) b F' { st with shared := some (.map []) } ∧ Adv w ((w.setCell ⟨b, 8, none⟩ (.map (some w.heap.size))).alloc (.map #[] 0)) F F' := by
  obtain ⟨Y, V, G, M, r, c, rfl, hb, ho⟩ := h
  have hf : Fr (fun k => k = b) w ((w.setCell ⟨b, 8, none⟩ (.map (some w.heap.size))).alloc (.map #[] 0)) := ((Fr.refl (fun k => k = b) w).setCell (fun _ => rfl) _).alloc _
  have hsz : (w.setCell ⟨b, 8, none⟩ (.map (some w.heap.size))).heap.size = w.heap.size := by simp [World.setCell]
  have hown := World.ownsMap_made (H := Unit) (w.setCell ⟨b, 8, none⟩ (.map (some w.heap.size))) Tryz.prog 9 (plainElem Tryz.prog 77)
  rw [hsz] at hown
  have hbl := lt_of_block hb.hb
  have ho2 := ho.kept hb hf (fun k h => .inl h)
  refine ⟨[b, Y, V, G, w.heap.size], ⟨Y, V, G, w.heap.size, { r with v8 := .map (some w.heap.size) }, c, rfl, ⟨?_, ?_, hb.fit, hb.eq, hb.lim, hb.ne, hb.cap, hb.one, hb.zero⟩, ⟨ho2.vt, ho2.oe, ho2.vs, ho2.ne, ho2.fi, ⟨rfl, 0, by omega, hown⟩, ho2.vg⟩⟩, hf.mono (fun i _ hi => by subst hi; simp), fun k hk => ?_⟩
  · exact (heap_alloc_old _ _ _ (by rw [hsz]; exact hbl)).trans (heap_setCell_same hb.hb 8 _)
  · rw [heap_alloc_old _ _ _ (by rw [hsz]; exact lt_of_block hb.hy), heap_setCell_other _ _ _ _ (show Y ≠ b from fun e => hb.ne e.symm)]; exact hb.hy
  · simp only [List.mem_cons, List.not_mem_nil, or_false] at hk ⊢
    rcases hk with rfl | rfl | rfl | rfl | rfl
    · simp
    · simp
    · simp
    · simp
    · right; exact Nat.le_refl _

def numOf : DataW Unit → Nat
  | .lit (.int _ a) => a.toNat
  | _ => 0
/-- What CreateSharedString gives: a string that is there already, or a new one. -/
def BSt.sharedStr (st : BSt) (xs : List UInt8) : Option (Nat × BSt) :=
  if Maps.has (st.shared.getD (.map [])) (.string xs) then some (numOf ((st.shared.getD (.map [])).atKey (.string xs) (.lit (.int .u32 0))), { st with shared := some (st.shared.getD (.map [])) })
  else (BSt.created { st with shared := some (st.shared.getD (.map [])) } xs true).map fun p => (p.1, { p.2 with shared := some ((st.shared.getD (.map [])).put (.string xs) (.lit (.int .u32 p.1))) })
/-- A vector of bytes in front, with a zero behind it or not. -/
def BM.text (m : BM) (xs : List UInt8) : Bool → BM
  | true => (((m.prep 4 (xs.length + 1)).put [0]).put xs).put (leB 4 xs.length)
  | false => ((m.prep 4 xs.length).put xs).put (leB 4 xs.length)
theorem created_eq (st : BSt) (xs : List UInt8) (z : Bool) (hn : st.nested = false) : st.created xs z = some ((st.m.text xs z).bytes.length, { st with m := st.m.text xs z, nested := false }) := by
  unfold BSt.created BSt.create BSt.endVec
  rw [hn, if_neg (by simp)]
  cases z with
  | true =>
    have := st.m.prep_room 4 (xs.length + 1)
    rw [if_pos rfl, if_neg (by show ¬ (st.m.prep 4 (xs.length + 1)).room - 1 - xs.length < 4; omega)]
    have e : (st.m.text xs true).bytes.length = 4 + (((st.m.prep 4 (xs.length + 1)).put [0]).put xs).bytes.length := by
      show (leB 4 _ ++ _).length = _
      rw [List.length_append, leB_length]
    rw [e]; rfl
  | false =>
    have := st.m.prep_room 4 xs.length
    rw [if_pos rfl, if_neg (by show ¬ (st.m.prep 4 xs.length).room - xs.length < 4; omega)]
    have e : (st.m.text xs false).bytes.length = 4 + ((st.m.prep 4 xs.length).put xs).bytes.length := by
      show (leB 4 _ ++ _).length = _
      rw [List.length_append, leB_length]
    rw [e]; rfl
theorem created_none (st : BSt) (xs : List UInt8) (z : Bool) (hn : st.nested = true) : st.created xs z = none := by unfold BSt.created; rw [hn]; rfl
theorem BM.text_len (m : BM) (xs : List UInt8) (z : Bool) : (m.text xs z).bytes.length ≤ m.bytes.length + xs.length + 9 := by
  cases z with
  | true =>
    have := m.prep_le 4 (xs.length + 1) (by unfold algn; omega)
    show (leB 4 _ ++ (xs ++ ([0] ++ (m.prep 4 (xs.length + 1)).bytes))).length ≤ _
    simp only [List.length_append, leB_length, List.length_singleton]
    omega
  | false =>
    have := m.prep_le 4 xs.length (by unfold algn; omega)
    show (leB 4 _ ++ (xs ++ (m.prep 4 xs.length).bytes)).length ≤ _
    simp only [List.length_append, leB_length]
    omega

set_option maxRecDepth 20000 in
set_option maxHeartbeats 4000000 in
theorem CreateSharedString_calls (b : Nat) (F : List Nat) (st : BSt) (xs : List UInt8) (w : World) (h : BRep w b F st) (hx : xs.length ≤ 100000) (hu : st.m.bytes.length ≤ 1700000) (hsz : Maps.size (st.shared.getD (.map [])) ≤ 900000) :
    Calls Tryz.prog 63 #[.pointer (some ⟨b, 0, none⟩), .string (strOf xs)] w (BRes w b F (numRes (st.sharedStr xs))) := by
  have hmm := @run_makeMap Tryz.prog
  obtain ⟨D, hD⟩ : ∃ D, D = st.shared.getD (.map []) := ⟨_, rfl⟩
  have hss : st.sharedStr xs = if Maps.has D (.string xs) then some (numOf (D.atKey (.string xs) (.lit (.int .u32 0))), { st with shared := some D })
      else (BSt.created { st with shared := some D } xs true).map fun p => (p.1, { p.2 with shared := some (D.put (.string xs) (.lit (.int .u32 p.1))) }) := by
    unfold BSt.sharedStr; rw [← hD]
  obtain ⟨res, hres⟩ : ∃ res, res = st.sharedStr xs := ⟨_, rfl⟩
  rw [← hres]
  rw [← hres] at hss
  rw [← hD] at hsz
  have HSS := Lib.hid hss
  have HSZ := Lib.hid hsz
  obtain ⟨S, hS⟩ : ∃ S, S = strOf xs := ⟨_, rfl⟩
  rw [← hS]
  have hSl : S.data.toList = xs := by rw [hS]; simp [strOf]
  have hkey : keyOf Tryz.prog 9 (.string S) = some (.string xs) := by
    rw [← hSl]
    refine WideMaps.keyOf_string_mk Tryz.underlying9 ?_
    have hsl : S.size = xs.length := by rw [hS, strOf_size]
    rw [hsl]; unfold maxLen; omega
  have HKEY := Lib.hid hkey
  have HS := Lib.hid hS
  have f8 := h.frozen 8
  have hbl := h.lt
  -- the map is there
  have hthere : (st.shared = none ∧ D = .map []) ∨ st.shared = some D := by
    cases hc : st.shared with
    | none => left; exact ⟨rfl, by rw [hD, hc]; rfl⟩
    | some D' => right; rw [hD, hc]; rfl
  clear hss hsz hres hS hSl hkey hD
  rcases hthere with ⟨hno, hD0⟩ | hso
  · have hnew := h.shNew
    have c8 : w.cell? ⟨b, 8, none⟩ = some (.map none) := by
      obtain ⟨Y, V, G, M, r, c, rfl, hb, ho⟩ := h
      have hsh := ho.sh
      rw [hno] at hsh
      rw [cell_of hb.hb, ← hsh.1]; rfl
    rw [← hD0] at hnew
    have HNEW := Lib.hid hnew
    have heq := fun w => run_eql_map_nil (P := Tryz.prog) w 80 9 77 none Tryz.underlying80
    clear h hno hD0 hnew
    go_enter Tryz.func63, Tryz.ntmps63
    go_upto_region 3 with fail
    obtain ⟨F1, hb1, ha1⟩ := HNEW.out
    generalize (w.setCell ⟨b, 8, none⟩ (.map (some w.heap.size))).alloc (.map #[] 0) = w1 at *
    have HB1 := Lib.hid hb1
    have HA1 := Lib.hid ha1
    clear hb1 ha1 HNEW heq c8 f8 hmm
    obtain ⟨M, m8, hown, hturn⟩ := HB1.out.shAt (D := D) rfl
    have hw0 : (Lit.int IntKind.u32 0).wf = true := by decide
    obtain ⟨v, ps, hrun, hv⟩ := hown.look_ok strLaw Tryz.underlying80 (zeroOff w1) (plainElem_int (H := Unit) Tryz.underlying77 hw0) HKEY.out
    obtain ⟨c, rfl, hc, hwf⟩ := plainElem_int_inv Tryz.underlying77 hv
    have hc2 : D.atKey (.string xs) (.lit (.int .u32 0)) = .lit (.int .u32 c) := congrArg Prod.fst hc
    have HSS2 := HSS.out
    rw [hc2] at HSS2
    have HRES := Lib.hid HSS2
    have hc0 : 0 ≤ c := by
      have h := hwf
      simp only [Lit.wf, Bool.and_eq_true, decide_eq_true_eq] at h
      exact h.1
    clear hc hc2 hv hwf HSS2 hw0
    obtain ⟨k, rfl⟩ : ∃ k : Nat, c = k := ⟨c.toNat, by omega⟩
    clear hc0
    cases hhas : Maps.has D (.string xs) with
    | true =>
      rw [hhas] at hrun HRES
      clear hown hturn hhas
      go_wp2_with fail
      go_ret
      rw [HRES.out]
      exact ⟨rfl, F1, HB1.out, HA1.out⟩
    | false =>
      rw [hhas] at hrun HRES
      clear hown hturn hhas
      have HC := Lib.hid (CreateString_calls b F1 { st with shared := some D } xs w1 HB1.out hx hu)
      rw [← HS.out] at HC
      cases hcr : BSt.created { st with shared := some D } xs true with
      | none =>
        rw [hcr] at HC HRES
        clear hcr
        go_wp2_with fail
        refine HC.out.mono ?_
        rintro e w2 ⟨⟨u, v, rfl⟩, hf⟩
        rw [HRES.out]
        exact ⟨rfl, HA1.out.falls ⟨⟨u, v, rfl⟩, hf⟩⟩
      | some p =>
        obtain ⟨n, s⟩ := p
        rw [hcr] at HC HRES
        have hnn := (created_eq { st with shared := some D } xs true (by
          cases hne : st.nested with
          | false => rfl
          | true => rw [created_none _ _ _ (show ({ st with shared := some D } : BSt).nested = true from hne)] at hcr; cases hcr)).symm.trans hcr
        have hsh : s.shared = some D := by injection hnn with h; injection h with _ h; rw [← h]
        have hnl : n ≤ 4000000 := by
          have := BM.text_len st.m xs true
          injection hnn with h; injection h with h _
          rw [← h]; show (st.m.text xs true).bytes.length ≤ _; omega
        clear hcr hnn
        have HSH := Lib.hid hsh
        clear hsh
        go_wp2_with fail
        refine HC.out.mono ?_
        rintro e w2 ⟨rfl, F2, hb2, ha2⟩
        obtain ⟨M2, m82, hown2, hturn2⟩ := hb2.shAt HSH.out
        have HA2 := Lib.hid (HA1.out.trans ha2)
        have HT2 := Lib.hid hturn2
        have hsz2 := HSZ.out
        have hwn : (Lit.int IntKind.u32 (n : Int)).wf = true := WalkArith.wf_u32 ⟨by omega, by omega⟩
        have HWN := Lib.hid hwn
        have HOWN := Lib.hid hown2
        clear hb2 ha2 hturn2 hwn hown2 hrun m8
        go_wp2_with (at_mapUpdate; refine wpList_mapUpdate_own _ rfl _ _ _ 80 rfl 9 77 strLaw Tryz.underlying80 _ M2 (Maps.size D) D rfl HOWN.out (by unfold maxLen; omega) _ _ _ rfl rfl HKEY.out _ [] (plainElem_int (H := Unit) Tryz.underlying77 HWN.out) ?_; intro w3 hown3 hgrow3)
        obtain ⟨hb3, ha3⟩ := HT2.out w3 _ _ (by omega) hown3 ((grown_fr hgrow3).mono (fun _ _ h => by injection h))
        have HB3 := Lib.hid hb3
        have HA3 := Lib.hid (HA2.out.trans ha3)
        clear hb3 ha3 hown3 hgrow3
        go_wp2_with fail
        go_ret
        rw [HRES.out]
        exact ⟨rfl, F2, HB3.out, HA3.out⟩
  · have c8 : ∃ M, w.cell? ⟨b, 8, none⟩ = some (.map (some M)) := by
      obtain ⟨M, h8, _⟩ := h.shAt hso
      exact ⟨M, h8⟩
    obtain ⟨M0, c8⟩ := c8
    have heq := fun w => run_eql_map_nil (P := Tryz.prog) w 80 9 77 (some M0) Tryz.underlying80
    have hb0 : BRep w b F { st with shared := some D } := by rw [← hso]; exact h
    have HB0 := Lib.hid hb0
    clear h hso hb0
    go_enter Tryz.func63, Tryz.ntmps63
    go_upto_region 3 with fail
    have hb1 := HB0.out
    have ha1 : Adv w w F F := Adv.refl _ _
    have HB1 := Lib.hid hb1
    have HA1 := Lib.hid ha1
    clear hb1 ha1 heq c8 f8 hmm
    obtain ⟨M, m8, hown, hturn⟩ := HB1.out.shAt (D := D) rfl
    have hw0 : (Lit.int IntKind.u32 0).wf = true := by decide
    obtain ⟨v, ps, hrun, hv⟩ := hown.look_ok strLaw Tryz.underlying80 (zeroOff w) (plainElem_int (H := Unit) Tryz.underlying77 hw0) HKEY.out
    obtain ⟨c, rfl, hc, hwf⟩ := plainElem_int_inv Tryz.underlying77 hv
    have hc2 : D.atKey (.string xs) (.lit (.int .u32 0)) = .lit (.int .u32 c) := congrArg Prod.fst hc
    have HSS2 := HSS.out
    rw [hc2] at HSS2
    have HRES := Lib.hid HSS2
    have hc0 : 0 ≤ c := by
      have h := hwf
      simp only [Lit.wf, Bool.and_eq_true, decide_eq_true_eq] at h
      exact h.1
    clear hc hc2 hv hwf HSS2 hw0
    obtain ⟨k, rfl⟩ : ∃ k : Nat, c = k := ⟨c.toNat, by omega⟩
    clear hc0
    cases hhas : Maps.has D (.string xs) with
    | true =>
      rw [hhas] at hrun HRES
      clear hown hturn hhas
      go_wp2_with fail
      go_ret
      rw [HRES.out]
      exact ⟨rfl, F, HB1.out, HA1.out⟩
    | false =>
      rw [hhas] at hrun HRES
      clear hown hturn hhas
      have HC := Lib.hid (CreateString_calls b F { st with shared := some D } xs w HB1.out hx hu)
      rw [← HS.out] at HC
      cases hcr : BSt.created { st with shared := some D } xs true with
      | none =>
        rw [hcr] at HC HRES
        clear hcr
        go_wp2_with fail
        refine HC.out.mono ?_
        rintro e w2 ⟨⟨u, v, rfl⟩, hf⟩
        rw [HRES.out]
        exact ⟨rfl, HA1.out.falls ⟨⟨u, v, rfl⟩, hf⟩⟩
      | some p =>
        obtain ⟨n, s⟩ := p
        rw [hcr] at HC HRES
        have hnn := (created_eq { st with shared := some D } xs true (by
          cases hne : st.nested with
          | false => rfl
          | true => rw [created_none _ _ _ (show ({ st with shared := some D } : BSt).nested = true from hne)] at hcr; cases hcr)).symm.trans hcr
        have hsh : s.shared = some D := by injection hnn with h; injection h with _ h; rw [← h]
        have hnl : n ≤ 4000000 := by
          have := BM.text_len st.m xs true
          injection hnn with h; injection h with h _
          rw [← h]; show (st.m.text xs true).bytes.length ≤ _; omega
        clear hcr hnn
        have HSH := Lib.hid hsh
        clear hsh
        go_wp2_with fail
        refine HC.out.mono ?_
        rintro e w2 ⟨rfl, F2, hb2, ha2⟩
        obtain ⟨M2, m82, hown2, hturn2⟩ := hb2.shAt HSH.out
        have HA2 := Lib.hid (HA1.out.trans ha2)
        have HT2 := Lib.hid hturn2
        have hsz2 := HSZ.out
        have hwn : (Lit.int IntKind.u32 (n : Int)).wf = true := WalkArith.wf_u32 ⟨by omega, by omega⟩
        have HWN := Lib.hid hwn
        have HOWN := Lib.hid hown2
        clear hb2 ha2 hturn2 hwn hown2 hrun m8
        go_wp2_with (at_mapUpdate; refine wpList_mapUpdate_own _ rfl _ _ _ 80 rfl 9 77 strLaw Tryz.underlying80 _ M2 (Maps.size D) D rfl HOWN.out (by unfold maxLen; omega) _ _ _ rfl rfl HKEY.out _ [] (plainElem_int (H := Unit) Tryz.underlying77 HWN.out) ?_; intro w3 hown3 hgrow3)
        obtain ⟨hb3, ha3⟩ := HT2.out w3 _ _ (by omega) hown3 ((grown_fr hgrow3).mono (fun _ _ h => by injection h))
        have HB3 := Lib.hid hb3
        have HA3 := Lib.hid (HA2.out.trans ha3)
        clear hb3 ha3 hown3 hgrow3
        go_wp2_with fail
        go_ret
        rw [HRES.out]
        exact ⟨rfl, F2, HB3.out, HA3.out⟩
end Go.Proofs.YtfplgggepoaajaaGreat
