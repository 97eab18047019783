/- What EndObject does with a Builder's state; what it reads and turns in memory. -/
import Derived.Test.YtfplgggepoaajaaGreatVtEq
import Derived.Test.YtfplgggepoaajaaGreatRegTail
import Derived.Maps.AppendAt
namespace Go.Proofs.YtfplgggepoaajaaGreat
open Go.RowKit
set_option linter.unusedVariables false
set_option linter.unusedSimpArgs false

/-- The bytes from an offset on that is counted from the end. -/
def fromEnd (l : List UInt8) (v : Nat) : List UInt8 := l.drop (l.length - v)
theorem fromEnd_length (l : List UInt8) (v : Nat) (h : v ≤ l.length) : (fromEnd l v).length = v := by unfold fromEnd; rw [List.length_drop]; omega
theorem fromEnd_append (xs l : List UInt8) (v : Nat) (h : v ≤ l.length) : fromEnd (xs ++ l) v = fromEnd l v := by
  unfold fromEnd
  rw [List.length_append, show xs.length + l.length - v = xs.length + (l.length - v) by omega, List.drop_append]
  rw [show xs.length + (l.length - v) - xs.length = l.length - v by omega, List.drop_of_length_le (by omega), List.nil_append]
def vtLen (m : BM) (v : Nat) : Nat := le ((fromEnd m.bytes v).take 2)
def vtBytes (m : BM) (v : Nat) : List UInt8 := ((fromEnd m.bytes v).take (vtLen m v)).drop 4
/-- Without the zeros at the end. -/
def trimZ (l : List Nat) : List Nat := (l.reverse.dropWhile (· == 0)).reverse
theorem trimZ_snoc_zero (l : List Nat) : trimZ (l ++ [0]) = trimZ l := by simp [trimZ]
theorem trimZ_snoc (l : List Nat) (x : Nat) (h : x ≠ 0) : trimZ (l ++ [x]) = l ++ [x] := by simp [trimZ, h]
theorem trimZ_take_zero (l : List Nat) (k : Nat) (h : k < l.length) (h0 : l[k] = 0) : trimZ (l.take (k + 1)) = trimZ (l.take k) := by
  rw [List.take_succ_eq_append_getElem h, h0, trimZ_snoc_zero]
theorem trimZ_take_stop (l : List Nat) (k : Nat) (h : k < l.length) (h0 : l[k] ≠ 0) : trimZ (l.take (k + 1)) = l.take (k + 1) := by
  rw [List.take_succ_eq_append_getElem h, trimZ_snoc _ _ h0]
/-- Bytes at an offset are other ones. -/
def BM.over (m : BM) (o : Nat) (xs : List UInt8) : BM := { m with bytes := m.bytes.take (m.bytes.length - o) ++ xs ++ m.bytes.drop (m.bytes.length - o + xs.length) }
theorem BM.over_len (m : BM) (o : Nat) (xs : List UInt8) (h : xs.length ≤ o) (ho : o ≤ m.bytes.length) : (m.over o xs).bytes.length = m.bytes.length := by
  show (m.bytes.take (m.bytes.length - o) ++ xs ++ m.bytes.drop (m.bytes.length - o + xs.length)).length = _
  simp only [List.length_append, List.length_take, List.length_drop]; omega
/-- A vtable's fields are put in front, the last one first. -/
def vtPut (o : Nat) (l : List Nat) (m : BM) : BM := l.foldr (fun (f : Nat) m => (m.prep 2 0).put (leI 2 (if f = 0 then 0 else (o : Int) - (f : Int)))) m
def vtFind (m : BM) (o : Nat) (l : List Nat) (vts : List Nat) : Option Nat := vts.reverse.find? (fun v => vtSame o l (vtBytes m v))
def BSt.vt1 (st : BSt) : BM := (st.m.prep 4 0).put (leB 4 ((st.m.prep 4 0).bytes.length + 4))
def BSt.vt4 (st : BSt) (l : List Nat) : BM := ((((vtPut st.vt1.bytes.length l st.vt1).prep 2 0).put (leI 2 ((st.vt1.bytes.length : Int) - st.oend))).prep 2 0).put (leI 2 (((l.length + 2) * 2 : Nat) : Int))
/-- What WriteVtable leaves. -/
def BSt.writeVt (st : BSt) : BSt :=
  match vtFind st.vt1 st.vt1.bytes.length (trimZ (st.vtab.getD [])) st.vts with
  | some v => { st with m := st.vt1.over st.vt1.bytes.length (leI 4 ((v : Int) - st.vt1.bytes.length)), vtab := st.vtab.map (fun _ => []) }
  | none => { st with m := (st.vt4 (trimZ (st.vtab.getD []))).over st.vt1.bytes.length (leI 4 (((st.vt4 (trimZ (st.vtab.getD []))).bytes.length : Int) - st.vt1.bytes.length)), vtab := st.vtab.map (fun _ => []), vts := st.vts ++ [(st.vt4 (trimZ (st.vtab.getD []))).bytes.length] }
def BSt.endObj (st : BSt) : Option (Nat × BSt) := if st.nested then some (st.vt1.bytes.length, { st.writeVt with nested := false }) else none

/-- What a Builder's state always is. -/
structure BInv (st : BSt) : Prop where
  vts : ∀ v ∈ st.vts, v ≤ st.m.bytes.length ∧ 4 ≤ vtLen st.m v ∧ vtLen st.m v ≤ v
  vtab : ∀ l, st.vtab = some l → l.length ≤ 1000 ∧ ∀ x ∈ l, x ≤ st.m.bytes.length
  oend : st.oend ≤ st.m.bytes.length
  many : st.vts.length ≤ 1000000

theorem vtFind_take (m : BM) (o : Nat) (l vts : List Nat) (j : Nat) (h : j < vts.length) :
    vtFind m o l (vts.take (j + 1)) = if vtSame o l (vtBytes m vts[j]) then some vts[j] else vtFind m o l (vts.take j) := by
  unfold vtFind
  rw [List.take_succ_eq_append_getElem h, List.reverse_append, List.reverse_singleton, List.singleton_append, List.find?_cons]
  cases vtSame o l (vtBytes m vts[j]) <;> rfl
theorem BSt.vt1_bytes (st : BSt) : ∃ xs, st.vt1.bytes = xs ++ st.m.bytes := ⟨leB 4 ((st.m.prep 4 0).bytes.length + 4) ++ List.replicate (st.m.pad 4 0) 0, by
  show leB 4 _ ++ (List.replicate _ _ ++ st.m.bytes) = _
  rw [List.append_assoc]⟩
theorem vtLen_app {m m' : BM} {xs : List UInt8} (h : m'.bytes = xs ++ m.bytes) (v : Nat) (hv : v ≤ m.bytes.length) : vtLen m' v = vtLen m v := by
  unfold vtLen; rw [h, fromEnd_append _ _ _ hv]
theorem vtBytes_app {m m' : BM} {xs : List UInt8} (h : m'.bytes = xs ++ m.bytes) (v : Nat) (hv : v ≤ m.bytes.length) : vtBytes m' v = vtBytes m v := by
  unfold vtBytes; rw [vtLen_app h v hv, h, fromEnd_append _ _ _ hv]

theorem vtPut_cons (o f : Nat) (l : List Nat) (m : BM) : vtPut o (f :: l) m = ((vtPut o l m).prep 2 0).put (leI 2 (if f = 0 then 0 else (o : Int) - (f : Int))) := rfl
theorem BM.step2_len (m : BM) (xs : List UInt8) (h : xs.length = 2) : ((m.prep 2 0).put xs).bytes.length ≤ m.bytes.length + 4 ∧ m.bytes.length + 2 ≤ ((m.prep 2 0).put xs).bytes.length := by
  have := m.prep_le 2 0 (by unfold algn; omega)
  have h2 := m.prep_len 2 0 (by unfold algn; omega)
  show (xs ++ (m.prep 2 0).bytes).length ≤ _ ∧ _ ≤ (xs ++ (m.prep 2 0).bytes).length
  rw [List.length_append, h]; omega
theorem vtPut_len (o : Nat) : ∀ (l : List Nat) (m : BM), (vtPut o l m).bytes.length ≤ m.bytes.length + 4 * l.length ∧ m.bytes.length ≤ (vtPut o l m).bytes.length
  | [], m => ⟨by simp [vtPut], by simp [vtPut]⟩
  | f :: l, m => by
    have ih := vtPut_len o l m
    have := BM.step2_len (vtPut o l m) (leI 2 (if f = 0 then 0 else (o : Int) - (f : Int))) (leI_length _ _)
    rw [vtPut_cons, List.length_cons]; omega

/-! Memory -/
theorem BB.mem {w : World} {b Y : Nat} {r : BRest} {room least : Nat} {bytes : List UInt8} {c : Array Value} (h : BB w b Y r room least bytes c) : Mem w Y room bytes := by
  intro i x hx
  have hi : i < bytes.length := (List.getElem?_eq_some_iff.1 hx).1
  have hfit := h.fit
  rw [cell_of h.hy]
  have h1 : ((c.toList.take (room + bytes.length)).drop room)[i]? = some (.int .u8 x.toNat) := by
    rw [h.eq]; unfold cellsOf; rw [List.getElem?_map, hx]; rfl
  rw [List.getElem?_drop, List.getElem?_take, if_pos (by omega)] at h1
  simpa using h1
/-- The bytes of a Builder, read. -/
theorem BRep.bytesAt {w : World} {b : Nat} {F : List Nat} {st : BSt} (h : BRep w b F st) :
    ∃ Y L cap, w.cell? ⟨b, 0, none⟩ = some (.slice (some ⟨Y, 0, none⟩) L cap) ∧ L = st.m.room + st.m.bytes.length ∧ L ≤ cap ∧ L ≤ 4000000 ∧ Mem w Y st.m.room st.m.bytes ∧ Y ≠ b ∧ Y ∈ F ∧ (∃ c : Array Value, w.heap[Y]? = some (.cells c 5) ∧ c.size = cap) ∧
      ∀ nq o xs, xs.length ≤ o → o ≤ st.m.bytes.length → BRep ((w.drewN nq).setCells Y (L - o) (cellsOf xs)) b F { st with m := st.m.over o xs } ∧ Adv w ((w.drewN nq).setCells Y (L - o) (cellsOf xs)) F F := by
  obtain ⟨Y, V, G, M, r, c, rfl, hb, ho⟩ := h
  refine ⟨Y, _, _, (by rw [cell_of hb.hb]; rfl), rfl, hb.fit, hb.lim, hb.mem, fun e => hb.ne e.symm, by simp, ⟨c, hb.hy, rfl⟩, fun nq o xs hx hol => ?_⟩
  have hb0 := hb
  have ho0 := ho
  clear hb ho
  have hb := hb0.drewN nq
  have ho := ho0.fr (S := fun _ => False) ((Fr.refl _ w).drewN nq) (fun _ h => h) (fun h => h) (fun _ h => h)
  have hcl : (cellsOf xs).length = xs.length := cellsOf_length xs
  have hfit := hb.fit
  have hf : Fr (fun k => k = Y) (w.drewN nq) ((w.drewN nq).setCells Y (st.m.room + st.m.bytes.length - o) (cellsOf xs)) := (Fr.refl (fun k => k = Y) (w.drewN nq)).setCells (fun _ => rfl) _ _
  have hlen := BM.over_len st.m o xs hx hol
  have hss : (splice c (st.m.room + st.m.bytes.length - o) (cellsOf xs)).size = c.size := splice_size _ _ _ (by rw [hcl]; omega)
  have ho2 := ho.kept hb hf (fun k h => .inr h)
  refine ⟨⟨Y, V, G, M, r, splice c (st.m.room + st.m.bytes.length - o) (cellsOf xs), rfl, ⟨?_, ?_, by rw [hlen, hss]; exact hfit, ?_, by rw [hlen]; exact hb.lim, hb.ne, by rw [hss]; exact hb.cap, ?_, by rw [hlen, hss]; exact hb.zero⟩, ⟨ho2.vt, ho2.oe, ho2.vs, ho2.ne, ho2.fi, ho2.sh, ho2.vg⟩⟩, (hf.mono (fun i _ hi => by subst hi; simp)).fromDrewN, fun k hk => .inl hk⟩
  · rw [setCells_heap_other _ _ _ _ hb.ne, hlen, hss]; exact hb.hb
  · exact heap_setCells_same (cellsOf xs) _ c _ hb.hy (by rw [hcl]; omega)
  · rw [hlen]
    show ((splice c _ (cellsOf xs)).toList.take (st.m.room + st.m.bytes.length)).drop st.m.room = cellsOf (st.m.bytes.take (st.m.bytes.length - o) ++ xs ++ st.m.bytes.drop (st.m.bytes.length - o + xs.length))
    have e1 : cellsOf (st.m.bytes.take (st.m.bytes.length - o) ++ xs ++ st.m.bytes.drop (st.m.bytes.length - o + xs.length)) = (cellsOf st.m.bytes).take (st.m.bytes.length - o) ++ cellsOf xs ++ (cellsOf st.m.bytes).drop (st.m.bytes.length - o + xs.length) := by
      unfold cellsOf; simp only [List.map_append, List.map_take, List.map_drop]
    rw [e1, ← hb.eq]
    unfold splice
    rw [hcl]
    apply List.ext_getElem?
    intro i
    have hcs : c.toList.length = c.size := by simp
    simp only [List.getElem?_drop, List.getElem?_take, List.getElem?_append, List.length_append, List.length_take, List.length_drop, hcs, hcl]
    repeat' split
    all_goals first
      | rfl
      | omega
      | (congr 1; omega)
      | (exfalso; omega)
  · rw [hlen]
    show ∀ v ∈ (splice c _ (cellsOf xs)).toList.take (st.m.room + st.m.bytes.length), _
    exact splice_one c _ _ _ hb.one (cellsOf_one _) (by rw [hcl]; omega)
theorem grown_fr {w w3 : World} {r : Option Nat} (hg : w.grownBy w3 r) : Fr (fun k => some k = r) w w3 := ⟨hg.os, hg.tape, hg.output, hg.size, fun k hk hn => hg.block k hk hn⟩
theorem BRep.lt {w : World} {b : Nat} {F : List Nat} {st : BSt} (h : BRep w b F st) : b < w.heap.size := by
  obtain ⟨Y, V, G, M, r, c, rfl, hb, ho⟩ := h
  exact lt_of_block hb.hb
/-- The vtable, read. -/
theorem BRep.vtabAt {w : World} {b : Nat} {F : List Nat} {st : BSt} (h : BRep w b F st) {l : List Nat} (hl : st.vtab = some l) :
    ∃ V cap, w.cell? ⟨b, 2, none⟩ = some (.slice (some ⟨V, 0, none⟩) l.length cap) ∧ l.length ≤ cap ∧ V ≠ b ∧ (∀ i (h : i < l.length), w.cell? ⟨V, i, none⟩ = some (.int .u32 l[i])) ∧
      ∀ k, k ≤ l.length → BRep (w.setCell ⟨b, 2, none⟩ (.slice (some ⟨V, 0, none⟩) k cap)) b F { st with vtab := some (l.take k) } ∧ Adv w (w.setCell ⟨b, 2, none⟩ (.slice (some ⟨V, 0, none⟩) k cap)) F F := by
  obtain ⟨Y, V, G, M, r, c, rfl, hb, ho⟩ := h
  have hvt := ho.vt
  rw [hl] at hvt
  have hVb : V ≠ b := OffRow.ne_of hvt hb.hb (by decide)
  obtain ⟨cv, h1, h2, h3, h4, h5⟩ := hvt
  refine ⟨V, cv.size, by rw [cell_of hb.hb, ← h1]; rfl, h3, hVb, fun i hi => ?_, fun k hk => ?_⟩
  · rw [cell_of h2]
    have := congrArg (fun x => x[i]?) h4
    simp only [List.getElem?_take, hi, if_true, u32s, List.getElem?_map] at this
    rw [show cv[i]? = cv.toList[i]? by simp, this, List.getElem?_eq_getElem hi]; rfl
  · have hf : Fr (fun x => x = b ∨ x = V) w (w.setCell ⟨b, 2, none⟩ (.slice (some ⟨V, 0, none⟩) k cv.size)) := (Fr.refl _ w).setCell (fun _ => .inl rfl) _
    have := BRep.vtother (V' := V) (l := l.take k) hb ho hf (.inr ⟨rfl, by rw [hl]; simp⟩) (heap_setCell_same hb.hb 2 _) ⟨cv, by rw [List.length_take, Nat.min_eq_left hk], by rw [heap_setCell_other _ _ _ _ hVb]; exact h2, by rw [List.length_take]; omega, by
      rw [List.length_take, Nat.min_eq_left hk]
      have := congrArg (List.take k) h4
      rw [List.take_take, Nat.min_eq_left hk] at this
      rw [this]; unfold u32s; rw [List.map_take], h5⟩
    exact this
/-- The vtables, read; one more. -/
theorem BRep.vtsAt {w : World} {b : Nat} {F : List Nat} {st : BSt} (h : BRep w b F st) :
    ∃ G cap, w.cell? ⟨b, 4, none⟩ = some (.slice (some ⟨G, 0, none⟩) st.vts.length cap) ∧ (∀ i (h : i < st.vts.length), w.cell? ⟨G, i, none⟩ = some (.int .u32 st.vts[i])) ∧
      w.ownsRow 0 77 1 (.slice (some ⟨G, 0, none⟩) st.vts.length cap) st.vts.length (u32s st.vts) ∧ G < w.heap.size ∧ G ≠ b ∧
      ∀ w' v' vts', w'.ownsRow 0 77 1 v' vts'.length (u32s vts') → vts' ≠ [] → Fr (fun k => k = G) w w' → (v'.ownBlock = some G ∨ ∃ g, v'.ownBlock = some g ∧ w.heap.size ≤ g) →
        ∃ F', BRep (w'.setCell ⟨b, 4, none⟩ v') b F' { st with vts := vts' } ∧ Adv w (w'.setCell ⟨b, 4, none⟩ v') F F' := by
  obtain ⟨Y, V, G, M, r, c, rfl, hb, ho⟩ := h
  have hvs := ho.vs
  have hGb : G ≠ b := hvs.ne_of hb.hb (by decide)
  have hGY : G ≠ Y := hvs.ne_of hb.hy (by decide)
  obtain ⟨cv, h1, h2, h3, h4, h5⟩ := hvs
  refine ⟨G, cv.size, by rw [cell_of hb.hb, ← h1]; rfl, fun i hi => ?_, ⟨by simp [u32s], .inr ⟨G, cv.size, cv, rfl, Nat.zero_le _, h2, h3, h5, by simp, by simpa using h4⟩⟩, lt_of_block h2, hGb, fun w' v' vts' hown hne hf hat => ?_⟩
  · rw [cell_of h2]
    have := congrArg (fun x => x[i]?) h4
    simp only [List.getElem?_take, hi, if_true, u32s, List.getElem?_map] at this
    rw [show cv[i]? = cv.toList[i]? by simp, this, List.getElem?_eq_getElem hi]; rfl
  · rcases hown.2 with ⟨_, h0⟩ | ⟨g, cap, cur, rfl, _, hg, hnc, hcm, hcs, ht⟩
    · exact absurd (List.eq_nil_of_length_eq_zero h0) hne
    have hcs1 : cur.size = cap := by omega
    have hg2 : g = G ∨ w.heap.size ≤ g := by
      rcases hat with h | ⟨g', h, h'⟩
      · left; simpa [Value.ownBlock] using h
      · right; simp [Value.ownBlock] at h; omega
    have hbl := lt_of_block hb.hb
    have hYl := lt_of_block hb.hy
    have hgb : g ≠ b := by rcases hg2 with rfl | h <;> omega
    have hgY : g ≠ Y := by rcases hg2 with rfl | h <;> omega
    have hfb : w'.heap[b]? = w.heap[b]? := hf.block b hbl (fun e => hGb e.symm)
    have hf2 : Fr (fun k => k = b ∨ k = G) w (w'.setCell ⟨b, 4, none⟩ (.slice (some ⟨g, 0, none⟩) vts'.length cap)) := (hf.mono (S' := fun k => k = b ∨ k = G) (fun _ _ h => .inr h)).setCell (fun _ => .inl rfl) _
    have hvt := ho.vt
    have hsh := ho.sh
    have hVs : st.vtab ≠ none → ¬ (V = b ∨ V = G) := by
      intro hv
      cases hc : st.vtab with
      | none => exact absurd hc hv
      | some l => rw [hc] at hvt; exact fun e => e.elim (OffRow.ne_of hvt hb.hb (by decide)) ho.vg
    have hMs : st.shared ≠ none → ¬ (M = b ∨ M = G) := by
      intro hs
      cases hc : st.shared with
      | none => exact absurd hc hs
      | some D => rw [hc] at hsh; exact fun e => e.elim (ShRep.ne_of hsh hb.hb) (ShRep.ne_of hsh h2)
    have hVg : V ≠ g := by
      rintro rfl
      rcases hg2 with h | h
      · exact ho.vg h
      · cases hc : st.vtab with
        | none => rw [hc] at hvt; obtain ⟨_, rfl⟩ := hvt; omega
        | some l => rw [hc] at hvt; obtain ⟨cv', _, hV, _⟩ := hvt; have := lt_of_block hV; omega
    refine ⟨[b, Y, V, g, M], ⟨Y, V, g, M, { r with v4 := .slice (some ⟨g, 0, none⟩) vts'.length cap }, c, rfl, ⟨heap_setCell_same (hfb.trans hb.hb) 4 _, ?_, hb.fit, hb.eq, hb.lim, hb.ne, hb.cap, hb.one, hb.zero⟩, ?_⟩, hf2.mono (fun i _ h => by rcases h with rfl | rfl <;> simp), fun k hk => ?_⟩
    · rw [heap_setCell_other _ _ _ _ (show Y ≠ b from fun e => hb.ne e.symm)]
      exact (hf.block Y hYl (fun e => hGY e.symm)).trans hb.hy
    · refine ⟨?_, ho.oe, ⟨cur, by rw [hcs1], by rw [heap_setCell_other _ _ _ _ hgb]; exact hg, (by show vts'.length ≤ cur.size; omega), by simpa using ht, by omega⟩, ho.ne, ho.fi, hsh.fr hf2 hMs, hVg⟩
      cases hc : st.vtab with
      | none => rw [hc] at hvt; exact hvt
      | some l => rw [hc] at hvt; exact OffRow.fr hvt hf2 (hVs (by rw [hc]; simp))
    · simp only [List.mem_cons, List.not_mem_nil, or_false] at hk ⊢
      rcases hk with rfl | rfl | rfl | rfl | rfl
      · simp
      · simp
      · simp
      · rcases hg2 with h | h
        · rw [h]; simp
        · exact .inr h
      · simp
/-- Where the bytes begin is written anew as it was. -/
theorem BRep.head5 {w : World} {b : Nat} {F : List Nat} {st : BSt} (h : BRep w b F st) : BRep (w.setCell ⟨b, 5, none⟩ (.int .u32 st.m.room)) b F st ∧ Adv w (w.setCell ⟨b, 5, none⟩ (.int .u32 st.m.room)) F F := by
  have hm := h.mem
  obtain ⟨Y, V, G, M, r, c, rfl, hb, ho⟩ := h
  have hf : Fr (fun k => k = b) w (w.setCell ⟨b, 5, none⟩ (.int .u32 st.m.room)) := (Fr.refl (fun k => k = b) w).setCell (fun _ => rfl) _
  have ho2 := ho.kept hb hf (fun k h => .inl h)
  refine ⟨⟨Y, V, G, M, r, c, rfl, ⟨heap_setCell_same hb.hb 5 _, ?_, hb.fit, hb.eq, hb.lim, hb.ne, hb.cap, hb.one, hb.zero⟩, ho2⟩, hf.mono (fun i _ hi => by subst hi; exact hm), fun k hk => .inl hk⟩
  rw [heap_setCell_other _ _ _ _ (show Y ≠ b from fun e => hb.ne e.symm)]; exact hb.hy
end Go.Proofs.YtfplgggepoaajaaGreat
