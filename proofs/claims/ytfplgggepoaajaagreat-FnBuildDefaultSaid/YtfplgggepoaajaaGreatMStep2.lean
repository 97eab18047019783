/- A step over a Builder, plainly: what a Builder's state always is stays so. -/
import Derived.Test.YtfplgggepoaajaaGreatMStep
namespace Go.Proofs.YtfplgggepoaajaaGreat
open Go.RowKit
set_option linter.unusedVariables false
set_option linter.unusedSimpArgs false

theorem unitN_some {o : Option BSt} {r : Nat} {t : List UInt8} {st' : BSt} (h : unitN o = some (r, t, st')) : o = some st' ∧ r = 0 ∧ t = [] := by
  cases o with
  | none => cases h
  | some s => injection h with h; injection h with h1 h; injection h with h2 h3; subst h1 h2 h3; exact ⟨rfl, rfl, rfl⟩
theorem numN_some {o : Option (Nat × BSt)} {r : Nat} {t : List UInt8} {st' : BSt} (h : numN o = some (r, t, st')) : o = some (r, st') ∧ t = [] := by
  cases o with
  | none => cases h
  | some p => injection h with h; injection h with h1 h; injection h with h2 h3; subst h1 h2 h3; exact ⟨rfl, rfl⟩
theorem numSize_algn {k : Int} (h0 : 0 ≤ k) (h1 : k ≤ 10) : algn (numSize k) := by
  have : k = 0 ∨ k = 1 ∨ k = 2 ∨ k = 3 ∨ k = 4 ∨ k = 5 ∨ k = 6 ∨ k = 7 ∨ k = 8 ∨ k = 9 ∨ k = 10 := by omega
  unfold algn
  rcases this with rfl | rfl | rfl | rfl | rfl | rfl | rfl | rfl | rfl | rfl | rfl <;> simp [numSize]
theorem Grow.scalar (m : BM) {k : Int} (n : Nat) (h0 : 0 ≤ k) (h1 : k ≤ 10) : Grow m ((m.prep (numSize k) 0).put (numB k n)) 40 :=
  Grow.prepPut m _ _ (numSize_algn h0 h1) (by rw [numB_length]; have := numSize_le k; omega)
theorem StInv.slotted {st st' : BSt} {i : Nat} {j : Int} (h : StInv st (i + 1)) (e : st.slot j = some st') : StInv st' (i + 1) := by
  unfold BSt.slot at e
  cases hv : st.vtab with
  | none => rw [hv] at e; cases e
  | some l =>
    rw [hv] at e
    simp only at e
    split at e
    · injection e with e
      subst e
      have hvt := h.inv.vtab l hv
      refine ⟨⟨h.inv.vts, fun l' hl' => ?_, h.inv.oend, h.inv.many⟩, h.least, h.many, h.sh, h.len⟩
      simp only [Option.some.injEq] at hl'
      subst hl'
      refine ⟨by rw [List.length_set]; exact hvt.1, fun x hx => ?_⟩
      rcases List.mem_or_eq_of_mem_set hx with hx | hx
      · exact hvt.2 x hx
      · rw [hx]; exact Nat.le_refl _
    · cases e
theorem StInv.referred {st st' : BSt} {i off : Nat} (h : StInv st i) (e : st.refer off = some st') : StInv st' (i + 1) := by
  unfold BSt.refer at e
  cases hr : st.m.refer off with
  | none => rw [hr] at e; cases e
  | some m =>
    rw [hr] at e
    injection e with e
    subst e
    exact h.bytes (Grow.refer hr) (by omega)
theorem StInv.same {st st' : BSt} {i : Nat} (h : StInv st i) (hm : st'.m = st.m) (hv : st'.vtab = st.vtab) (ho : st'.oend = st.oend) (hvs : st'.vts = st.vts) (hs : st'.shared = st.shared) : StInv st' i := by
  obtain ⟨⟨a, b, c, d⟩, e, f, g, l⟩ := h
  exact ⟨⟨by rw [hvs, hm]; exact a, by rw [hv, hm]; exact b, by rw [ho, hm]; exact c, by rw [hvs]; exact d⟩, by rw [hm]; exact e, by rw [hvs]; exact f, by rw [hs]; exact g, by rw [hm]; exact l⟩
theorem StInv.created {st st' : BSt} {xs : List UInt8} {z : Bool} {n i : Nat} (h : StInv st i) (hx : xs.length ≤ 1000) (e : st.created xs z = some (n, st')) : StInv st' (i + 1) := by
  cases hn : st.nested with
  | true => rw [created_none _ _ _ hn] at e; cases e
  | false =>
    rw [created_eq _ _ _ hn] at e
    injection e with e
    injection e with _ e
    subst e
    exact (h.bytes (Grow.text st.m xs z) (by omega)).same rfl rfl rfl rfl rfl
theorem trimZ_le (l : List Nat) : (trimZ l).length ≤ l.length := by
  unfold trimZ
  rw [List.length_reverse]
  have := List.length_filter_le (fun _ : Nat => true) l.reverse
  have h := List.dropWhile_suffix (p := fun x : Nat => x == 0) (l := l.reverse)
  have := h.length_le
  simpa using this
theorem BSt.vt4_front (st : BSt) (l : List Nat) : ∃ ys, (st.vt4 l).bytes = leI 2 (((l.length + 2) * 2 : Nat) : Int) ++ ys := ⟨_, rfl⟩
theorem vt4_len (st : BSt) (l : List Nat) : st.vt1.bytes.length + 4 ≤ (st.vt4 l).bytes.length ∧ st.vt1.bytes.length + 2 * l.length + 4 ≤ (st.vt4 l).bytes.length := by
  have h3 : ∀ (l : List Nat) (m : BM), m.bytes.length + 2 * l.length ≤ (vtPut st.vt1.bytes.length l m).bytes.length := by
    intro l
    induction l with
    | nil => intro m; simp [vtPut]
    | cons f l ih =>
      intro m
      rw [vtPut_cons, List.length_cons]
      have := ih m
      have := BM.step2_len (vtPut st.vt1.bytes.length l m) (leI 2 (if f = 0 then 0 else (st.vt1.bytes.length : Int) - (f : Int))) (leI_length _ _)
      omega
  have h0 := h3 l st.vt1
  have h1 := BM.step2_len (vtPut st.vt1.bytes.length l st.vt1) (leI 2 ((st.vt1.bytes.length : Int) - st.oend)) (leI_length _ _)
  have h2 := BM.step2_len (((vtPut st.vt1.bytes.length l st.vt1).prep 2 0).put (leI 2 ((st.vt1.bytes.length : Int) - st.oend))) (leI 2 (((l.length + 2) * 2 : Nat) : Int)) (leI_length _ _)
  unfold BSt.vt4
  omega
/-- What WriteVtable leaves of the bytes. -/
theorem writeVt_grow (st : BSt) (l0 : List Nat) (hl : st.vtab.getD [] = l0) (hl2 : l0.length ≤ 1000) : Grow st.m st.writeVt.m 4200 := by
  have ht := trimZ_le l0
  obtain ⟨a, zs, h1, h2, h3⟩ := st.vt1_split
  have g1 := Grow.vt1 st
  unfold BSt.writeVt
  rw [hl]
  cases vtFind st.vt1 st.vt1.bytes.length (trimZ l0) st.vts with
  | some v => exact Grow.over (ys := []) h1 (by simp) (by rw [leI_length, h2]) (by simp; omega) g1.least
  | none =>
    have g4 := Grow.vt4 st (trimZ l0)
    obtain ⟨ys, h5, h6⟩ := g4.bytes
    exact Grow.over (ys := ys) h1 h5 (by rw [leI_length, h2]) (by omega) (fun x => g4.least (g1.least x))
theorem leI2_front (n : Nat) (ys : List UInt8) (h : n < 65536) : le ((leI 2 (n : Int) ++ ys).take 2) = n := by
  rw [leI_nat]
  have : (leB 2 n ++ ys).take 2 = leB 2 n := by
    have h2 : (leB 2 n).length = 2 := leB_length 2 n
    rw [List.take_append_of_le_length (by omega), List.take_of_length_le (by omega)]
  rw [this, le_leB]
  exact Nat.mod_eq_of_lt (by omega)
theorem StInv.writeVt {st : BSt} {i : Nat} (h : StInv st i) (hi : i ≤ 300) : StInv { st.writeVt with nested := false } (i + 1) := by
  obtain ⟨l0, hl0⟩ : ∃ l0, l0 = st.vtab.getD [] := ⟨_, rfl⟩
  have hl2 : l0.length ≤ 1000 := by
    rw [hl0]
    cases hv : st.vtab with
    | none => simp
    | some l => exact (h.inv.vtab l hv).1
  have g := writeVt_grow st l0 hl0.symm hl2
  have ht := trimZ_le l0
  have hvt : ∀ l, (st.vtab.map fun _ => ([] : List Nat)) = some l → l = [] := by
    intro l e
    cases hv : st.vtab with
    | none => rw [hv] at e; cases e
    | some l' => rw [hv] at e; injection e with e; exact e.symm
  have hgl := g.len
  have hoe := h.inv.oend
  have hsh : st.writeVt.shared = st.shared := by unfold BSt.writeVt; split <;> rfl
  have hoo : st.writeVt.oend = st.oend := by unfold BSt.writeVt; split <;> rfl
  have hvv : st.writeVt.vtab = st.vtab.map fun _ => [] := by unfold BSt.writeVt; split <;> rfl
  cases hf : vtFind st.vt1 st.vt1.bytes.length (trimZ (st.vtab.getD [])) st.vts with
  | some v =>
    have hvs : st.writeVt.vts = st.vts := by unfold BSt.writeVt; rw [hf]
    exact h.grow (st' := { st.writeVt with nested := false }) g (by omega) (fun l hl => by
      have hl : st.writeVt.vtab = some l := hl
      rw [hvv] at hl; rw [hvt l hl]; simp) hvs (by show st.writeVt.oend ≤ _; rw [hoo]; show _ ≤ st.writeVt.m.bytes.length; omega) (by show Maps.size (st.writeVt.shared.getD _) ≤ _; rw [hsh]; have := h.sh; omega)
  | none =>
    rw [← hl0] at hf
    obtain ⟨m4, hm4⟩ : ∃ m4, m4 = st.vt4 (trimZ l0) := ⟨_, rfl⟩
    have hw : st.writeVt = { st with m := m4.over st.vt1.bytes.length (leI 4 ((m4.bytes.length : Int) - st.vt1.bytes.length)), vtab := st.vtab.map (fun _ => []), vts := st.vts ++ [m4.bytes.length] } := by
      unfold BSt.writeVt; rw [← hl0, hf, hm4]
    have h4 := vt4_len st (trimZ l0)
    rw [← hm4] at h4
    have hol := BM.over_len m4 st.vt1.bytes.length (leI 4 ((m4.bytes.length : Int) - st.vt1.bytes.length)) (by rw [leI_length]; obtain ⟨a, zs, h1, h2, h3⟩ := st.vt1_split; rw [h1]; simp only [List.length_append]; omega) (by omega)
    have hfr : ∃ ys, (m4.over st.vt1.bytes.length (leI 4 ((m4.bytes.length : Int) - st.vt1.bytes.length))).bytes = leI 2 ((((trimZ l0).length + 2) * 2 : Nat) : Int) ++ ys := by
      obtain ⟨ys, hys⟩ := BSt.vt4_front st (trimZ l0)
      rw [← hm4] at hys
      have hyl : 2 ≤ m4.bytes.length - st.vt1.bytes.length := by omega
      refine ⟨ys.take (m4.bytes.length - st.vt1.bytes.length - 2) ++ leI 4 ((m4.bytes.length : Int) - st.vt1.bytes.length) ++ m4.bytes.drop (m4.bytes.length - st.vt1.bytes.length + (leI 4 ((m4.bytes.length : Int) - st.vt1.bytes.length)).length), ?_⟩
      show m4.bytes.take (m4.bytes.length - st.vt1.bytes.length) ++ _ ++ _ = _
      have e : m4.bytes.take (m4.bytes.length - st.vt1.bytes.length) = leI 2 ((((trimZ l0).length + 2) * 2 : Nat) : Int) ++ ys.take (m4.bytes.length - st.vt1.bytes.length - 2) := by
        conv => lhs; arg 2; rw [hys]
        rw [List.take_append, leI_length, List.take_of_length_le (by rw [leI_length]; omega)]
      rw [e]
      simp only [List.append_assoc]
    rw [hw] at g hgl ⊢
    obtain ⟨xs, hx, hxl⟩ := g.bytes
    dsimp only at hx hgl
    refine ⟨⟨fun v hvm => ?_, fun l hl => ?_, ?_, ?_⟩, g.least h.least, ?_, ?_, ?_⟩
    · dsimp only at hvm ⊢
      rcases List.mem_append.1 hvm with hvm | hvm
      · have := h.inv.vts v hvm
        rw [vtLen_app hx v this.1]
        omega
      · simp only [List.mem_singleton] at hvm
        subst hvm
        have hlen : vtLen (m4.over st.vt1.bytes.length (leI 4 ((m4.bytes.length : Int) - st.vt1.bytes.length))) m4.bytes.length = ((trimZ l0).length + 2) * 2 := by
          unfold vtLen fromEnd
          rw [hol, Nat.sub_self, List.drop_zero]
          obtain ⟨ys, hys⟩ := hfr
          rw [hys]
          exact leI2_front _ ys (by omega)
        rw [hlen, hol]
        omega
    · dsimp only at hl ⊢
      rw [hvt l hl]; simp
    · dsimp only; omega
    · dsimp only; rw [List.length_append, List.length_singleton]; have := h.many; omega
    · dsimp only; rw [List.length_append, List.length_singleton]; have := h.many; omega
    · dsimp only; have := h.sh; omega
    · dsimp only; have := h.len; omega
theorem finish_some {st st' : BSt} {off : Nat} (e : st.finish off = some st') : st.nested = false ∧ ∃ m, (st.m.prep st.m.least 4).refer off = some m ∧ st' = { st with m := m, fin := true } := by
  unfold BSt.finish at e
  cases hn : st.nested with
  | true => rw [if_pos hn] at e; cases e
  | false =>
    rw [if_neg (by rw [hn]; simp)] at e
    refine ⟨rfl, ?_⟩
    cases hr : BSt.refer { st with m := st.m.prep st.m.least 4 } off with
    | none => rw [hr] at e; cases e
    | some s =>
      rw [hr] at e
      injection e with e
      subst e
      unfold BSt.refer at hr
      cases hm : (st.m.prep st.m.least 4).refer off with
      | none =>
        have : BM.refer ({ st with m := st.m.prep st.m.least 4 } : BSt).m off = none := hm
        rw [this] at hr; cases hr
      | some m =>
        have : BM.refer ({ st with m := st.m.prep st.m.least 4 } : BSt).m off = some m := hm
        rw [this] at hr
        injection hr with hr
        subst hr
        exact ⟨m, rfl, by cases st; simp_all⟩
theorem StInv.finished {st st' : BSt} {i off : Nat} (h : StInv st i) (e : st.finish off = some st') : StInv st' (i + 1) := by
  obtain ⟨_, m, hm, rfl⟩ := finish_some e
  exact (h.bytes (m' := m) ((Grow.prep st.m _ 4 h.least).trans (Grow.refer hm)) (by omega)).same rfl rfl rfl rfl rfl
theorem put_size (D : DataW Unit) (k : Lit) (d : DataW Unit) : Maps.size (D.put k d) ≤ Maps.size D + 1 := by
  cases D with
  | map es =>
    rw [DataW.put_eq]
    unfold ChangeMaps.putKey
    simp only [Maps.size]
    rw [length_insert]
    have := List.length_filter_le (ChangeMaps.notKey k) es
    omega
  | _ => simp [DataW.put, Maps.size]
theorem mStep_inv {st st' : BSt} {s : BS} {off r i : Nat} {t : List UInt8} (h : StInv st i) (hi : i ≤ 300) (hs : SOK s) (hp : SafeS st s) (e : mStep st s off = some (r, t, st')) : StInv st' (i + 1) := by
  unfold mStep at e
  split at e
  case h_1 _ hop =>
    have e := (unitN_some e).1
    unfold BSt.startObj at e
    split at e
    · cases e
    · injection e with e
      subst e
      have h0 := hs.o0 hop
      refine h.grow (st' := { st with nested := true, vtab := some (List.replicate s.slot.toNat 0), oend := st.m.bytes.length }) (Grow.refl _) (by omega) (fun l hl => ?_) rfl (Nat.le_refl _) (by have := h.sh; show Maps.size (st.shared.getD _) ≤ _; omega)
      simp only [Option.some.injEq] at hl
      subst hl
      refine ⟨by simp; omega, fun x hx => ?_⟩
      rw [(List.mem_replicate.1 hx).2]; omega
  case h_2 _ hop =>
    have e := (numN_some e).1
    unfold BSt.endObj at e
    split at e
    · injection e with e
      injection e with _ e
      subst e
      exact h.writeVt hi
    · cases e
  case h_3 _ hop =>
    have e := (unitN_some e).1
    injection e with e
    subst e
    have hr := hs.o2 (.inl hop)
    exact h.bytes (Grow.scalar st.m s.num hr.1 hr.2.1) (by omega)
  case h_4 _ hop =>
    have e := (unitN_some e).1
    have hr := (hs.o3 hop).1
    unfold BSt.prepSlot at e
    split at e
    · injection e with e; subst e; exact h.up
    · exact (h.bytes (Grow.scalar st.m s.num hr.1 hr.2.1) (by omega)).slotted e
  case h_5 _ hop => exact h.referred (unitN_some e).1
  case h_6 _ hop =>
    have e := (unitN_some e).1
    unfold BSt.offSlot at e
    split at e
    · injection e with e; subst e; exact h.up
    · cases hr : st.refer off with
      | none => rw [hr] at e; cases e
      | some s1 => rw [hr] at e; exact (h.referred hr).slotted e
  case h_7 _ hop => exact h.referred (unitN_some e).1
  case h_8 _ hop =>
    have e := (unitN_some e).1
    injection e with e
    subst e
    exact h.bytes (Grow.prepPut st.m 2 _ (by unfold algn; omega) (by rw [leB_length]; omega)) (by omega)
  case h_9 _ hop =>
    have e := (unitN_some e).1
    unfold BSt.structSlot at e
    split at e
    · injection e with e; subst e; exact h.up
    · split at e
      · split at e
        · exact h.up.slotted e
        · cases e
      · cases e
  case h_10 _ hop => exact h.up.slotted (unitN_some e).1
  case h_11 _ hop =>
    have e := (numN_some e).1
    unfold BSt.startVec at e
    split at e
    · cases e
    · injection e with e
      injection e with _ e
      subst e
      have h10 := hs.o10 hop
      exact (h.bytes (m' := (st.m.prep 4 (s.size.toNat * s.more.toNat)).prep s.by_.toNat (s.size.toNat * s.more.toNat)) ((Grow.prep _ 4 _ (by unfold algn; omega)).trans (Grow.prep _ _ _ h10.2.2.2)) (by omega)).same rfl rfl rfl rfl rfl
  case h_12 _ hop =>
    have e := (numN_some e).1
    unfold BSt.endVec at e
    split at e
    · split at e
      · cases e
      · injection e with e
        injection e with _ e
        subst e
        exact (h.bytes (m' := st.m.put (leB 4 s.slot.toNat)) (Grow.put _ _) (by rw [leB_length]; omega)).same rfl rfl rfl rfl rfl
    · cases e
  case h_13 _ hop => exact h.created hs.text (numN_some e).1
  case h_14 _ hop => exact h.created hs.text (numN_some e).1
  case h_15 _ hop => exact h.created hs.text (numN_some e).1
  case h_16 _ hop =>
    have e := (numN_some e).1
    unfold BSt.sharedStr at e
    split at e
    · injection e with e
      injection e with _ e
      subst e
      have := h.up
      exact ⟨⟨this.inv.vts, this.inv.vtab, this.inv.oend, this.inv.many⟩, this.least, this.many, this.sh, this.len⟩
    · cases hc : BSt.created { st with shared := some (st.shared.getD (.map [])) } s.text true with
      | none => rw [hc] at e; cases e
      | some p =>
        rw [hc] at e
        injection e with e
        injection e with _ e
        subst e
        have h0 : StInv { st with shared := some (st.shared.getD (.map [])) } i := ⟨⟨h.inv.vts, h.inv.vtab, h.inv.oend, h.inv.many⟩, h.least, h.many, h.sh, h.len⟩
        have h1 := h0.created hs.text hc
        refine ⟨⟨h1.inv.vts, h1.inv.vtab, h1.inv.oend, h1.inv.many⟩, h1.least, h1.many, ?_, h1.len⟩
        have := put_size (st.shared.getD (.map [])) (.string s.text) (.lit (.int .u32 p.1))
        have := h.sh
        show Maps.size ((st.shared.getD (.map [])).put (.string s.text) (.lit (.int .u32 p.1))) ≤ i + 1
        omega
  case h_17 _ hop =>
    have e := (unitN_some e).1
    injection e with e
    subst e
    exact h.bytes (Grow.prep _ _ _ (hs.o16 hop).2) (by omega)
  case h_18 _ hop =>
    have e := (unitN_some e).1
    split at e
    · injection e with e
      subst e
      exact h.bytes (Grow.put _ _) (by rw [numB_length]; have := numSize_le s.kind; omega)
    · cases e
  case h_19 _ hop =>
    have e := (unitN_some e).1
    split at e
    · injection e with e
      subst e
      have := hs.o11 (.inr hop)
      exact h.bytes (Grow.put _ _) (by simp; omega)
    · cases e
  case h_20 _ hop => exact h.finished (unitN_some e).1
  case h_21 _ hop =>
    have e := (unitN_some e).1
    unfold BSt.finishId at e
    split at e
    · obtain ⟨_, m, hm, rfl⟩ := finish_some e
      have g1 := (Grow.prep st.m _ 8 h.least).trans (Grow.put _ s.text)
      have g2 := (g1.trans (Grow.prep _ _ 4 (g1.least h.least))).trans (Grow.refer hm)
      exact (h.bytes (m' := m) g2 (by have := hs.text; omega)).same rfl rfl rfl rfl rfl
    · cases e
  case h_22 =>
    split at e
    · injection e with e
      injection e with _ e
      injection e with _ e
      subst e
      exact h.up
    · cases e
end Go.Proofs.YtfplgggepoaajaaGreat
