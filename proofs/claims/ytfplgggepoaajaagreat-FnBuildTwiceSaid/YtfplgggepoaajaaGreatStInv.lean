/- What a Builder's state always is: its bytes grow, its vtables stand within them. -/
import Derived.Test.YtfplgggepoaajaaGreatFin
import Derived.Test.YtfplgggepoaajaaGreatKinds
namespace Go.Proofs.YtfplgggepoaajaaGreat
open Go.RowKit
set_option linter.unusedVariables false
set_option linter.unusedSimpArgs false

/-- Bytes that are put in front. -/
structure Grow (m m' : BM) (k : Nat) : Prop where
  bytes : ∃ xs, m'.bytes = xs ++ m.bytes ∧ xs.length ≤ k
  least : algn m.least → algn m'.least
theorem Grow.refl (m : BM) : Grow m m 0 := ⟨⟨[], rfl, Nat.le_refl _⟩, id⟩
theorem Grow.trans {a b c : BM} {k j : Nat} (h : Grow a b k) (g : Grow b c j) : Grow a c (k + j) := by
  obtain ⟨⟨xs, h1, h2⟩, h3⟩ := h
  obtain ⟨⟨ys, g1, g2⟩, g3⟩ := g
  exact ⟨⟨ys ++ xs, by rw [g1, h1, List.append_assoc], by rw [List.length_append]; omega⟩, fun x => g3 (h3 x)⟩
theorem Grow.mono {a b : BM} {k j : Nat} (h : Grow a b k) (hj : k ≤ j) : Grow a b j := by
  obtain ⟨⟨xs, h1, h2⟩, h3⟩ := h
  exact ⟨⟨xs, h1, by omega⟩, h3⟩
theorem Grow.prep (m : BM) (size add : Nat) (hs : algn size) : Grow m (m.prep size add) 16 := by
  refine ⟨⟨List.replicate (m.pad size add) 0, rfl, ?_⟩, fun h => ?_⟩
  · have := m.pad_lt size add hs
    have := algn_le hs
    simp; omega
  · show algn (max m.least size)
    rcases Nat.le_total m.least size with h1 | h1
    · rw [Nat.max_eq_right h1]; exact hs
    · rw [Nat.max_eq_left h1]; exact h
theorem Grow.put (m : BM) (xs : List UInt8) : Grow m (m.put xs) xs.length := ⟨⟨xs, rfl, Nat.le_refl _⟩, id⟩
theorem Grow.len {m m' : BM} {k : Nat} (h : Grow m m' k) : m.bytes.length ≤ m'.bytes.length ∧ m'.bytes.length ≤ m.bytes.length + k := by
  obtain ⟨⟨xs, h1, h2⟩, _⟩ := h
  rw [h1, List.length_append]; omega
theorem Grow.prepPut (m : BM) (size : Nat) (xs : List UInt8) (hs : algn size) (hx : xs.length ≤ 16) : Grow m ((m.prep size 0).put xs) 40 := ((Grow.prep m size 0 hs).trans (Grow.put _ xs)).mono (by omega)
theorem Grow.text (m : BM) (xs : List UInt8) (z : Bool) : Grow m (m.text xs z) (xs.length + 21) := by
  cases z with
  | true =>
    exact ((((Grow.prep m 4 (xs.length + 1) (by unfold algn; omega)).trans (Grow.put _ [0])).trans (Grow.put _ xs)).trans (Grow.put _ (leB 4 xs.length))).mono (by simp [leB_length]; omega)
  | false =>
    exact (((Grow.prep m 4 xs.length (by unfold algn; omega)).trans (Grow.put _ xs)).trans (Grow.put _ (leB 4 xs.length))).mono (by simp [leB_length]; omega)
theorem Grow.refer {m m' : BM} {off : Nat} (h : m.refer off = some m') : Grow m m' 40 := by
  unfold BM.refer at h
  split at h
  · injection h with h; rw [← h]; exact Grow.prepPut m 4 _ (by unfold algn; omega) (by rw [leB_length]; omega)
  · cases h
theorem Grow.vtPut (o : Nat) : ∀ (l : List Nat) (m : BM), Grow m (vtPut o l m) (4 * l.length)
  | [], m => Grow.refl m
  | f :: l, m => by
    rw [vtPut_cons]
    have h1 := Grow.vtPut o l m
    have h2 : Grow (Proofs.YtfplgggepoaajaaGreat.vtPut o l m) (((Proofs.YtfplgggepoaajaaGreat.vtPut o l m).prep 2 0).put (leI 2 (if f = 0 then 0 else (o : Int) - (f : Int)))) 4 := by
      refine ⟨⟨leI 2 (if f = 0 then 0 else (o : Int) - (f : Int)) ++ List.replicate ((Proofs.YtfplgggepoaajaaGreat.vtPut o l m).pad 2 0) 0, ?_, ?_⟩, (Grow.prep _ 2 0 (by unfold algn; omega)).least⟩
      · show _ ++ (_ ++ _) = _
        rw [List.append_assoc]
      · have := (Proofs.YtfplgggepoaajaaGreat.vtPut o l m).pad_lt 2 0 (by unfold algn; omega)
        simp [leI_length]; omega
    exact (h1.trans h2).mono (by simp; omega)
theorem over_app (m : BM) (ys a rest xs : List UInt8) (o : Nat) (h : m.bytes = ys ++ (a ++ rest)) (ho : o = a.length + rest.length) (hx : xs.length = a.length) : (m.over o xs).bytes = ys ++ (xs ++ rest) := by
  show m.bytes.take (m.bytes.length - o) ++ xs ++ m.bytes.drop (m.bytes.length - o + xs.length) = _
  have hl : m.bytes.length - o = ys.length := by rw [h]; simp only [List.length_append]; omega
  rw [hl, h, List.take_left, hx, List.append_assoc, ← List.append_assoc ys a rest, show ys.length + a.length = (ys ++ a).length by simp, List.drop_left]
/-- The bytes behind PrependSOffsetT. -/
theorem BSt.vt1_split (st : BSt) : ∃ a zs, st.vt1.bytes = a ++ (zs ++ st.m.bytes) ∧ a.length = 4 ∧ zs.length ≤ 3 := by
  refine ⟨leB 4 ((st.m.prep 4 0).bytes.length + 4), List.replicate (st.m.pad 4 0) 0, rfl, leB_length _ _, ?_⟩
  have := st.m.pad_lt 4 0 (by unfold algn; omega)
  simp; omega
theorem Grow.vt1 (st : BSt) : Grow st.m st.vt1 20 := ((Grow.prep st.m 4 0 (by unfold algn; omega)).trans (Grow.put _ _)).mono (by rw [leB_length]; omega)
theorem Grow.over {m0 m1 m : BM} {ys a zs xs : List UInt8} {k : Nat} (h1 : m1.bytes = a ++ (zs ++ m0.bytes)) (h : m.bytes = ys ++ m1.bytes) (hx : xs.length = a.length) (hk : ys.length + a.length + zs.length ≤ k) (hl : algn m0.least → algn m.least) : Grow m0 (m.over m1.bytes.length xs) k := by
  refine ⟨⟨ys ++ (xs ++ zs), ?_, by simp only [List.length_append]; omega⟩, hl⟩
  rw [over_app m ys a (zs ++ m0.bytes) xs _ (by rw [h, h1]) (by rw [h1]; simp) hx]
  simp [List.append_assoc]
theorem Grow.vt4 (st : BSt) (l : List Nat) : Grow st.vt1 (st.vt4 l) (4 * l.length + 80) := by
  unfold BSt.vt4
  exact (((Grow.vtPut _ l st.vt1).trans (Grow.prepPut _ 2 _ (by unfold algn; omega) (by rw [leI_length]; omega))).trans (Grow.prepPut _ 2 _ (by unfold algn; omega) (by rw [leI_length]; omega))).mono (by omega)

/-- What a Builder's state is behind some steps. -/
structure StInv (st : BSt) (i : Nat) : Prop where
  inv : BInv st
  least : algn st.m.least
  many : st.vts.length ≤ i
  sh : Maps.size (st.shared.getD (.map [])) ≤ i
  len : st.m.bytes.length ≤ 5000 * i
theorem StInv.start (n : Nat) : StInv (st0 n) 0 := ⟨⟨fun v hv => by simp [st0] at hv, fun l hl => by simp [st0] at hl, by simp [st0], by simp [st0]⟩, by unfold algn; simp [st0], by simp [st0], by simp [st0, Maps.size], by simp [st0]⟩
/-- The bytes grow, all else stays but what is named. -/
theorem StInv.grow {st st' : BSt} {i k : Nat} (h : StInv st i) (g : Grow st.m st'.m k) (hk : k ≤ 5000) (hv : ∀ l, st'.vtab = some l → l.length ≤ 1000 ∧ ∀ x ∈ l, x ≤ st'.m.bytes.length) (hvs : st'.vts = st.vts) (hoe : st'.oend ≤ st'.m.bytes.length) (hsh : Maps.size (st'.shared.getD (.map [])) ≤ i + 1) : StInv st' (i + 1) := by
  obtain ⟨xs, hx, hxl⟩ := g.bytes
  have hl := g.len
  refine ⟨⟨fun v hvm => ?_, hv, hoe, by rw [hvs]; exact h.inv.many⟩, g.least h.least, by rw [hvs]; have := h.many; omega, hsh, by have := h.len; omega⟩
  rw [hvs] at hvm
  have := h.inv.vts v hvm
  rw [vtLen_app hx v this.1]
  omega
theorem StInv.bytes {st : BSt} {m' : BM} {i k : Nat} (h : StInv st i) (g : Grow st.m m' k) (hk : k ≤ 5000) : StInv { st with m := m' } (i + 1) := by
  have hl := g.len
  refine h.grow (st' := { st with m := m' }) g hk (fun l hl' => ?_) rfl (by have := h.inv.oend; show st.oend ≤ m'.bytes.length; omega) (by have := h.sh; show Maps.size (st.shared.getD _) ≤ _; omega)
  have := h.inv.vtab l hl'
  exact ⟨this.1, fun x hx => by have := this.2 x hx; show x ≤ m'.bytes.length; omega⟩
theorem StInv.up {st : BSt} {i : Nat} (h : StInv st i) : StInv st (i + 1) := h.bytes (m' := st.m) (Grow.refl _) (by omega)
theorem numSize_algn {k : Int} (h0 : 0 ≤ k) (h1 : k ≤ 10) : algn (numSize k) := by
  have : k = 0 ∨ k = 1 ∨ k = 2 ∨ k = 3 ∨ k = 4 ∨ k = 5 ∨ k = 6 ∨ k = 7 ∨ k = 8 ∨ k = 9 ∨ k = 10 := by omega
  unfold algn
  rcases this with rfl | rfl | rfl | rfl | rfl | rfl | rfl | rfl | rfl | rfl | rfl <;> simp [numSize]
theorem Grow.scalar (m : BM) {k : Int} (n : Nat) (h0 : 0 ≤ k) (h1 : k ≤ 10) : Grow m ((m.prep (numSize k) 0).put (numB k n)) 40 :=
  Grow.prepPut m _ _ (numSize_algn h0 h1) (by rw [numB_length]; have := numSize_le k; omega)
theorem StInv.slotted {st st' : BSt} {i : Nat} {j : Int} (h : StInv st (i + 1)) (e : st.slot j = some st') : StInv st' (i + 1) := by
  unfold BSt.slot at e
  cases hv : st.vtab with
  | none => rw [hv] at e; cases e
  | some l =>
    rw [hv] at e
    simp only at e
    split at e
    · injection e with e
      subst e
      have hvt := h.inv.vtab l hv
      refine ⟨⟨h.inv.vts, fun l' hl' => ?_, h.inv.oend, h.inv.many⟩, h.least, h.many, h.sh, h.len⟩
      simp only [Option.some.injEq] at hl'
      subst hl'
      refine ⟨by rw [List.length_set]; exact hvt.1, fun x hx => ?_⟩
      rcases List.mem_or_eq_of_mem_set hx with hx | hx
      · exact hvt.2 x hx
      · rw [hx]; exact Nat.le_refl _
    · cases e
theorem StInv.referred {st st' : BSt} {i off : Nat} (h : StInv st i) (e : st.refer off = some st') : StInv st' (i + 1) := by
  unfold BSt.refer at e
  cases hr : st.m.refer off with
  | none => rw [hr] at e; cases e
  | some m =>
    rw [hr] at e
    injection e with e
    subst e
    exact h.bytes (Grow.refer hr) (by omega)
theorem StInv.same {st st' : BSt} {i : Nat} (h : StInv st i) (hm : st'.m = st.m) (hv : st'.vtab = st.vtab) (ho : st'.oend = st.oend) (hvs : st'.vts = st.vts) (hs : st'.shared = st.shared) : StInv st' i := by
  obtain ⟨⟨a, b, c, d⟩, e, f, g, l⟩ := h
  exact ⟨⟨by rw [hvs, hm]; exact a, by rw [hv, hm]; exact b, by rw [ho, hm]; exact c, by rw [hvs]; exact d⟩, by rw [hm]; exact e, by rw [hvs]; exact f, by rw [hs]; exact g, by rw [hm]; exact l⟩
theorem StInv.created {st st' : BSt} {xs : List UInt8} {z : Bool} {n i : Nat} (h : StInv st i) (hx : xs.length ≤ 1000) (e : st.created xs z = some (n, st')) : StInv st' (i + 1) := by
  cases hn : st.nested with
  | true => rw [created_none _ _ _ hn] at e; cases e
  | false =>
    rw [created_eq _ _ _ hn] at e
    injection e with e
    injection e with _ e
    subst e
    exact (h.bytes (Grow.text st.m xs z) (by omega)).same rfl rfl rfl rfl rfl
theorem trimZ_le (l : List Nat) : (trimZ l).length ≤ l.length := by
  unfold trimZ
  rw [List.length_reverse]
  have := List.length_filter_le (fun _ : Nat => true) l.reverse
  have h := List.dropWhile_suffix (p := fun x : Nat => x == 0) (l := l.reverse)
  have := h.length_le
  simpa using this
theorem BSt.vt4_front (st : BSt) (l : List Nat) : ∃ ys, (st.vt4 l).bytes = leI 2 (((l.length + 2) * 2 : Nat) : Int) ++ ys := ⟨_, rfl⟩
theorem vt4_len (st : BSt) (l : List Nat) : st.vt1.bytes.length + 4 ≤ (st.vt4 l).bytes.length ∧ st.vt1.bytes.length + 2 * l.length + 4 ≤ (st.vt4 l).bytes.length := by
  have h3 : ∀ (l : List Nat) (m : BM), m.bytes.length + 2 * l.length ≤ (vtPut st.vt1.bytes.length l m).bytes.length := by
    intro l
    induction l with
    | nil => intro m; simp [vtPut]
    | cons f l ih =>
      intro m
      rw [vtPut_cons, List.length_cons]
      have := ih m
      have := BM.step2_len (vtPut st.vt1.bytes.length l m) (leI 2 (if f = 0 then 0 else (st.vt1.bytes.length : Int) - (f : Int))) (leI_length _ _)
      omega
  have h0 := h3 l st.vt1
  have h1 := BM.step2_len (vtPut st.vt1.bytes.length l st.vt1) (leI 2 ((st.vt1.bytes.length : Int) - st.oend)) (leI_length _ _)
  have h2 := BM.step2_len (((vtPut st.vt1.bytes.length l st.vt1).prep 2 0).put (leI 2 ((st.vt1.bytes.length : Int) - st.oend))) (leI 2 (((l.length + 2) * 2 : Nat) : Int)) (leI_length _ _)
  unfold BSt.vt4
  omega
/-- What WriteVtable leaves of the bytes. -/
theorem writeVt_grow (st : BSt) (l0 : List Nat) (hl : st.vtab.getD [] = l0) (hl2 : l0.length ≤ 1000) : Grow st.m st.writeVt.m 4200 := by
  have ht := trimZ_le l0
  obtain ⟨a, zs, h1, h2, h3⟩ := st.vt1_split
  have g1 := Grow.vt1 st
  unfold BSt.writeVt
  rw [hl]
  cases vtFind st.vt1 st.vt1.bytes.length (trimZ l0) st.vts with
  | some v => exact Grow.over (ys := []) h1 (by simp) (by rw [leI_length, h2]) (by simp; omega) g1.least
  | none =>
    have g4 := Grow.vt4 st (trimZ l0)
    obtain ⟨ys, h5, h6⟩ := g4.bytes
    exact Grow.over (ys := ys) h1 h5 (by rw [leI_length, h2]) (by omega) (fun x => g4.least (g1.least x))
theorem leI2_front (n : Nat) (ys : List UInt8) (h : n < 65536) : le ((leI 2 (n : Int) ++ ys).take 2) = n := by
  rw [leI_nat]
  have : (leB 2 n ++ ys).take 2 = leB 2 n := by
    have h2 : (leB 2 n).length = 2 := leB_length 2 n
    rw [List.take_append_of_le_length (by omega), List.take_of_length_le (by omega)]
  rw [this, le_leB]
  exact Nat.mod_eq_of_lt (by omega)
theorem StInv.writeVt {st : BSt} {i : Nat} (h : StInv st i) (hi : i ≤ 300) : StInv { st.writeVt with nested := false } (i + 1) := by
  obtain ⟨l0, hl0⟩ : ∃ l0, l0 = st.vtab.getD [] := ⟨_, rfl⟩
  have hl2 : l0.length ≤ 1000 := by
    rw [hl0]
    cases hv : st.vtab with
    | none => simp
    | some l => exact (h.inv.vtab l hv).1
  have g := writeVt_grow st l0 hl0.symm hl2
  have ht := trimZ_le l0
  have hvt : ∀ l, (st.vtab.map fun _ => ([] : List Nat)) = some l → l = [] := by
    intro l e
    cases hv : st.vtab with
    | none => rw [hv] at e; cases e
    | some l' => rw [hv] at e; injection e with e; exact e.symm
  have hgl := g.len
  have hoe := h.inv.oend
  have hsh : st.writeVt.shared = st.shared := by unfold BSt.writeVt; split <;> rfl
  have hoo : st.writeVt.oend = st.oend := by unfold BSt.writeVt; split <;> rfl
  have hvv : st.writeVt.vtab = st.vtab.map fun _ => [] := by unfold BSt.writeVt; split <;> rfl
  cases hf : vtFind st.vt1 st.vt1.bytes.length (trimZ (st.vtab.getD [])) st.vts with
  | some v =>
    have hvs : st.writeVt.vts = st.vts := by unfold BSt.writeVt; rw [hf]
    exact h.grow (st' := { st.writeVt with nested := false }) g (by omega) (fun l hl => by
      have hl : st.writeVt.vtab = some l := hl
      rw [hvv] at hl; rw [hvt l hl]; simp) hvs (by show st.writeVt.oend ≤ _; rw [hoo]; show _ ≤ st.writeVt.m.bytes.length; omega) (by show Maps.size (st.writeVt.shared.getD _) ≤ _; rw [hsh]; have := h.sh; omega)
  | none =>
    rw [← hl0] at hf
    obtain ⟨m4, hm4⟩ : ∃ m4, m4 = st.vt4 (trimZ l0) := ⟨_, rfl⟩
    have hw : st.writeVt = { st with m := m4.over st.vt1.bytes.length (leI 4 ((m4.bytes.length : Int) - st.vt1.bytes.length)), vtab := st.vtab.map (fun _ => []), vts := st.vts ++ [m4.bytes.length] } := by
      unfold BSt.writeVt; rw [← hl0, hf, hm4]
    have h4 := vt4_len st (trimZ l0)
    rw [← hm4] at h4
    have hol := BM.over_len m4 st.vt1.bytes.length (leI 4 ((m4.bytes.length : Int) - st.vt1.bytes.length)) (by rw [leI_length]; obtain ⟨a, zs, h1, h2, h3⟩ := st.vt1_split; rw [h1]; simp only [List.length_append]; omega) (by omega)
    have hfr : ∃ ys, (m4.over st.vt1.bytes.length (leI 4 ((m4.bytes.length : Int) - st.vt1.bytes.length))).bytes = leI 2 ((((trimZ l0).length + 2) * 2 : Nat) : Int) ++ ys := by
      obtain ⟨ys, hys⟩ := BSt.vt4_front st (trimZ l0)
      rw [← hm4] at hys
      have hyl : 2 ≤ m4.bytes.length - st.vt1.bytes.length := by omega
      refine ⟨ys.take (m4.bytes.length - st.vt1.bytes.length - 2) ++ leI 4 ((m4.bytes.length : Int) - st.vt1.bytes.length) ++ m4.bytes.drop (m4.bytes.length - st.vt1.bytes.length + (leI 4 ((m4.bytes.length : Int) - st.vt1.bytes.length)).length), ?_⟩
      show m4.bytes.take (m4.bytes.length - st.vt1.bytes.length) ++ _ ++ _ = _
      have e : m4.bytes.take (m4.bytes.length - st.vt1.bytes.length) = leI 2 ((((trimZ l0).length + 2) * 2 : Nat) : Int) ++ ys.take (m4.bytes.length - st.vt1.bytes.length - 2) := by
        conv => lhs; arg 2; rw [hys]
        rw [List.take_append, leI_length, List.take_of_length_le (by rw [leI_length]; omega)]
      rw [e]
      simp only [List.append_assoc]
    rw [hw] at g hgl ⊢
    obtain ⟨xs, hx, hxl⟩ := g.bytes
    dsimp only at hx hgl
    refine ⟨⟨fun v hvm => ?_, fun l hl => ?_, ?_, ?_⟩, g.least h.least, ?_, ?_, ?_⟩
    · dsimp only at hvm ⊢
      rcases List.mem_append.1 hvm with hvm | hvm
      · have := h.inv.vts v hvm
        rw [vtLen_app hx v this.1]
        omega
      · simp only [List.mem_singleton] at hvm
        subst hvm
        have hlen : vtLen (m4.over st.vt1.bytes.length (leI 4 ((m4.bytes.length : Int) - st.vt1.bytes.length))) m4.bytes.length = ((trimZ l0).length + 2) * 2 := by
          unfold vtLen fromEnd
          rw [hol, Nat.sub_self, List.drop_zero]
          obtain ⟨ys, hys⟩ := hfr
          rw [hys]
          exact leI2_front _ ys (by omega)
        rw [hlen, hol]
        omega
    · dsimp only at hl ⊢
      rw [hvt l hl]; simp
    · dsimp only; omega
    · dsimp only; rw [List.length_append, List.length_singleton]; have := h.many; omega
    · dsimp only; rw [List.length_append, List.length_singleton]; have := h.many; omega
    · dsimp only; have := h.sh; omega
    · dsimp only; have := h.len; omega
theorem finish_some {st st' : BSt} {off : Nat} (e : st.finish off = some st') : st.nested = false ∧ ∃ m, (st.m.prep st.m.least 4).refer off = some m ∧ st' = { st with m := m, fin := true } := by
  unfold BSt.finish at e
  cases hn : st.nested with
  | true => rw [if_pos hn] at e; cases e
  | false =>
    rw [if_neg (by rw [hn]; simp)] at e
    refine ⟨rfl, ?_⟩
    cases hr : BSt.refer { st with m := st.m.prep st.m.least 4 } off with
    | none => rw [hr] at e; cases e
    | some s =>
      rw [hr] at e
      injection e with e
      subst e
      unfold BSt.refer at hr
      cases hm : (st.m.prep st.m.least 4).refer off with
      | none =>
        have : BM.refer ({ st with m := st.m.prep st.m.least 4 } : BSt).m off = none := hm
        rw [this] at hr; cases hr
      | some m =>
        have : BM.refer ({ st with m := st.m.prep st.m.least 4 } : BSt).m off = some m := hm
        rw [this] at hr
        injection hr with hr
        subst hr
        exact ⟨m, rfl, by cases st; simp_all⟩
theorem StInv.finished {st st' : BSt} {i off : Nat} (h : StInv st i) (e : st.finish off = some st') : StInv st' (i + 1) := by
  obtain ⟨_, m, hm, rfl⟩ := finish_some e
  exact (h.bytes (m' := m) ((Grow.prep st.m _ 4 h.least).trans (Grow.refer hm)) (by omega)).same rfl rfl rfl rfl rfl
theorem put_size (D : DataW Unit) (k : Lit) (d : DataW Unit) : Maps.size (D.put k d) ≤ Maps.size D + 1 := by
  cases D with
  | map es =>
    rw [DataW.put_eq]
    unfold ChangeMaps.putKey
    simp only [Maps.size]
    rw [length_insert]
    have := List.length_filter_le (ChangeMaps.notKey k) es
    omega
  | _ => simp [DataW.put, Maps.size]
end Go.Proofs.YtfplgggepoaajaaGreat
