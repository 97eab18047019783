/- FnBuildFinish: finished bytes begin with the offset of their root. -/
import Derived.Test.YtfplgggepoaajaaGreatRight
namespace Go.Proofs.YtfplgggepoaajaaGreat
open Go.RowKit
set_option linter.unusedVariables false
set_option linter.unusedSimpArgs false

theorem vtPut_least (o : Nat) (m : BM) (h : 2 ≤ m.least) : ∀ (l : List Nat), (vtPut o l m).least = m.least
  | [] => rfl
  | f :: l => by
    rw [vtPut_cons]
    show max (vtPut o l m).least 2 = _
    rw [vtPut_least o m h l]; omega
theorem trimZ_len (l : List Nat) : (trimZ l).length ≤ l.length := trimZ_le l
/-- An object that is ended, where there is no vtable yet. -/
theorem endObj_new (st : BSt) (l : List Nat) (hn : st.nested = true) (hv : st.vtab = some l) (hvs : st.vts = []) :
    ∃ st', st.endObj = some (st.vt1.bytes.length, st') ∧ st'.nested = false ∧ st'.fin = st.fin ∧ st'.m.least = max st.m.least 4 ∧ st.vt1.bytes.length ≤ st'.m.bytes.length := by
  have hvt : st.vtab.getD [] = l := by rw [hv]; rfl
  have hw : st.writeVt = { st with m := (st.vt4 (trimZ l)).over st.vt1.bytes.length (leI 4 (((st.vt4 (trimZ l)).bytes.length : Int) - st.vt1.bytes.length)), vtab := st.vtab.map (fun _ => []), vts := st.vts ++ [(st.vt4 (trimZ l)).bytes.length] } := by
    unfold BSt.writeVt
    rw [hvt, hvs]
    rfl
  refine ⟨{ st.writeVt with nested := false }, ?_, rfl, ?_, ?_, ?_⟩
  · unfold BSt.endObj
    rw [if_pos hn]
  · rw [hw]
  · rw [hw]
    show (st.vt4 (trimZ l)).least = _
    have h1 : st.vt1.least = max st.m.least 4 := rfl
    show max (max (vtPut st.vt1.bytes.length (trimZ l) st.vt1).least 2) 2 = _
    rw [vtPut_least _ _ (by omega), h1]; omega
  · have h4 := vt4_len st (trimZ l)
    have hvl : 4 ≤ st.vt1.bytes.length := by
      obtain ⟨a, zs, h1, h2, h3⟩ := st.vt1_split
      rw [h1, List.length_append]; omega
    rw [hw]
    show st.vt1.bytes.length ≤ ((st.vt4 (trimZ l)).over _ _).bytes.length
    rw [BM.over_len _ _ _ (by rw [leI_length]; exact hvl) (by omega)]
    omega
theorem fin_plain (st : BSt) (o : Nat) (hn : st.nested = false) (ha : algn st.m.least) (h4 : 4 ≤ st.m.least) (ho : o ≤ st.m.bytes.length) :
    ∃ st' N, st.finish o = some st' ∧ st'.fin = true ∧ N = (st.m.prep st.m.least 4).bytes.length + 4 ∧ st'.m.bytes = leB 4 (N - o) ++ (st.m.prep st.m.least 4).bytes ∧ N % st.m.least = 0 ∧ o ≤ N := by
  have hm := prep_mod st.m st.m.least 4 ha
  have hl := st.m.prep_len st.m.least 4 ha
  have hl4 : (st.m.prep st.m.least 4).bytes.length % 4 = 0 := by
    unfold algn at ha
    rcases ha with h | h | h | h | h <;> (rw [h] at hm ⊢; omega)
  obtain ⟨m', h1, h2⟩ := refer_pos (st := { st with m := st.m.prep st.m.least 4 }) hl4 (off := o) (by show o ≤ (st.m.prep st.m.least 4).bytes.length; omega)
  refine ⟨{ st with m := m', fin := true }, (st.m.prep st.m.least 4).bytes.length + 4, ?_, rfl, rfl, ?_, hm, by omega⟩
  · unfold BSt.finish
    rw [if_neg (by rw [hn]; simp), h1]; rfl
  · show m'.bytes = _
    rw [h2]
    show leB 4 ((st.m.prep st.m.least 4).bytes.length - o + 4) ++ _ = _
    rw [show (st.m.prep st.m.least 4).bytes.length - o + 4 = (st.m.prep st.m.least 4).bytes.length + 4 - o by omega]
theorem finId_plain (st : BSt) (o : Nat) (xs : List UInt8) (hn : st.nested = false) (ha : algn st.m.least) (h4 : 4 ≤ st.m.least) (ho : o ≤ st.m.bytes.length) (hx : xs.length = 4) :
    ∃ st' N rest, st.finishId o xs = some st' ∧ st'.fin = true ∧ N = rest.length + 8 ∧ st'.m.bytes = leB 4 (N - o) ++ (xs ++ rest) ∧ N % st.m.least = 0 ∧ o ≤ N := by
  have hm := prep_mod st.m st.m.least 8 ha
  have hl := st.m.prep_len st.m.least 8 ha
  have hlst : ((st.m.prep st.m.least 8).put xs).least = st.m.least := by show max st.m.least st.m.least = _; omega
  have hlen : ((st.m.prep st.m.least 8).put xs).bytes.length = (st.m.prep st.m.least 8).bytes.length + 4 := by
    show (xs ++ _).length = _
    rw [List.length_append, hx]; omega
  obtain ⟨st', N, h1, h2, h3, h5, h6, h7⟩ := fin_plain { st with m := (st.m.prep st.m.least 8).put xs } o hn (by rw [hlst]; exact ha) (by rw [hlst]; exact h4) (by rw [hlen]; omega)
  rw [hlst] at h3 h5 h6
  have hid := prep_id ((st.m.prep st.m.least 8).put xs) st.m.least 4 ha (by rw [hlen, Nat.add_assoc]; exact hm)
  have h3' : N = ((st.m.prep st.m.least 8).put xs).bytes.length + 4 := by rw [h3]; exact congrArg (fun l : List UInt8 => l.length + 4) hid
  have h5' : st'.m.bytes = leB 4 (N - o) ++ ((st.m.prep st.m.least 8).put xs).bytes := h5.trans (congrArg (leB 4 (N - o) ++ ·) hid)
  refine ⟨st', N, (st.m.prep st.m.least 8).bytes, ?_, h2, by rw [h3', hlen], h5', h6, h7⟩
  unfold BSt.finishId
  rw [if_pos hx]; exact h1

def fnS0 (k n : Nat) (t : List UInt8) : List BS := [⟨12, 0, 0, 0, 0, 0, 0, 0, 0, 0, t⟩, ⟨0, 0, 2, 0, 0, 0, 0, 0, 0, 0, []⟩, ⟨5, 0, 0, 0, 0, 0, 1, 0, 0, 0, []⟩, ⟨2, k, 0, n, 0, 0, 0, 0, 0, 0, []⟩, ⟨9, 0, 1, 0, 0, 0, 0, 0, 0, 0, []⟩, ⟨1, 0, 0, 0, 0, 0, 0, 0, 0, 0, []⟩]
def fnE (id : List UInt8) : BS := if id = [] then ⟨19, 0, 0, 0, 0, 0, 6, 0, 0, 0, []⟩ else ⟨20, 0, 0, 0, 0, 0, 6, 0, 0, 0, id⟩
def fnB : BS := ⟨22, 0, 0, 0, 0, 0, 0, 0, 0, 0, []⟩
/-- Behind the first six steps. -/
theorem fn_run0 (k n : Nat) (t : List UInt8) (ht : t.length ≤ 1000) (hr : Right (k : Int) n) : ∃ an st o, (∀ rest, mRunB (fnS0 k n t ++ rest) [] (st0 0) = mRunB rest an st) ∧ an.length = 6 ∧ an.getD 5 BAns.dead = ⟨o, st.m.bytes.length, [], false⟩ ∧
    st.nested = false ∧ st.m.least = max 4 (numSize k) ∧ algn st.m.least ∧ o ≤ st.m.bytes.length := by
  have hz := numSize_algn hr.1 hr.2.1
  obtain ⟨m1, hm1⟩ : ∃ m1, m1 = (st0 0).m.text t true := ⟨_, rfl⟩
  obtain ⟨q, hq, hb, h4⟩ := text_true (st0 0).m t
  rw [← hm1] at hb h4
  have hl1 : m1.least = 4 := by rw [hm1]; rfl
  have hp1 : 4 ≤ m1.bytes.length := by rw [hb]; simp [leB_length]
  have hl2 : m1.bytes.length ≤ 2000 := by rw [hb]; simp [leB_length, st0]; omega
  obtain ⟨m3, hm3⟩ : ∃ m3, m3 = (m1.prep 4 0).put (leB 4 ((m1.prep 4 0).bytes.length - m1.bytes.length + 4)) := ⟨_, rfl⟩
  have hid := prep_id m1 4 0 (by unfold algn; omega) h4
  have hl3 : m3.least = 4 := by rw [hm3]; show max m1.least 4 = 4; omega
  have hb3 : m3.bytes.length = m1.bytes.length + 4 := by
    rw [hm3]
    show (leB 4 _ ++ (m1.prep 4 0).bytes).length = _
    rw [List.length_append, leB_length, hid]; omega
  obtain ⟨m4, hm4⟩ : ∃ m4, m4 = (m3.prep (numSize k) 0).put (numB k n) := ⟨_, rfl⟩
  have hl4 : m4.least = max 4 (numSize k) := by rw [hm4]; show max m3.least _ = _; rw [hl3]
  obtain ⟨L, hL⟩ : ∃ L, L = m1.bytes.length := ⟨_, rfl⟩
  let S1 : BSt := ⟨m1, none, 0, [], false, false, none⟩
  let S2 : BSt := ⟨m1, some [0, 0], L, [], true, false, none⟩
  let S3 : BSt := ⟨m3, some [m3.bytes.length, 0], L, [], true, false, none⟩
  let S4 : BSt := ⟨m4, some [m3.bytes.length, 0], L, [], true, false, none⟩
  let S5 : BSt := ⟨m4, some [m3.bytes.length, m4.bytes.length], L, [], true, false, none⟩
  obtain ⟨S6, e6, n6, f6, l6, b6⟩ := endObj_new S5 _ rfl rfl rfl
  have a1 : ∀ o, mStep (st0 0) ⟨12, 0, 0, 0, 0, 0, 0, 0, 0, 0, t⟩ o = some (L, [], S1) := by
    intro o
    show numN (BSt.created (st0 0) t true) = _
    rw [created_eq _ _ _ rfl, ← hm1, ← hL]; rfl
  have a2 : ∀ o, mStep S1 ⟨0, 0, 2, 0, 0, 0, 0, 0, 0, 0, []⟩ o = some (0, [], S2) := by
    intro o
    show some (0, [], (⟨m1, some (List.replicate 2 0), m1.bytes.length, [], true, false, none⟩ : BSt)) = _
    rw [← hL]; rfl
  have a3 : mStep S2 ⟨5, 0, 0, 0, 0, 0, 1, 0, 0, 0, []⟩ L = some (0, [], S3) := by
    show unitN (S2.offSlot 0 L 0) = _
    unfold BSt.offSlot
    have er : S2.refer L = some { S2 with m := m3 } := by
      unfold BSt.refer BM.refer
      rw [if_pos (by show L ≤ (m1.prep 4 0).bytes.length; rw [hid, hL]; exact Nat.le_refl _)]
      show some ({ S2 with m := (m1.prep 4 0).put (leB 4 ((m1.prep 4 0).bytes.length - L + 4)) } : BSt) = _
      rw [hL, ← hm3]
    rw [if_neg (by omega), er]
    rfl
  have a4 : ∀ o, mStep S3 ⟨2, k, 0, n, 0, 0, 0, 0, 0, 0, []⟩ o = some (0, [], S4) := by
    intro o
    show some (0, [], ({ S3 with m := (m3.prep (numSize k) 0).put (numB k n) } : BSt)) = _
    rw [← hm4]
  have a5 : ∀ o, mStep S4 ⟨9, 0, 1, 0, 0, 0, 0, 0, 0, 0, []⟩ o = some (0, [], S5) := fun o => rfl
  have a6 : ∀ o, mStep S5 ⟨1, 0, 0, 0, 0, 0, 0, 0, 0, 0, []⟩ o = some (S5.vt1.bytes.length, [], S6) := by
    intro o
    show numN S5.endObj = _
    rw [e6]; rfl
  have o3 : offOf ⟨5, 0, 0, 0, 0, 0, 1, 0, 0, 0, []⟩ ([] ++ [⟨L, m1.bytes.length, [], false⟩] ++ [⟨0, m1.bytes.length, [], false⟩]) = L := by
    show (0 + L) % 4294967296 = L
    omega
  refine ⟨[⟨L, S1.m.bytes.length, [], false⟩, ⟨0, S2.m.bytes.length, [], false⟩, ⟨0, S3.m.bytes.length, [], false⟩, ⟨0, S4.m.bytes.length, [], false⟩, ⟨0, S5.m.bytes.length, [], false⟩, ⟨S5.vt1.bytes.length, S6.m.bytes.length, [], false⟩], S6, S5.vt1.bytes.length, ?_, ?_, ?_, n6, ?_, ?_, b6⟩
  · intro rest
    show mRunB (⟨12, 0, 0, 0, 0, 0, 0, 0, 0, 0, t⟩ :: ⟨0, 0, 2, 0, 0, 0, 0, 0, 0, 0, []⟩ :: ⟨5, 0, 0, 0, 0, 0, 1, 0, 0, 0, []⟩ :: ⟨2, k, 0, n, 0, 0, 0, 0, 0, 0, []⟩ :: ⟨9, 0, 1, 0, 0, 0, 0, 0, 0, 0, []⟩ :: ⟨1, 0, 0, 0, 0, 0, 0, 0, 0, 0, []⟩ :: rest) [] (st0 0) = _
    rw [mRunB_cons (a1 _), mRunB_cons (a2 _), mRunB_cons (by rw [o3]; exact a3), mRunB_cons (a4 _), mRunB_cons (a5 _), mRunB_cons (a6 _)]
    rfl
  · rfl
  · rfl
  · rw [l6]; show max m4.least 4 = _; rw [hl4]; omega
  · rw [l6]; show algn (max m4.least 4)
    rw [hl4]
    unfold algn at hz ⊢
    rcases hz with h | h | h | h | h <;> rw [h] <;> omega
theorem run_inv : ∀ (steps : List BS) (an : List BAns) (st st' : BSt) (i : Nat), SafeRun steps an st → StInv st i → i + steps.length ≤ 300 → (mRunB steps an st).2 = some st' → StInv st' (i + steps.length)
  | [], an, st, st', i, _, h, _, e => by
    have : some st = some st' := e
    injection this with this
    subst this; exact h
  | s :: rest, an, st, st', i, hs, h, hi, e => by
    obtain ⟨h1, h2, h3⟩ := hs
    rw [List.length_cons] at hi
    cases hm : mStep st s (offOf s an) with
    | none => rw [mRunB_stop hm] at e; cases e
    | some x =>
      obtain ⟨r, t, s1⟩ := x
      rw [mRunB_cons hm] at e
      rw [hm] at h3
      have := run_inv rest _ s1 st' (i + 1) h3 (mStep_inv h (by omega) h1 h2 hm) (by omega) e
      rw [List.length_cons, show i + (rest.length + 1) = i + 1 + rest.length by omega]
      exact this
theorem fn_safe (k n : Nat) (t id : List UInt8) (ht : t.length ≤ 1000) (hi : id.length ≤ 10) (hn : n < 2 ^ 64) (hr : Right (k : Int) n) : ∀ s ∈ fnS0 k n t ++ [fnE id, fnB], SOK s ∧ s.op ≠ 17 ∧ s.op ≠ 18 ∧ s.op ≠ 10 := by
  intro s hs
  simp only [fnS0, List.mem_append, List.mem_cons, List.mem_nil_iff, or_false] at hs
  rcases hs with (rfl | rfl | rfl | rfl | rfl | rfl) | rfl | rfl
  · exact ⟨by constructor <;> simp [ht], by simp, by simp, by simp⟩
  · exact ⟨by constructor <;> simp, by simp, by simp, by simp⟩
  · exact ⟨by constructor <;> simp, by simp, by simp, by simp⟩
  · exact ⟨by constructor <;> simp [hr] <;> omega, by simp, by simp, by simp⟩
  · exact ⟨by constructor <;> simp, by simp, by simp, by simp⟩
  · exact ⟨by constructor <;> simp, by simp, by simp, by simp⟩
  · unfold fnE
    split
    · exact ⟨by constructor <;> simp, by simp, by simp, by simp⟩
    · have : id.length ≤ 1000 := by omega
      exact ⟨by constructor <;> simp [this], by simp, by simp, by simp⟩
  · exact ⟨by constructor <;> simp [fnB], by simp [fnB], by simp [fnB], by simp [fnB]⟩
theorem fn_good (k n : Nat) (t id : List UInt8) (ht : t.length ≤ 1000) (hi : id = [] ∨ id.length = 4) (hn : n < 2 ^ 64) (hr : Right (k : Int) n) : ∃ an st' o N rest, mScript 0 (fnS0 k n t ++ [fnE id, fnB]) = (an, some st') ∧
    an.length = 8 ∧ (∃ x5, an[5]? = some x5 ∧ x5.r = o) ∧ (∃ x7, an[7]? = some x7 ∧ x7.t = leB 4 (N - o) ++ (id ++ rest)) ∧ 4 + (id.length + rest.length) = N ∧ N % (max 4 (numSize k)) = 0 ∧ o ≤ N ∧ N ≤ 40000 := by
  have hs0 := fn_safe k n t id ht (by rcases hi with rfl | h <;> simp_all) hn hr
  have hsafe : SafeRun (fnS0 k n t ++ [fnE id, fnB]) [] (st0 0) := safe_plain _ _ _ hs0 (HasVt.start 0)
  obtain ⟨an, st, o, e, hl, ha, hne, hle, hal, ho⟩ := fn_run0 k n t ht hr
  have hsix : ∃ a0 a1 a2 a3 a4 a5, an = [a0, a1, a2, a3, a4, a5] := by
    match an, hl with
    | [a0, a1, a2, a3, a4, a5], _ => exact ⟨a0, a1, a2, a3, a4, a5, rfl⟩
  obtain ⟨a0, a1, a2, a3, a4, a5, rfl⟩ := hsix
  have h5 : a5 = ⟨o, st.m.bytes.length, [], false⟩ := ha
  have hst : st.m.bytes.length ≤ 40000 := by
    have h0 := e []
    have := (run_inv (fnS0 k n t ++ []) [] (st0 0) st 0 (safe_plain _ _ _ (fun s hs => hs0 s (by rw [List.append_nil] at hs; exact List.mem_append_left _ hs)) (HasVt.start 0)) (StInv.start 0) (by simp [fnS0]) (by rw [h0]; rfl)).len
    simp [fnS0] at this
    omega
  have hoo : ∀ s : BS, s.ref = 6 → s.off = 0 → offOf s [a0, a1, a2, a3, a4, a5] = o := by
    intro s h1 h2
    unfold offOf
    rw [h1, h2, if_pos ⟨by omega, by simp⟩, h5]
    show (0 + o) % 4294967296 = o
    omega
  by_cases hid : id = []
  · subst hid
    obtain ⟨s1, N, f1, f2, f3, f4, f5, f6⟩ := fin_plain st o hne hal (by rw [hle]; omega) ho
    have b1 : mStep st (fnE []) (offOf (fnE []) [a0, a1, a2, a3, a4, a5]) = some (0, [], s1) := by
      rw [hoo _ rfl rfl]
      show unitN (st.finish o) = _
      rw [f1]; rfl
    have b2 : ∀ x, mStep s1 fnB x = some (0, s1.m.bytes, s1) := by
      intro x
      show (if s1.fin = true then _ else _) = _
      rw [if_pos f2]
    have hrun : mScript 0 (fnS0 k n t ++ [fnE [], fnB]) = ([a0, a1, a2, a3, a4, a5, ⟨0, s1.m.bytes.length, [], false⟩, ⟨0, s1.m.bytes.length, s1.m.bytes, false⟩], some s1) := by
      show mRunB _ _ _ = _
      rw [e _, mRunB_cons b1, mRunB_cons (b2 _)]; rfl
    have hN := (run_inv _ _ _ s1 0 hsafe (StInv.start 0) (by simp [fnS0]) (congrArg Prod.snd hrun)).len
    refine ⟨_, s1, o, N, (st.m.prep st.m.least 4).bytes, hrun, rfl, ⟨_, rfl, by rw [h5]⟩, ⟨_, rfl, f4⟩, by rw [f3]; simp; omega, by rw [← hle]; exact f5, f6, ?_⟩
    rw [f4] at hN
    simp [leB_length, fnS0] at hN
    omega
  · have hid4 : id.length = 4 := by rcases hi with h | h; exact absurd h hid; exact h
    obtain ⟨s1, N, rest, f1, f2, f3, f4, f5, f6⟩ := finId_plain st o id hne hal (by rw [hle]; omega) ho hid4
    have eE : fnE id = ⟨20, 0, 0, 0, 0, 0, 6, 0, 0, 0, id⟩ := if_neg hid
    have b1 : mStep st (fnE id) (offOf (fnE id) [a0, a1, a2, a3, a4, a5]) = some (0, [], s1) := by
      rw [eE, hoo _ rfl rfl]
      show unitN (st.finishId o id) = _
      rw [f1]; rfl
    have b2 : ∀ x, mStep s1 fnB x = some (0, s1.m.bytes, s1) := by
      intro x
      show (if s1.fin = true then _ else _) = _
      rw [if_pos f2]
    have hrun : mScript 0 (fnS0 k n t ++ [fnE id, fnB]) = ([a0, a1, a2, a3, a4, a5, ⟨0, s1.m.bytes.length, [], false⟩, ⟨0, s1.m.bytes.length, s1.m.bytes, false⟩], some s1) := by
      show mRunB _ _ _ = _
      rw [e _, mRunB_cons b1, mRunB_cons (b2 _)]; rfl
    have hN := (run_inv _ _ _ s1 0 hsafe (StInv.start 0) (by simp [fnS0]) (congrArg Prod.snd hrun)).len
    refine ⟨_, s1, o, N, rest, hrun, rfl, ⟨_, rfl, by rw [h5]⟩, ⟨_, rfl, f4⟩, by omega, by rw [← hle]; exact f5, f6, ?_⟩
    rw [f4] at hN
    simp [leB_length, fnS0] at hN
    omega
theorem fn_bad (k n : Nat) (t id : List UInt8) (ht : t.length ≤ 1000) (hi : id ≠ []) (h4 : id.length ≠ 4) (hr : Right (k : Int) n) : ∃ an, mScript 0 (fnS0 k n t ++ [fnE id, fnB]) = (an, none) ∧ an.length = 7 := by
  obtain ⟨an, st, o, e, hl, ha, hne, hle, hal, ho⟩ := fn_run0 k n t ht hr
  have eE : fnE id = ⟨20, 0, 0, 0, 0, 0, 6, 0, 0, 0, id⟩ := if_neg hi
  have b1 : mStep st (fnE id) (offOf (fnE id) an) = none := by
    rw [eE]
    show unitN (st.finishId _ id) = _
    unfold BSt.finishId
    rw [if_neg h4]; rfl
  refine ⟨an ++ [BAns.dead], ?_, by simp [hl]⟩
  show mRunB _ _ _ = _
  rw [e _, mRunB_stop b1]
theorem infoSStep3 : (Tryz.prog.info? 28).map (fun i => (i.zero, i.size, i.bytes)) = some (some (.agg #[.int .u8 0, .int .u8 0, .int .i64 0, .int .u64 0, .int .u64 0, .int .u32 0, .int .i64 0, .int .i64 0, .int .i64 0, .int .i64 0, .string ⟨#[]⟩]), 11, 88) := by kernel_rfl

theorem own_cells_in {w : World} {base z : Nat} {e : TypeId} {g n cap : Nat} {α : Type} {f : α → List Value} (hf : ∀ x, (f x).length = z) {l : List α} (h : w.ownsRow base e z (.slice (some ⟨g, 0, none⟩) n cap) l.length (l.flatMap f)) (i j : Nat) (hi : i < l.length) (hj : j < z) : w.cell? ⟨g, i * z + j, none⟩ = (f l[i])[j]? := by
  obtain ⟨g', cap', hv, hgl, hcs⟩ := own_cellsZ hf h hi
  injection hv with e1 _ _
  injection e1 with e1
  injection e1 with e1
  subst e1
  exact hcs j hj
theorem own_slice {w : World} {base z : Nat} {e : TypeId} {v : Value} {n : Nat} {xs : List Value} (h : w.ownsRow base e z v n xs) (hn : 0 < n) : ∃ g cap, v = .slice (some ⟨g, 0, none⟩) n cap ∧ base ≤ g ∧ g < w.heap.size := by
  rcases h.2 with ⟨_, h0⟩ | ⟨g, cap, cur, rfl, hb, hg, h1, h2, h3, h4⟩
  · omega
  · exact ⟨g, cap, rfl, hb, lt_of_block hg⟩
theorem str_extract (a b c : List UInt8) (q : Nat) (hq : q = a.length + b.length) : (strOf (a ++ (b ++ c))).extract a.length q = strOf b := by
  subst hq
  apply ByteArray.ext
  apply Array.toList_inj.1
  simp [strOf, ByteArray.extract, ByteArray.copySlice, Array.toList_extract]
theorem cells_one (l : List BS) : ∀ u ∈ l.flatMap bsC, u.oneCell' = true := by
  intro u hu
  obtain ⟨s, _, hs⟩ := List.mem_flatMap.1 hu
  exact bsC_one s u hs
/-- What buildRun gives for the script that ends well. -/
theorem Run_fn (k n : Nat) (t id : List UInt8) (ht : t.length ≤ 1000) (hi : id = [] ∨ id.length = 4) (hn : n < 2 ^ 64) (hr : Right (k : Int) n) (v : Value) (w : World) (hown : w.ownsRow 0 28 11 v (6 + 2) ((fnS0 k n t).flatMap bsC ++ [fnE id, fnB].flatMap bsC)) :
    Calls Tryz.prog 14 #[v] w fun e w' => ∃ g cap o N z D Dv, e = .returned (.tuple #[.slice (some ⟨g, 0, none⟩) 8 cap, .string Dv, .bool true]) ∧ w.heap.size ≤ g ∧ g < w'.heap.size ∧ Fr0 w w' ∧ z = numSize k ∧
      w'.cell? ⟨g, 20, none⟩ = some (.int .u32 (o : Nat)) ∧ w'.cell? ⟨g, 30, none⟩ = some (.string D) ∧ (∃ rest, D = strOf (leB 4 (N - o) ++ (id ++ rest))) ∧ D.size = N ∧ 4 + id.length ≤ N ∧ N % (max 4 z) = 0 ∧ o ≤ N ∧ N ≤ 40000 := by
  have hs0 := fn_safe k n t id ht (by rcases hi with rfl | h <;> simp_all) hn hr
  have hsafe : SafeRun (fnS0 k n t ++ [fnE id, fnB]) [] (st0 0) := safe_plain _ _ _ hs0 (HasVt.start 0)
  refine (buildRun_calls v (fnS0 k n t ++ [fnE id, fnB]) w (by rw [List.flatMap_append]; exact hown) (by simp [fnS0]) hsafe).mono ?_
  rintro e w' ⟨r, rfl, hown', hf⟩
  obtain ⟨an, st', o, N, rest, hrun, hl, ⟨x5, h5, h5r⟩, ⟨x7, h7, h7t⟩, hN, hNm, hoN, hNl⟩ := fn_good k n t id ht hi hn hr
  rw [hrun] at hown' ⊢
  rw [show (an, some st').1 = an from rfl] at hown'
  have hown8 := hown'
  rw [hl] at hown8
  obtain ⟨g, cap, rfl, hb, hgl⟩ := own_slice hown8 (by omega)
  obtain ⟨l5, e5⟩ := List.getElem?_eq_some_iff.1 h5
  obtain ⟨l7, e7⟩ := List.getElem?_eq_some_iff.1 h7
  have c5 := own_cells_in (f := bansC) (z := 4) (fun _ => rfl) hown' 5 0 l5 (by omega)
  have c7 := own_cells_in (f := bansC) (z := 4) (fun _ => rfl) hown' 7 2 l7 (by omega)
  rw [e5] at c5
  rw [e7] at c7
  refine ⟨g, cap, o, N, _, strOf x7.t, _, rfl, hb, hgl, hf, rfl, ?_, c7, ⟨rest, by rw [h7t]⟩, ?_, by omega, hNm, hoN, hNl⟩
  · rw [← h5r]; exact c5
  · rw [strOf_size, h7t]; simp [leB_length]; omega
theorem Run_fnBad (k n : Nat) (t id : List UInt8) (ht : t.length ≤ 1000) (hi : id ≠ []) (h4 : id.length ≠ 4) (h10 : id.length ≤ 10) (hn : n < 2 ^ 64) (hr : Right (k : Int) n) (v : Value) (w : World) (hown : w.ownsRow 0 28 11 v (6 + 2) ((fnS0 k n t).flatMap bsC ++ [fnE id, fnB].flatMap bsC)) :
    Calls Tryz.prog 14 #[v] w fun e w' => ∃ g cap Dv, e = .returned (.tuple #[.slice (some ⟨g, 0, none⟩) 7 cap, .string Dv, .bool false]) ∧ Fr0 w w' := by
  have hs0 := fn_safe k n t id ht h10 hn hr
  have hsafe : SafeRun (fnS0 k n t ++ [fnE id, fnB]) [] (st0 0) := safe_plain _ _ _ hs0 (HasVt.start 0)
  refine (buildRun_calls v (fnS0 k n t ++ [fnE id, fnB]) w (by rw [List.flatMap_append]; exact hown) (by simp [fnS0]) hsafe).mono ?_
  rintro e w' ⟨r, rfl, hown', hf⟩
  obtain ⟨an, hrun, hl⟩ := fn_bad k n t id ht hi h4 hr
  rw [hrun] at hown' ⊢
  rw [show (an, (none : Option BSt)).1 = an from rfl, hl] at hown'
  obtain ⟨g, cap, rfl, hb, hgl⟩ := own_slice hown' (by omega)
  exact ⟨g, cap, _, rfl, hf⟩

set_option maxRecDepth 20000 in
set_option maxHeartbeats 4000000 in
theorem FnBuildFinish_walk (kind n : Int) (t id : ByteArray) (w0 : (Lit.int .u8 kind).wf = true) (w1 : (Lit.int .u64 n).wf = true) (w2 : t.size ≤ maxLen) (w3 : id.size ≤ maxLen) (w : World) :
    Calls Tryz.prog 4 #[.int .u8 kind, .int .u64 n, .string t, .string id] w fun e w' => e = .returned (.bool true) ∧ Below w.heap.size w w' := by
  unfold maxLen at w2 w3
  obtain ⟨k, rfl, hk⟩ : ∃ k : Nat, kind = k ∧ k < 256 := by
    have := bounds_u8 w0
    exact ⟨kind.toNat, by omega, by omega⟩
  obtain ⟨n, rfl, hn⟩ : ∃ m : Nat, n = m ∧ m < 2 ^ 64 := by
    have := bounds_u64 w1
    exact ⟨n.toNat, by omega, by omega⟩
  clear w0 w1
  have HSR := Lib.hid (fun w => ScalarRight_calls k n hk hn w)
  by_cases h1 : 2147483647 < t.size
  · clear HSR
    go_enter Tryz.func4, Tryz.ntmps4
    go_wp2_with fail
    go_ret
    exact ⟨rfl, Below.refl _ _⟩
  by_cases h2 : 2147483647 < id.size
  · clear HSR
    go_enter Tryz.func4, Tryz.ntmps4
    go_wp2_with fail
    go_ret
    exact ⟨rfl, Below.refl _ _⟩
  by_cases h3 : rightB k n = false ∨ 1000 < t.size ∨ 10 < id.size
  · cases hrb : rightB k n with
    | false =>
      rw [hrb] at HSR
      clear hrb h3
      go_enter Tryz.func4, Tryz.ntmps4
      go_wp2_with (first | (go_at_call 12; refine (buildAwake_calls _).mono ?_; rintro e w' ⟨rfl, hf⟩) | (go_at_call 11; refine (HSR.out _).mono ?_; rintro e w' ⟨rfl, rfl⟩))
      go_ret
      exact ⟨rfl, Fr0.below hf⟩
    | true =>
      rw [hrb] at HSR h3
      have h4 : 1000 < t.size ∨ 10 < id.size := by simpa using h3
      clear hrb h3
      rcases h4 with h4 | h4
      · go_enter Tryz.func4, Tryz.ntmps4
        go_wp2_with (first | (go_at_call 12; refine (buildAwake_calls _).mono ?_; rintro e w' ⟨rfl, hf⟩) | (go_at_call 11; refine (HSR.out _).mono ?_; rintro e w' ⟨rfl, rfl⟩))
        go_ret
        exact ⟨rfl, Fr0.below hf⟩
      · by_cases h5 : 1000 < t.size
        · go_enter Tryz.func4, Tryz.ntmps4
          go_wp2_with (first | (go_at_call 12; refine (buildAwake_calls _).mono ?_; rintro e w' ⟨rfl, hf⟩) | (go_at_call 11; refine (HSR.out _).mono ?_; rintro e w' ⟨rfl, rfl⟩))
          go_ret
          exact ⟨rfl, Fr0.below hf⟩
        · go_enter Tryz.func4, Tryz.ntmps4
          go_wp2_with (first | (go_at_call 12; refine (buildAwake_calls _).mono ?_; rintro e w' ⟨rfl, hf⟩) | (go_at_call 11; refine (HSR.out _).mono ?_; rintro e w' ⟨rfl, rfl⟩))
          go_ret
          exact ⟨rfl, Fr0.below hf⟩
  have hrb : rightB k n = true := by cases h : rightB k n <;> simp_all
  have h4 : t.size ≤ 1000 := by simp only [not_or] at h3; omega
  have h5 : id.size ≤ 10 := by simp only [not_or] at h3; omega
  have hr := (rightB_iff k n).1 hrb
  rw [hrb] at HSR
  clear h3 hrb
  have HRT := Lib.hid hr
  clear hr
  obtain ⟨i0, hi, hz0, hz1, hz2⟩ := info_parts infoSStep3
  have hown0 : ∀ w : World, (w.alloc (.cells ((fnS0 k n t.data.toList).flatMap bsC).toArray 28)).ownsRow 0 28 11 (.slice (some ⟨w.heap.size, 0, none⟩) 6 6) 6 ((fnS0 k n t.data.toList).flatMap bsC) := fun w => own_lit rfl (by omega)
  unfold fnS0 at hown0
  simp only [List.flatMap_cons, List.flatMap_nil, bsC, List.cons_append, List.nil_append, List.append_nil, strOf_data] at hown0
  have HOWN := Lib.hid hown0
  have HSS := Lib.hid (fun w => ScalarSize_calls k (by have := HRT.out.2.1; omega) w)
  have HZ := Lib.hid (numSize_algn HRT.out.1 HRT.out.2.1)
  have HN := Lib.hid hn
  clear hown0 hn
  by_cases hid : id = ⟨#[]⟩
  · subst hid
    have HR := Lib.hid (fun v w h => Run_fn k n t.data.toList [] (by rw [Array.length_toList]; exact h4) (.inl rfl) HN.out HRT.out v w h)
    go_enter Tryz.func4, Tryz.ntmps4
    go_wp2_with fail
    refine (HSR.out _).mono ?_
    rintro e w' ⟨rfl, rfl⟩
    go_wp2_with (at_builtin; refine wpList_append_own _ rfl (.tmp 56) (.tmp 59) 25 rfl 0 28 i0 (.agg #[.int .u8 0, .int .u8 0, .int .i64 0, .int .u64 0, .int .u64 0, .int .u32 0, .int .i64 0, .int .i64 0, .int .i64 0, .int .i64 0, .string ⟨#[]⟩]) 11 88 Tryz.underlying25 hi hz0 hz1 hz2 rfl (by decide) _ _ _ rfl (((HOWN.out w').alloc _).alloc _) ⟨w'.heap.size + 2, 0, none⟩ 2 2 ([fnE [], fnB].flatMap bsC) rfl rfl (newCellsL _ _ _ _ (by simp)) (cells_one _) (by unfold maxLen; omega) (by omega) (by omega) ?_; intro v3 w3 hown3 hgrow3 hnil3)
    refine (HR.out v3 w3 hown3).mono ?_
    rintro e w4 ⟨g, cap, o, N, z, D, Dv, rfl, hgb, hgl, hf4, hz, c20, c30, ⟨rest, hD⟩, hDs, hN4, hNm, hoN, hNl⟩
    have HNV := Lib.hid hNl
    have HZE := Lib.hid hz
    clear hz
    have hf3 : Fr0 w' w3 := ((((Fr.refl (fun _ => False) w').alloc _).alloc _).alloc _).trans2 (S := fun _ => False) (grown_fr hgrow3) (fun k hk e => by
      have e2 : some k = some w'.heap.size := e
      injection e2 with e2
      omega)
    have HF4 := Lib.hid (hf3.trans hf4)
    clear hf3 hf4 hgrow3 hnil3 hown3 hgb
    go_wp2_with fail
    refine (buildAwake_calls _).mono ?_
    rintro e w5 ⟨rfl, hf5⟩
    have d20 := (Fr.cell hf5 (p := ⟨g, 20, none⟩) hgl (fun x => x)).trans c20
    have d30 := (Fr.cell hf5 (p := ⟨g, 30, none⟩) hgl (fun x => x)).trans c30
    have HF5 := Lib.hid (HF4.out.trans hf5)
    have hNN := HNV.out
    obtain ⟨R, hR⟩ : ∃ R, R = N - o := ⟨_, rfl⟩
    have hRi : (N : Int) - (o : Int) = (R : Nat) := by omega
    rw [← hR] at hD
    obtain ⟨x0, x1, x2, x3, hx⟩ : ∃ x0 x1 x2 x3, leB 4 R = [x0, x1, x2, x3] := ⟨_, _, _, _, rfl⟩
    have hle : le [x0, x1, x2, x3] = R := by rw [← hx, le_leB]; omega
    rw [hx] at hD
    have i0 : ∀ w, (Instr.index 9 (.string D) (.int .i64 0)).run Tryz.prog w = .ok (.int .u8 (x0.toNat : Int)) w := fun w => run_str_at hD 0 rfl w
    have i1 : ∀ w, (Instr.index 9 (.string D) (.int .i64 1)).run Tryz.prog w = .ok (.int .u8 (x1.toNat : Int)) w := fun w => run_str_at hD 1 rfl w
    have i2 : ∀ w, (Instr.index 9 (.string D) (.int .i64 2)).run Tryz.prog w = .ok (.int .u8 (x2.toNat : Int)) w := fun w => run_str_at hD 2 rfl w
    have i3 : ∀ w, (Instr.index 9 (.string D) (.int .i64 3)).run Tryz.prog w = .ok (.int .u8 (x3.toNat : Int)) w := fun w => run_str_at hD 3 rfl w
    have b0 : (x0.toNat : Int) ≤ 255 := by have := x0.toNat_lt; omega
    have b1 : (x1.toNat : Int) ≤ 255 := by have := x1.toNat_lt; omega
    have b2 : (x2.toNat : Int) ≤ 255 := by have := x2.toNat_lt; omega
    have b3 : (x3.toNat : Int) ≤ 255 := by have := x3.toNat_lt; omega
    have hor := u32or4 x0 x1 x2 x3
    rw [hle] at hor
    have hRl : R ≤ 40000 := by omega
    clear hf5 c20 c30 hgl HF4 hR hx hle hD
    by_cases hz4 : z ≤ 4
    · have hmod : (N : Int) % 4 = 0 := by
        rw [Nat.max_eq_left hz4] at hNm
        omega
      clear hNm
      go_wp2_with fail
      refine (HSS.out _).mono ?_
      rintro e w6 ⟨rfl, rfl⟩
      rw [← HZE.out]
      go_wp2_with fail
      go_quiet (fail)
      go_wp2_with fail
      go_ret
      exact ⟨rfl, Fr0.below (HF5.out.drewN _)⟩
    · have hmod : (N : Int) % (z : Int) = 0 := by
        rw [Nat.max_eq_right (by omega)] at hNm
        omega
      clear hNm
      go_wp2_with fail
      refine (HSS.out _).mono ?_
      rintro e w6 ⟨rfl, rfl⟩
      rw [← HZE.out]
      go_wp2_with fail
      go_quiet (fail)
      go_wp2_with fail
      go_ret
      exact ⟨rfl, Fr0.below (HF5.out.drewN _)⟩
  · have hie : id = strOf id.data.toList := (strOf_data id).symm
    have hill : id.data.toList.length = id.size := by rw [Array.length_toList]; rfl
    have hne : id.data.toList ≠ [] := fun h0 => hid (by rw [hie, h0]; rfl)
    have hne1 : id.toList.isEmpty = false := by
      rw [ByteArray.toList_eq]
      cases h : id.data.toList with
      | nil => exact absurd h hne
      | cons a l => rfl
    have eE : fnE id.data.toList = ⟨20, 0, 0, 0, 0, 0, 6, 0, 0, 0, id.data.toList⟩ := if_neg hne
    by_cases hi4 : id.size = 4
    · have HR := Lib.hid (fun v w h => Run_fn k n t.data.toList id.data.toList (by rw [Array.length_toList]; exact h4) (.inr (by omega)) HN.out HRT.out v w h)
      rw [eE] at HR
      have HIE := Lib.hid hie
      have HIL := Lib.hid hill
      have hi4' : (id.size : Int) = 4 := by omega
      clear hie hill hne eE hid hi4
      go_enter Tryz.func4, Tryz.ntmps4
      go_wp2_with fail
      refine (HSR.out _).mono ?_
      rintro e w' ⟨rfl, rfl⟩
      go_wp2_with (at_builtin; refine wpList_append_own _ rfl (.tmp 56) (.tmp 59) 25 rfl 0 28 i0 (.agg #[.int .u8 0, .int .u8 0, .int .i64 0, .int .u64 0, .int .u64 0, .int .u32 0, .int .i64 0, .int .i64 0, .int .i64 0, .int .i64 0, .string ⟨#[]⟩]) 11 88 Tryz.underlying25 hi hz0 hz1 hz2 rfl (by decide) _ _ _ rfl (((HOWN.out w').alloc _).alloc _) ⟨w'.heap.size + 2, 0, none⟩ 2 2 ([⟨20, 0, 0, 0, 0, 0, 6, 0, 0, 0, id.data.toList⟩, fnB].flatMap bsC) rfl rfl (newCellsL _ _ _ _ (by simp)) (cells_one _) (by unfold maxLen; omega) (by omega) (by omega) ?_; intro v3 w3 hown3 hgrow3 hnil3)
      refine (HR.out v3 w3 hown3).mono ?_
      rintro e w4 ⟨g, cap, o, N, z, D, Dv, rfl, hgb, hgl, hf4, hz, c20, c30, ⟨rest, hD⟩, hDs, hN4, hNm, hoN, hNl⟩
      have HNV := Lib.hid hNl
      have HZE := Lib.hid hz
      clear hz
      have hf3 : Fr0 w' w3 := ((((Fr.refl (fun _ => False) w').alloc _).alloc _).alloc _).trans2 (S := fun _ => False) (grown_fr hgrow3) (fun k hk e => by
        have e2 : some k = some w'.heap.size := e
        injection e2 with e2
        omega)
      have HF4 := Lib.hid (hf3.trans hf4)
      clear hf3 hf4 hgrow3 hnil3 hown3 hgb
      go_wp2_with fail
      refine (buildAwake_calls _).mono ?_
      rintro e w5 ⟨rfl, hf5⟩
      have d20 := (Fr.cell hf5 (p := ⟨g, 20, none⟩) hgl (fun x => x)).trans c20
      have d30 := (Fr.cell hf5 (p := ⟨g, 30, none⟩) hgl (fun x => x)).trans c30
      have HF5 := Lib.hid (HF4.out.trans hf5)
      have hNN := HNV.out
      obtain ⟨R, hR⟩ : ∃ R, R = N - o := ⟨_, rfl⟩
      have hRi : (N : Int) - (o : Int) = (R : Nat) := by omega
      rw [← hR] at hD
      obtain ⟨x0, x1, x2, x3, hx⟩ : ∃ x0 x1 x2 x3, leB 4 R = [x0, x1, x2, x3] := ⟨_, _, _, _, rfl⟩
      have hle : le [x0, x1, x2, x3] = R := by rw [← hx, le_leB]; omega
      rw [hx] at hD
      have i0 : ∀ w, (Instr.index 9 (.string D) (.int .i64 0)).run Tryz.prog w = .ok (.int .u8 (x0.toNat : Int)) w := fun w => run_str_at hD 0 rfl w
      have i1 : ∀ w, (Instr.index 9 (.string D) (.int .i64 1)).run Tryz.prog w = .ok (.int .u8 (x1.toNat : Int)) w := fun w => run_str_at hD 1 rfl w
      have i2 : ∀ w, (Instr.index 9 (.string D) (.int .i64 2)).run Tryz.prog w = .ok (.int .u8 (x2.toNat : Int)) w := fun w => run_str_at hD 2 rfl w
      have i3 : ∀ w, (Instr.index 9 (.string D) (.int .i64 3)).run Tryz.prog w = .ok (.int .u8 (x3.toNat : Int)) w := fun w => run_str_at hD 3 rfl w
      have b0 : (x0.toNat : Int) ≤ 255 := by have := x0.toNat_lt; omega
      have b1 : (x1.toNat : Int) ≤ 255 := by have := x1.toNat_lt; omega
      have b2 : (x2.toNat : Int) ≤ 255 := by have := x2.toNat_lt; omega
      have b3 : (x3.toNat : Int) ≤ 255 := by have := x3.toNat_lt; omega
      have hsl : ∀ w, (Instr.slice 9 (.string D) (some (.int .i64 4)) (some (.int .i64 8)) none).run Tryz.prog w = .ok (.string id) w := fun w => by
        have hil4 : id.data.toList.length = 4 := by rw [HIL.out]; omega
        rw [run_slice_string_if w 9 D .i64 .i64 _ _ Tryz.underlying9, if_pos ⟨by omega, by rw [hDs]; omega⟩, if_pos ⟨by omega, by omega⟩]
        have e : D.extract (4 : Int).toNat (8 : Int).toNat = id := by
          rw [hD]
          refine Eq.trans ?_ HIE.out.symm
          exact str_extract [x0, x1, x2, x3] id.data.toList rest 8 (by rw [hil4]; rfl)
        rw [e]
      have hor := u32or4 x0 x1 x2 x3
      rw [hle] at hor
      have hRl : R ≤ 40000 := by omega
      clear hf5 c20 c30 hgl HF4 hR hx hle hD
      by_cases hz4 : z ≤ 4
      · have hmod : (N : Int) % 4 = 0 := by
          rw [Nat.max_eq_left hz4] at hNm
          omega
        clear hNm
        go_wp2_with fail
        refine (HSS.out _).mono ?_
        rintro e w6 ⟨rfl, rfl⟩
        rw [← HZE.out]
        go_wp2_with fail
        go_quiet (fail)
        go_wp2_with fail
        go_ret
        exact ⟨rfl, Fr0.below (HF5.out.drewN _)⟩
      · have hmod : (N : Int) % (z : Int) = 0 := by
          rw [Nat.max_eq_right (by omega)] at hNm
          omega
        clear hNm
        go_wp2_with fail
        refine (HSS.out _).mono ?_
        rintro e w6 ⟨rfl, rfl⟩
        rw [← HZE.out]
        go_wp2_with fail
        go_quiet (fail)
        go_wp2_with fail
        go_ret
        exact ⟨rfl, Fr0.below (HF5.out.drewN _)⟩
    · have HR := Lib.hid (fun v w h => Run_fnBad k n t.data.toList id.data.toList (by rw [Array.length_toList]; exact h4) hne (by omega) (by omega) HN.out HRT.out v w h)
      rw [eE] at HR
      have hi4' : ((id.size : Int) == 4) = false := by rw [beq_eq_false_iff_ne]; omega
      have hi4'' : ¬ (id.size : Int) = 4 := by omega
      clear hie hill hne eE hid
      go_enter Tryz.func4, Tryz.ntmps4
      go_wp2_with fail
      refine (HSR.out _).mono ?_
      rintro e w' ⟨rfl, rfl⟩
      go_wp2_with (at_builtin; refine wpList_append_own _ rfl (.tmp 56) (.tmp 59) 25 rfl 0 28 i0 (.agg #[.int .u8 0, .int .u8 0, .int .i64 0, .int .u64 0, .int .u64 0, .int .u32 0, .int .i64 0, .int .i64 0, .int .i64 0, .int .i64 0, .string ⟨#[]⟩]) 11 88 Tryz.underlying25 hi hz0 hz1 hz2 rfl (by decide) _ _ _ rfl (((HOWN.out w').alloc _).alloc _) ⟨w'.heap.size + 2, 0, none⟩ 2 2 ([⟨20, 0, 0, 0, 0, 0, 6, 0, 0, 0, id.data.toList⟩, fnB].flatMap bsC) rfl rfl (newCellsL _ _ _ _ (by simp)) (cells_one _) (by unfold maxLen; omega) (by omega) (by omega) ?_; intro v3 w3 hown3 hgrow3 hnil3)
      refine (HR.out v3 w3 hown3).mono ?_
      rintro e w4 ⟨g, cap, Dv, rfl, hf4⟩
      have hf3 : Fr0 w' w3 := ((((Fr.refl (fun _ => False) w').alloc _).alloc _).alloc _).trans2 (S := fun _ => False) (grown_fr hgrow3) (fun k hk e => by
        have e2 : some k = some w'.heap.size := e
        injection e2 with e2
        omega)
      have HF4 := Lib.hid (hf3.trans hf4)
      clear hf3 hf4 hgrow3 hnil3 hown3
      go_wp2_with fail
      refine (buildAwake_calls _).mono ?_
      rintro e w5 ⟨rfl, hf5⟩
      have HF5 := Lib.hid (HF4.out.trans hf5)
      clear hf5 HF4
      go_wp2_with fail
      go_ret
      exact ⟨rfl, Fr0.below HF5.out⟩
end Go.Proofs.YtfplgggepoaajaaGreat
