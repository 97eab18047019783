/- What the end of an object leaves, in bytes. -/
import Derived.Test.YtfplgggepoaajaaGreatPlain
namespace Go.Proofs.YtfplgggepoaajaaGreat
open Go.RowKit
set_option linter.unusedVariables false
set_option linter.unusedSimpArgs false

/-- A vtable's fields as they are written. -/
def vtFlds (o : Nat) (l : List Nat) : List UInt8 := l.flatMap fun f : Nat => leI 2 (if f = 0 then 0 else (o : Int) - (f : Int))
theorem vtFlds_length (o : Nat) (l : List Nat) : (vtFlds o l).length = 2 * l.length := by
  unfold vtFlds
  induction l with
  | nil => rfl
  | cons f l ih => rw [List.flatMap_cons, List.length_append, ih, leI_length, List.length_cons]; omega
theorem prep_even (m : BM) (h : m.bytes.length % 2 = 0) : (m.prep 2 0).bytes = m.bytes := prep_id m 2 0 (by unfold algn; omega) (by omega)
theorem vtPut_bytes (o : Nat) (m : BM) (h : m.bytes.length % 2 = 0) : ∀ l : List Nat, (vtPut o l m).bytes = vtFlds o l ++ m.bytes
  | [] => rfl
  | f :: l => by
    have ih := vtPut_bytes o m h l
    rw [vtPut_cons]
    show leI 2 _ ++ ((vtPut o l m).prep 2 0).bytes = _
    rw [prep_even _ (by rw [ih, List.length_append, vtFlds_length]; omega), ih]
    show _ = (leI 2 _ ++ vtFlds o l) ++ m.bytes
    rw [List.append_assoc]
theorem vtPut_least (o : Nat) (m : BM) (h : 2 ≤ m.least) : ∀ (l : List Nat), (vtPut o l m).least = m.least
  | [] => rfl
  | f :: l => by
    rw [vtPut_cons]
    show max (vtPut o l m).least 2 = _
    rw [vtPut_least o m h l]; omega
/-- Ahead of the vtable: the place of the offset to it. -/
theorem vt1_len (st : BSt) : st.vt1.bytes.length = 4 + (padB st.m.bytes.length 4 + st.m.bytes.length) ∧ st.vt1.bytes.length % 4 = 0 := by
  have ha : algn 4 := by unfold algn; omega
  have e : st.vt1.bytes.length = 4 + (st.m.prep 4 0).bytes.length := by
    show (leB 4 _ ++ _).length = _
    rw [List.length_append, leB_length]
  have h := prep_mod st.m 4 0 ha
  have e2 : (st.m.prep 4 0).bytes.length = padB st.m.bytes.length 4 + st.m.bytes.length := st.m.prep_len 4 0 ha
  omega
theorem vt4_bytes (st : BSt) (t : List Nat) : (st.vt4 t).bytes = leI 2 (((t.length + 2) * 2 : Nat) : Int) ++ (leI 2 ((st.vt1.bytes.length : Int) - st.oend) ++ (vtFlds st.vt1.bytes.length t ++ st.vt1.bytes)) := by
  obtain ⟨h1, h2⟩ := vt1_len st
  have hp := vtPut_bytes st.vt1.bytes.length st.vt1 (by omega) t
  have hl := vtFlds_length st.vt1.bytes.length t
  unfold BSt.vt4
  show leI 2 _ ++ (((vtPut st.vt1.bytes.length t st.vt1).prep 2 0).put (leI 2 ((st.vt1.bytes.length : Int) - st.oend)) |>.prep 2 0).bytes = _
  have e1 : ((vtPut st.vt1.bytes.length t st.vt1).prep 2 0).bytes = vtFlds st.vt1.bytes.length t ++ st.vt1.bytes := by
    rw [prep_even _ (by rw [hp, List.length_append, hl]; omega), hp]
  have e2 : (((vtPut st.vt1.bytes.length t st.vt1).prep 2 0).put (leI 2 ((st.vt1.bytes.length : Int) - st.oend))).bytes = leI 2 ((st.vt1.bytes.length : Int) - st.oend) ++ (vtFlds st.vt1.bytes.length t ++ st.vt1.bytes) := by
    show leI 2 _ ++ ((vtPut st.vt1.bytes.length t st.vt1).prep 2 0).bytes = _
    rw [e1]
  rw [prep_even _ (by rw [e2]; simp only [List.length_append, leI_length, hl]; omega), e2]
/-- The bytes that an object ends with: the offset to its vtable, zeros, what it holds. -/
def objBytes (st : BSt) (soff : Int) : List UInt8 := leI 4 soff ++ (List.replicate (padB st.m.bytes.length 4) 0 ++ st.m.bytes)
theorem objBytes_length (st : BSt) (soff : Int) : (objBytes st soff).length = st.vt1.bytes.length := by
  rw [(vt1_len st).1]
  unfold objBytes
  simp only [List.length_append, leI_length, List.length_replicate]
theorem vt1_bytes_eq (st : BSt) : st.vt1.bytes = leB 4 ((st.m.prep 4 0).bytes.length + 4) ++ (List.replicate (padB st.m.bytes.length 4) 0 ++ st.m.bytes) := rfl
/-- An object that is ended with a vtable of its own. -/
theorem endObj_fresh (st : BSt) (hn : st.nested = true) (hf : vtFind st.vt1 st.vt1.bytes.length (trimZ (st.vtab.getD [])) st.vts = none) :
    ∃ st' o, o = st.vt1.bytes.length ∧ st.endObj = some (o, st') ∧ st'.nested = false ∧ st'.fin = st.fin ∧ st'.m.least = max st.m.least 4 ∧ st'.shared = st.shared ∧ st'.vts = st.vts ++ [2 * (trimZ (st.vtab.getD [])).length + 4 + o] ∧
      st'.m.bytes = leI 2 (((2 * (trimZ (st.vtab.getD [])).length + 4 : Nat) : Int)) ++ (leI 2 ((o : Int) - st.oend) ++ (vtFlds o (trimZ (st.vtab.getD [])) ++ objBytes st ((2 * (trimZ (st.vtab.getD [])).length + 4 : Nat) : Int))) ∧
      st'.m.bytes.length = 2 * (trimZ (st.vtab.getD [])).length + 4 + o ∧ st'.vtab = st.vtab.map (fun _ => []) := by
  obtain ⟨t, ht⟩ : ∃ t, t = trimZ (st.vtab.getD []) := ⟨_, rfl⟩
  rw [← ht] at hf ⊢
  have hb := vt4_bytes st t
  have hfl := vtFlds_length st.vt1.bytes.length t
  have hl4 : (st.vt4 t).bytes.length = 2 * t.length + 4 + st.vt1.bytes.length := by
    rw [hb]; simp only [List.length_append, leI_length, hfl]; omega
  have hw : st.writeVt = { st with m := (st.vt4 t).over st.vt1.bytes.length (leI 4 (((st.vt4 t).bytes.length : Int) - st.vt1.bytes.length)), vtab := st.vtab.map (fun _ => []), vts := st.vts ++ [(st.vt4 t).bytes.length] } := by
    unfold BSt.writeVt
    rw [← ht, hf]
  have hov : ((st.vt4 t).over st.vt1.bytes.length (leI 4 (((st.vt4 t).bytes.length : Int) - st.vt1.bytes.length))).bytes = leI 2 (((2 * t.length + 4 : Nat) : Int)) ++ (leI 2 ((st.vt1.bytes.length : Int) - st.oend) ++ (vtFlds st.vt1.bytes.length t ++ objBytes st ((2 * t.length + 4 : Nat) : Int))) := by
    have e := over_app (st.vt4 t) (leI 2 (((t.length + 2) * 2 : Nat) : Int) ++ (leI 2 ((st.vt1.bytes.length : Int) - st.oend) ++ vtFlds st.vt1.bytes.length t)) (leB 4 ((st.m.prep 4 0).bytes.length + 4)) (List.replicate (padB st.m.bytes.length 4) 0 ++ st.m.bytes) (leI 4 (((st.vt4 t).bytes.length : Int) - st.vt1.bytes.length)) st.vt1.bytes.length
      (by rw [hb, vt1_bytes_eq]; simp only [List.append_assoc]) (by rw [vt1_bytes_eq, List.length_append]) (by rw [leI_length, leB_length])
    rw [e, hl4, show (((2 * t.length + 4 + st.vt1.bytes.length : Nat) : Int) - st.vt1.bytes.length) = ((2 * t.length + 4 : Nat) : Int) by omega, show (t.length + 2) * 2 = 2 * t.length + 4 by omega]
    unfold objBytes
    simp only [List.append_assoc]
  refine ⟨{ st.writeVt with nested := false }, _, rfl, ?_, rfl, ?_, ?_, ?_, ?_, ?_, ?_, ?_⟩
  · unfold BSt.endObj
    rw [if_pos hn]
  · rw [hw]
  · rw [hw]
    show (st.vt4 t).least = _
    have h1 : st.vt1.least = max st.m.least 4 := rfl
    show max (max (vtPut st.vt1.bytes.length t st.vt1).least 2) 2 = _
    rw [vtPut_least _ _ (by omega), h1]; omega
  · rw [hw]
  · rw [hw]
    show st.vts ++ [(st.vt4 t).bytes.length] = _
    rw [hl4]
  · rw [hw]; exact hov
  · rw [hw]
    show ((st.vt4 t).over _ _).bytes.length = _
    rw [BM.over_len _ _ _ (by rw [leI_length]; have := vt1_len st; omega) (by omega), hl4]
  · rw [hw]
/-- An object that is ended with a vtable that is there already. -/
theorem endObj_found (st : BSt) (v : Nat) (hn : st.nested = true) (hf : vtFind st.vt1 st.vt1.bytes.length (trimZ (st.vtab.getD [])) st.vts = some v) :
    ∃ st' o, o = st.vt1.bytes.length ∧ st.endObj = some (o, st') ∧ st'.nested = false ∧ st'.fin = st.fin ∧ st'.m.least = max st.m.least 4 ∧ st'.shared = st.shared ∧ st'.vts = st.vts ∧
      st'.m.bytes = objBytes st ((v : Int) - o) ∧ st'.m.bytes.length = o ∧ st'.vtab = st.vtab.map (fun _ => []) := by
  have hw : st.writeVt = { st with m := st.vt1.over st.vt1.bytes.length (leI 4 ((v : Int) - st.vt1.bytes.length)), vtab := st.vtab.map (fun _ => []) } := by
    unfold BSt.writeVt
    rw [hf]
  have hov : (st.vt1.over st.vt1.bytes.length (leI 4 ((v : Int) - st.vt1.bytes.length))).bytes = objBytes st ((v : Int) - st.vt1.bytes.length) := by
    have e := over_app st.vt1 [] (leB 4 ((st.m.prep 4 0).bytes.length + 4)) (List.replicate (padB st.m.bytes.length 4) 0 ++ st.m.bytes) (leI 4 ((v : Int) - st.vt1.bytes.length)) st.vt1.bytes.length
      (by rw [vt1_bytes_eq]; rfl) (by rw [vt1_bytes_eq, List.length_append]) (by rw [leI_length, leB_length])
    rw [e]; rfl
  refine ⟨{ st.writeVt with nested := false }, _, rfl, ?_, rfl, ?_, ?_, ?_, ?_, ?_, ?_, ?_⟩
  · unfold BSt.endObj
    rw [if_pos hn]
  · rw [hw]
  · rw [hw]; rfl
  · rw [hw]
  · rw [hw]
  · rw [hw]; exact hov
  · rw [hw]
    show (st.vt1.over _ _).bytes.length = _
    rw [hov, objBytes_length]
  · rw [hw]
end Go.Proofs.YtfplgggepoaajaaGreat
