/- A Builder whole: its bytes, its vtable, its vtables, its states, its shared strings; what a method may turn. -/
import Derived.Test.YtfplgggepoaajaaGreatPrepend
import Derived.Maps.Own
namespace Go.Proofs.YtfplgggepoaajaaGreat
open Go.RowKit
set_option linter.unusedVariables false
set_option linter.unusedSimpArgs false

structure BSt where
  m : BM
  vtab : Option (List Nat)
  oend : Nat
  vts : List Nat
  nested : Bool
  fin : Bool
  shared : Option (DataW Unit)

def u32s (l : List Nat) : List Value := l.map fun (x : Nat) => .int .u32 x
theorem u32s_length (l : List Nat) : (u32s l).length = l.length := by simp [u32s]
/-- A row of offsets in a block of its own. -/
def OffRow (w : World) (V : Nat) (v : Value) (l : List Nat) : Prop :=
  ∃ cv : Array Value, v = .slice (some ⟨V, 0, none⟩) l.length cv.size ∧ w.heap[V]? = some (.cells cv 77) ∧ l.length ≤ cv.size ∧ cv.toList.take l.length = u32s l ∧ cv.size ≤ maxLen
def VtRep (w : World) (b V : Nat) (v : Value) : Option (List Nat) → Prop
  | none => v = .slice none 0 0 ∧ V = b
  | some l => OffRow w V v l
def ShRep (w : World) (b M : Nat) (v : Value) : Option (DataW Unit) → Prop
  | none => v = .map none ∧ M = b
  | some D => v = .map (some M) ∧ ∃ n, n ≤ 1000000 ∧ w.ownsMap Tryz.prog 9 (plainElem Tryz.prog 77) M n D
/-- All of a Builder but its bytes. -/
structure BOther (w : World) (b V G M : Nat) (r : BRest) (st : BSt) : Prop where
  vt : VtRep w b V r.v2 st.vtab
  oe : r.v3 = .int .u32 st.oend
  vs : OffRow w G r.v4 st.vts
  ne : r.v6 = .bool st.nested
  fi : r.v7 = .bool st.fin
  sh : ShRep w b M r.v8 st.shared
  vg : V ≠ G
def BRep (w : World) (b : Nat) (F : List Nat) (st : BSt) : Prop :=
  ∃ Y V G M r c, F = [b, Y, V, G, M] ∧ BBm w b Y r st.m c ∧ BOther w b V G M r st
/-- Nothing has turned but what a Builder has, and what it has is its own or new. -/
def Adv (w w' : World) (F F' : List Nat) : Prop := Fr (fun k => k ∈ F) w w' ∧ ∀ k ∈ F', k ∈ F ∨ w.heap.size ≤ k
theorem Adv.refl (w : World) (F : List Nat) : Adv w w F F := ⟨Fr.refl _ _, fun _ h => .inl h⟩
theorem Adv.trans {w w1 w2 : World} {F F1 F2 : List Nat} (h : Adv w w1 F F1) (k : Adv w1 w2 F1 F2) : Adv w w2 F F2 := by
  have hs := h.1.size
  refine ⟨h.1.trans2 k.1 (fun i hi hm => ?_), fun i hi => ?_⟩
  · rcases h.2 i hm with h | h
    · exact h
    · omega
  · rcases k.2 i hi with h1 | h1
    · exact h.2 i h1
    · right; omega
theorem Adv.drewN {w w' : World} {F F' : List Nat} (h : Adv w w' F F') (n : Nat) : Adv w (w'.drewN n) F F' := ⟨h.1.drewN n, h.2⟩

theorem OffRow.fr {w w' : World} {S : Nat → Prop} {V : Nat} {v : Value} {l : List Nat} (h : OffRow w V v l) (hf : Fr S w w') (hV : ¬ S V) : OffRow w' V v l := by
  obtain ⟨cv, h1, h2, h3⟩ := h
  exact ⟨cv, h1, (hf.block V (lt_of_block h2) hV).trans h2, h3⟩
theorem OffRow.ne_of {w : World} {V k : Nat} {v : Value} {l : List Nat} {c : Array Value} {t : TypeId} {fr : Nat × Nat} (h : OffRow w V v l) (hk : w.heap[k]? = some (.cells c t fr)) (ht : t ≠ 77) : V ≠ k := by
  obtain ⟨cv, _, h2, _⟩ := h
  rintro rfl
  rw [h2] at hk
  injection hk with hk
  injection hk with _ e _
  exact ht e.symm
theorem ShRep.ne_of {w : World} {b M k : Nat} {v : Value} {D : DataW Unit} {c : Array Value} {t : TypeId} {fr : Nat × Nat} (h : ShRep w b M v (some D)) (hk : w.heap[k]? = some (.cells c t fr)) : M ≠ k := by
  obtain ⟨_, n, _, es, cl, h2, _⟩ := h
  rintro rfl
  rw [h2] at hk
  cases hk
theorem ShRep.lt {w : World} {b M : Nat} {v : Value} {D : DataW Unit} (h : ShRep w b M v (some D)) : M < w.heap.size := by
  obtain ⟨_, n, _, es, cl, h2, _⟩ := h
  exact lt_of_block h2
theorem ShRep.fr {w w' : World} {S : Nat → Prop} {b M : Nat} {v : Value} {o : Option (DataW Unit)} (h : ShRep w b M v o) (hf : Fr S w w') (hM : o ≠ none → ¬ S M) : ShRep w' b M v o := by
  cases o with
  | none => exact h
  | some D =>
    have hl := h.lt
    obtain ⟨e, n, hn, es, cl, h2, h3⟩ := h
    exact ⟨e, n, hn, es, cl, (hf.block M hl (hM (by simp))).trans h2, h3⟩
theorem BOther.fr {w w' : World} {S : Nat → Prop} {b V G M : Nat} {r : BRest} {st : BSt} (h : BOther w b V G M r st) (hf : Fr S w w') (hV : st.vtab ≠ none → ¬ S V) (hG : ¬ S G) (hM : st.shared ≠ none → ¬ S M) : BOther w' b V G M r st := by
  refine ⟨?_, h.oe, h.vs.fr hf hG, h.ne, h.fi, h.sh.fr hf hM, h.vg⟩
  have hv := h.vt
  cases hc : st.vtab with
  | none => rw [hc] at hv; exact hv
  | some l => rw [hc] at hv hV; exact OffRow.fr hv hf (hV (by simp))
/-- The bytes alone have turned. -/
theorem BRep.bytes {w w' : World} {b Y V G M : Nat} {r : BRest} {c : Array Value} {st : BSt} {m' : BM} (hb : BBm w b Y r st.m c) (ho : BOther w b V G M r st) (h : BBy w w' b Y r m') :
    ∃ F', BRep w' b F' { st with m := m' } ∧ Adv w w' [b, Y, V, G, M] F' := by
  obtain ⟨Y', c', hY, hb', hf⟩ := h
  have hGb : G ≠ b := ho.vs.ne_of hb.hb (by decide)
  have hGY : G ≠ Y := ho.vs.ne_of hb.hy (by decide)
  refine ⟨[b, Y', V, G, M], ⟨Y', V, G, M, r, c', rfl, hb', ?_⟩, hf.mono (fun i _ hi => by rcases hi with rfl | rfl <;> simp), fun k hk => ?_⟩
  · have := ho.fr hf (fun hv => ?_) (fun x => x.elim hGb hGY) (fun hs => ?_)
    · exact ⟨this.vt, this.oe, this.vs, this.ne, this.fi, this.sh, this.vg⟩
    · have hvt := ho.vt
      cases hc : st.vtab with
      | none => exact absurd hc hv
      | some l =>
        rw [hc] at hvt
        exact fun x => x.elim (OffRow.ne_of hvt hb.hb (by decide)) (OffRow.ne_of hvt hb.hy (by decide))
    · have hsh := ho.sh
      cases hc : st.shared with
      | none => exact absurd hc hs
      | some D =>
        rw [hc] at hsh
        exact fun x => x.elim (ShRep.ne_of hsh hb.hb) (ShRep.ne_of hsh hb.hy)
  · simp only [List.mem_cons, List.not_mem_nil, or_false] at hk
    rcases hk with rfl | rfl | rfl | rfl | rfl
    · simp
    · rcases hY with rfl | h
      · simp
      · exact .inr h
    · simp
    · simp
    · simp
end Go.Proofs.YtfplgggepoaajaaGreat
