/- impl.buildStep: every step. -/
import Derived.Test.YtfplgggepoaajaaGreatMStep2
import Derived.Test.YtfplgggepoaajaaGreatKindsB
namespace Go.Proofs.YtfplgggepoaajaaGreat
open Go.RowKit
set_option linter.unusedVariables false
set_option linter.unusedSimpArgs false

theorem PrependSOffsetT_b (b : Nat) (F : List Nat) (st : BSt) (off : Nat) (w : World) (h : BRep w b F st) (hu : st.m.bytes.length ≤ 1900000) (ho : off < 4294967296) :
    Calls Tryz.prog 54 #[.pointer (some ⟨b, 0, none⟩), .int .i32 (wrap32 (off : Nat))] w (BRes w b F (unitRes (st.refer off))) := by
  rw [unitRes_refer]
  have e : (wrap32 (off : Nat) % 4294967296).toNat = off := by
    have h1 := wrap_emod .i32 (off : Int)
    rw [IntWalk.i32_left] at h1
    have h2 : wrap32 (off : Nat) % 4294967296 = (off : Int) % 4294967296 := h1
    rw [h2]; omega
  have hb : -2147483648 ≤ wrap32 (off : Nat) ∧ wrap32 (off : Nat) < 2147483648 := by
    rw [← IntWalk.i32_left, IntKind.wrap_i32]; omega
  refine h.liftO fun Y r c hb' => ?_
  have := PrependSOffsetT_calls b Y r st.m c (wrap32 (off : Nat)) w hb' hu hb.1 hb.2
  rw [e] at this
  exact this
theorem buildStep_calls (b : Nat) (F : List Nat) (st : BSt) (s : BS) (off i : Nat) (w : World) (h : BRep w b F st) (hi : StInv st i) (hi3 : i ≤ 300) (hs : SOK s) (hp : SafeS st s) (ho : off < 2 ^ 32) :
    Calls Tryz.prog 31 #[.pointer (some ⟨b, 0, none⟩), .agg (bsC s).toArray, .int .u32 off] w (ARes w b F (mStep st s off)) := by
  obtain ⟨op, kind, slot, num, els, off0, ref, size, more, by_, text⟩ := s
  have hop := hs.op
  have hnr := hs.reset
  have hu : st.m.bytes.length ≤ 1500000 := by have := hi.len; omega
  have htx : text.length ≤ 1000 := hs.text
  have hm0 : 0 ≤ more := hs.more0
  have hm1 : more ≤ 1000 := hs.more1
  dsimp only at hop hnr
  have : op = 0 ∨ op = 1 ∨ op = 2 ∨ op = 3 ∨ op = 4 ∨ op = 5 ∨ op = 6 ∨ op = 7 ∨ op = 8 ∨ op = 9 ∨ op = 10 ∨ op = 11 ∨ op = 12 ∨ op = 13 ∨ op = 14 ∨ op = 15 ∨ op = 16 ∨ op = 17 ∨ op = 18 ∨ op = 19 ∨ op = 20 ∨ op = 22 := by omega
  rcases this with rfl | rfl | rfl | rfl | rfl | rfl | rfl | rfl | rfl | rfl | rfl | rfl | rfl | rfl | rfl | rfl | rfl | rfl | rfl | rfl | rfl | rfl
  · have h0 := hs.o0 rfl
    dsimp only at h0
    obtain ⟨n, rfl⟩ : ∃ n : Nat, slot = n := ⟨slot.toNat, by omega⟩
    exact bstep_0 b F st kind ref size more by_ n num els off0 off text w h (st.startObj n) (fun W hW => StartObject_calls b F st n W hW (by omega))
  · exact bstep_1 b F st kind slot ref size more by_ num els off0 off text w h st.endObj (fun W hW => EndObject_any b F st W hW hi.inv (by omega))
  · exact bstep_2 b F st kind slot ref size more by_ num els off0 off text w h _ (fun W hW => prepend_b b F st kind num W hW (hs.o2 (.inl rfl)) (by omega))
  · exact bstep_3 b F st kind slot ref size more by_ num els off0 off text w h _ (fun W hW => prependSlot_b b F st kind slot num els W hW (hs.o3 rfl).1 (hs.o3 rfl).2 (by omega))
  · exact bstep_4 b F st kind slot ref size more by_ num els off0 off text w h _ (fun W hW => PrependUOffsetT_b b F st off W hW (by omega) ho)
  · exact bstep_5 b F st kind slot ref size more by_ num els off0 off text w h (hs.o5 (.inl rfl)) _ (fun W hW => PrependUOffsetTSlot_calls b F st slot off els W hW (by omega) ho)
  · exact bstep_6 b F st kind slot ref size more by_ num els off0 off text w h _ (fun W hW => PrependSOffsetT_b b F st off W hW (by omega) ho)
  · refine bstep_7 b F st kind slot ref size more by_ num els off0 off text w h (some { st with m := (st.m.prep 2 0).put (leB 2 num) }) (fun W hW => ?_)
    have := hW.lift (v := .tuple #[]) (m' := (st.m.prep 2 0).put (leI 2 (IntKind.u16.wrap num))) (fun Y r c hb => PrependVOffsetT_calls b Y r st.m c (IntKind.u16.wrap num) W hb (by omega))
    rw [wc_wrap _ _ _ (by rfl)] at this
    exact this
  · exact bstep_8 b F st kind slot ref size more by_ num els off0 off text w h (hs.o5 (.inr rfl)) _ (fun W hW => PrependStructSlot_calls b F st slot off els W hW)
  · exact bstep_9 b F st kind slot ref size more by_ num els off0 off text w h (st.slot slot) (fun W hW => Slot_calls b F st slot W hW)
  · have h0 := hs.o10 rfl
    dsimp only at h0
    obtain ⟨n, rfl⟩ : ∃ n : Nat, size = n := ⟨size.toNat, by omega⟩
    obtain ⟨m, rfl⟩ : ∃ m : Nat, more = m := ⟨more.toNat, by omega⟩
    obtain ⟨y, rfl⟩ : ∃ y : Nat, by_ = y := ⟨by_.toNat, by omega⟩
    exact bstep_10 b F st kind slot ref n m y num els off0 off text w h (st.startVec n m y) (fun W hW => StartVector_calls b F st n m y W hW h0.2.2.2 (by omega) (by omega) (by omega))
  · have h0 := hs.o11 (.inl rfl)
    dsimp only at h0
    obtain ⟨n, rfl⟩ : ∃ n : Nat, slot = n := ⟨slot.toNat, by omega⟩
    exact bstep_11 b F st kind ref size more by_ n num els off0 off text w h (st.endVec n) (fun W hW => EndVector_calls b F st n W hW (by omega))
  · exact bstep_12 b F st kind slot ref size more by_ num els off0 off text w h (st.created text true) (fun W hW => CreateString_calls b F st text W hW (by omega) (by omega))
  · exact bstep_13 b F st kind slot ref size more by_ num els off0 off text w h (st.created text true) (fun W sv hW hsv => CreateByteString_calls b F st text sv W hW hsv (by omega) (by omega))
  · exact bstep_14 b F st kind slot ref size more by_ num els off0 off text w h (st.created text false) (fun W sv hW hsv => CreateByteVector_calls b F st text sv W hW hsv (by omega) (by omega))
  · exact bstep_15 b F st kind slot ref size more by_ num els off0 off text w h (st.sharedStr text) (fun W hW => CreateSharedString_calls b F st text W hW (by omega) (by omega) (by have := hi.sh; omega))
  · have h0 := hs.o16 rfl
    dsimp only at h0
    obtain ⟨n, rfl⟩ : ∃ n : Nat, size = n := ⟨size.toNat, by omega⟩
    obtain ⟨m, rfl⟩ : ∃ m : Nat, more = m := ⟨more.toNat, by omega⟩
    exact bstep_16 b F st kind slot ref by_ n m num els off0 off text w h (some { st with m := st.m.prep n m }) (fun W hW => Prep_b b F st n m W hW h0.2 (by omega))
  · exact bstep_17 b F st kind slot ref size more by_ num els off0 off text w h _ (fun W hW => place_any b F st kind num W hW (hs.o2 (.inr rfl)))
  · have h0 := hs.o11 (.inr rfl)
    dsimp only at h0
    obtain ⟨n, rfl⟩ : ∃ n : Nat, slot = n := ⟨slot.toNat, by omega⟩
    exact bstep_18 b F st kind ref size more by_ n num els off0 off text w h (if n ≤ st.m.room then some { st with m := st.m.put (List.replicate n 0) } else none) (fun W hW => Pad_any b F st n W hW (by omega))
  · exact bstep_19 b F st kind slot ref size more by_ num els off0 off text w h (st.finish off) (fun W hW => Finish_calls b F st off W hW hi.least (by omega) ho)
  · exact bstep_20 b F st kind slot ref size more by_ num els off0 off text w h (st.finishId off text) (fun W sv hW hsv => FinishId_calls b F st off text sv W hW hsv hi.least (by omega) ho (by omega))
  · exact bstep_22 b F st kind slot ref size more by_ num els off0 off text w h
end Go.Proofs.YtfplgggepoaajaaGreat
