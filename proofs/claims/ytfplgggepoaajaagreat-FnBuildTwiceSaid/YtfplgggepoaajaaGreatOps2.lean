/- The Builder's PrependUOffsetT and PrependSOffsetT. -/
import Derived.Test.YtfplgggepoaajaaGreatOps1
namespace Go.Proofs.YtfplgggepoaajaaGreat
open Go.RowKit
set_option linter.unusedVariables false
set_option linter.unusedSimpArgs false

theorem BB.to {w : World} {b Y : Nat} {r : BRest} {room least : Nat} {bytes bytes' : List UInt8} {c : Array Value} (h : BB w b Y r room least bytes c) (e : bytes = bytes') : BB w b Y r room least bytes' c := e ▸ h
theorem BM.pad_lt (m : BM) (size add : Nat) (hs : algn size) : m.pad size add < size := by
  unfold BM.pad padB
  unfold algn at hs
  exact Nat.mod_lt _ (by omega)
theorem BM.prep_len (m : BM) (size add : Nat) (hs : algn size) : (m.prep size add).bytes.length = m.pad size add + m.bytes.length := by
  show (List.replicate _ _ ++ m.bytes).length = _
  simp
theorem BM.prep_le (m : BM) (size add : Nat) (hs : algn size) : (m.prep size add).bytes.length < size + m.bytes.length := by
  rw [m.prep_len size add hs]
  have := m.pad_lt size add hs
  omega
theorem algn_le {s : Nat} (h : algn s) : s ≤ 16 := by unfold algn at h; omega
/-- An offset is put in front. -/
def BM.refer (m : BM) (off : Nat) : Option BM :=
  if off ≤ (m.prep 4 0).bytes.length then some ((m.prep 4 0).put (leB 4 ((m.prep 4 0).bytes.length - off + 4))) else none
/-- A panic, or other bytes. -/
def BOut (w : World) (b Y : Nat) (r : BRest) (o : Option BM) : Ending → World → Prop := fun e w' =>
  match o with
  | none => Falls2 (fun k => k = b ∨ k = Y) w e w'
  | some m => e = .returned (.tuple #[]) ∧ BBy w w' b Y r m
theorem PrependUOffsetT_calls (b Y : Nat) (r : BRest) (m : BM) (c : Array Value) (off : Nat) (w : World) (h : BBm w b Y r m c) (hu : m.bytes.length ≤ 1900000) (hoff : off < 4294967296) :
    Calls Tryz.prog 52 #[.pointer (some ⟨b, 0, none⟩), .int .u32 off] w (BOut w b Y r (m.refer off)) := by
  have ha : algn 4 := by unfold algn; omega
  have HP := Lib.hid (Prep_m b Y r m 4 0 c w h ha hu)
  have hrm := m.prep_room 4 0
  have hle := m.prep_le 4 0 ha
  clear h
  unfold BM.refer
  have HR := Lib.hid hrm
  clear hrm ha
  obtain ⟨n, hn⟩ : ∃ n, n = (m.prep 4 0).bytes.length := ⟨_, rfl⟩
  rw [← hn] at hle ⊢
  have hn2 : n ≤ 1900004 := by omega
  have HN := Lib.hid hn
  clear hn hle
  by_cases hlt : off ≤ n
  · rw [if_pos hlt]
    go_enter Tryz.func52, Tryz.ntmps52
    go_wp2_with fail
    refine HP.out.mono ?_
    rintro e w1 ⟨rfl, Y1, c1, hY, hb, hf⟩
    have HB := Lib.hid hb
    have HY := Lib.hid hY
    have HF := Lib.hid hf
    have HO := fun nq => Lib.hid (Offset_calls b Y1 r (m.prep 4 0).room (m.prep 4 0).least (m.prep 4 0).bytes c1 (w1.drewN nq) (hb.drewN nq))
    rw [← HN.out] at HO
    clear hY hb hf
    go_wp2_with fail
    refine (HO 0).out.mono ?_
    rintro e w2 ⟨rfl, n2, rfl⟩
    go_wp2_with fail
    refine (HO n2).out.mono ?_
    rintro e w3 ⟨rfl, n3, rfl⟩
    go_wp2_with fail
    refine (PlaceUOffsetT_ok b Y1 r (m.prep 4 0).room (m.prep 4 0).least (m.prep 4 0).bytes c1 _ (w1.drewN (n2 + n3)) (HB.out.drewN _) (by have := HR.out; omega)).mono ?_
    rintro e w4 ⟨rfl, hb4, hf4⟩
    have HB4 := Lib.hid hb4
    have HF4 := Lib.hid hf4
    clear hb4 hf4
    go_wp2_with fail
    go_end0
    refine ⟨rfl, ?_⟩
    refine BBx.trans HY.out (HF.out.drewN (n2 + n3)) (BBx.here ?_ HF4.out)
    obtain ⟨c', hb⟩ := HB4.out
    refine ⟨c', ?_⟩
    show BB _ _ _ _ ((m.prep 4 0).room - (leB 4 (n - off + 4)).length) _ (leB 4 (n - off + 4) ++ _) _
    rw [← leI_nat, leI_length]
    refine hb.to (congrArg (· ++ _) (leI_congr 4 ?_))
    omega
  · rw [if_neg hlt]
    go_enter Tryz.func52, Tryz.ntmps52
    go_wp2_with fail
    refine HP.out.mono ?_
    rintro e w1 ⟨rfl, Y1, c1, hY, hb, hf⟩
    have HF := Lib.hid hf
    have HO := fun nq => Lib.hid (Offset_calls b Y1 r (m.prep 4 0).room (m.prep 4 0).least (m.prep 4 0).bytes c1 (w1.drewN nq) (hb.drewN nq))
    rw [← HN.out] at HO
    clear hY hb hf
    go_wp2_with fail
    refine (HO 0).out.mono ?_
    rintro e w2 ⟨rfl, n2, rfl⟩
    go_wp2_with fail
    exact ⟨rfl, ⟨_, _, rfl⟩, HF.out.drewN _⟩
theorem PrependSOffsetT_calls (b Y : Nat) (r : BRest) (m : BM) (c : Array Value) (x : Int) (w : World) (h : BBm w b Y r m c) (hu : m.bytes.length ≤ 1900000) (h0 : -2147483648 ≤ x) (h1 : x < 2147483648) :
    Calls Tryz.prog 54 #[.pointer (some ⟨b, 0, none⟩), .int .i32 x] w (BOut w b Y r (m.refer (x % 4294967296).toNat)) := by
  have ha : algn 4 := by unfold algn; omega
  have HP := Lib.hid (Prep_m b Y r m 4 0 c w h ha hu)
  have hrm := m.prep_room 4 0
  have hle := m.prep_le 4 0 ha
  clear h
  unfold BM.refer
  have HR := Lib.hid hrm
  clear hrm ha
  obtain ⟨n, hn⟩ : ∃ n, n = (m.prep 4 0).bytes.length := ⟨_, rfl⟩
  rw [← hn] at hle ⊢
  have hn2 : n ≤ 1900004 := by omega
  have HN := Lib.hid hn
  clear hn hle
  by_cases hlt : (x % 4294967296).toNat ≤ n
  · rw [if_pos hlt]
    have hm : x % 4294967296 = x := by omega
    have hxn : x ≤ (n : Int) := by omega
    have hoff : (x % 4294967296).toNat = x.toNat := by rw [hm]
    have HM := Lib.hid hoff
    clear hlt hoff
    have hx0 : 0 ≤ x := by omega
    go_enter Tryz.func54, Tryz.ntmps54
    go_wp2_with fail
    refine HP.out.mono ?_
    rintro e w1 ⟨rfl, Y1, c1, hY, hb, hf⟩
    have HB := Lib.hid hb
    have HY := Lib.hid hY
    have HF := Lib.hid hf
    have HO := fun nq => Lib.hid (Offset_calls b Y1 r (m.prep 4 0).room (m.prep 4 0).least (m.prep 4 0).bytes c1 (w1.drewN nq) (hb.drewN nq))
    rw [← HN.out] at HO
    clear hY hb hf
    go_wp2_with fail
    refine (HO 0).out.mono ?_
    rintro e w2 ⟨rfl, n2, rfl⟩
    go_wp2_with fail
    refine (HO n2).out.mono ?_
    rintro e w3 ⟨rfl, n3, rfl⟩
    go_wp2_with fail
    refine (PlaceSOffsetT_ok b Y1 r (m.prep 4 0).room (m.prep 4 0).least (m.prep 4 0).bytes c1 _ (w1.drewN (n2 + n3)) (HB.out.drewN _) (by have := HR.out; omega)).mono ?_
    rintro e w4 ⟨rfl, hb4, hf4⟩
    have HB4 := Lib.hid hb4
    have HF4 := Lib.hid hf4
    clear hb4 hf4
    go_wp2_with fail
    go_end0
    refine ⟨rfl, ?_⟩
    refine BBx.trans HY.out (HF.out.drewN (n2 + n3)) (BBx.here ?_ HF4.out)
    obtain ⟨c', hb⟩ := HB4.out
    refine ⟨c', ?_⟩
    show BB _ _ _ _ ((m.prep 4 0).room - (leB 4 (n - (x % 4294967296).toNat + 4)).length) _ (leB 4 (n - (x % 4294967296).toNat + 4) ++ _) _
    rw [← leI_nat, leI_length]
    refine hb.to (congrArg (· ++ _) (leI_congr 4 ?_))
    have := HM.out
    omega
  · rw [if_neg hlt]
    have hlt2 : decide (x % 4294967296 ≤ (n : Int)) = false := by rw [decide_eq_false_iff_not]; omega
    clear hlt
    go_enter Tryz.func54, Tryz.ntmps54
    go_wp2_with fail
    refine HP.out.mono ?_
    rintro e w1 ⟨rfl, Y1, c1, hY, hb, hf⟩
    have HF := Lib.hid hf
    have HO := fun nq => Lib.hid (Offset_calls b Y1 r (m.prep 4 0).room (m.prep 4 0).least (m.prep 4 0).bytes c1 (w1.drewN nq) (hb.drewN nq))
    rw [← HN.out] at HO
    clear hY hb hf
    go_wp2_with fail
    refine (HO 0).out.mono ?_
    rintro e w2 ⟨rfl, n2, rfl⟩
    go_wp2_with fail
    exact ⟨rfl, ⟨_, _, rfl⟩, HF.out.drewN _⟩
end Go.Proofs.YtfplgggepoaajaaGreat
