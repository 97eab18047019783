/- impl.thrown: it calls a function value and reports whether this panics. Two contracts, over whatever function it is handed: one that returns, one that panics with a value that is not nil. -/
import Derived.Test.YtfplgggepoaajaaGreatProg
import Derived.Test.YtfplgggepoaajaaGreatFrame
import Derived.Recover
import Derived.Laws.Pointers
import Derived.WalkLawsBesides
import Derived.Lib.Hide
namespace Go.Proofs.YtfplgggepoaajaaGreat
open Go.RowKit
set_option linter.unusedVariables false

theorem catch_panicking (p : Addr) (x : Bool) (u : TypeId) (pv : Value) (older : List PanicEntry) (w : World) (hc : w.cell? p = some (.bool x)) (hz : w.frozen? p = false) :
    CallsD Tryz.prog 47 #[.pointer (some p)] (.panicking ({ v := .iface u pv, recovered := false } :: older)) w fun e u' w' =>
      e = .returned (.tuple #[]) ∧ u' = .panicking ({ v := .iface u pv, recovered := true } :: older) ∧ w' = w.setCell p (.bool true) := by
  refine callsD_of_wpS Tryz.func47 rfl fun c₀ cs hu => ?_
  apply wpS_region
  simp [wpOpsS, go_sem, recoverD, hu, Tryz.ntmps47, hc, hz, bodyPostS, results, Tryz.results47]

theorem catch_idle (p : Addr) (x : Bool) (w : World) (hc : w.cell? p = some (.bool x)) (hz : w.frozen? p = false) :
    CallsD Tryz.prog 47 #[.pointer (some p)] .returning w fun e u' w' => e = .returned (.tuple #[]) ∧ u' = .returning ∧ w' = w.setCell p (.bool false) := by
  refine callsD_of_wpS Tryz.func47 rfl fun c₀ cs hu => ?_
  apply wpS_region
  simp [wpOpsS, go_sem, recoverD, hu, Tryz.ntmps47, hc, hz, bodyPostS, results, Tryz.results47]
  rw [← hu]

/-- The variable that says whether it panicked. -/
def thrownVar : Obj := .cells #[.bool false] 4

theorem thrown_ok {g : Nat} {caps : Array Value} {w : World} {S : Nat → Prop} {R : World → Prop} (hen : ∀ w, (callFunc g caps).run Tryz.prog w = .ok (.enter g caps) w)
    (h : Calls Tryz.prog g caps (w.alloc thrownVar) fun e w1 => e = .returned (.tuple #[]) ∧ R w1) (hR : ∀ w1, R w1 → Fr S (w.alloc thrownVar) w1) (hS : ¬ S w.heap.size) :
    Calls Tryz.prog 29 #[.func (.func g) #[] caps] w fun e w' => e = .returned (.bool false) ∧ ∃ w1, R w1 ∧ Fr (· = w.heap.size) w1 w' := by
  have hmf : ∀ (fn : Fn) (first cap : Array Value) (w : World), (Instr.makeFunc fn first cap).run Tryz.prog w = .ok (.func fn first cap) w := fun _ _ _ _ => rfl
  have h2 : ∀ w1, R w1 → w1.heap[w.heap.size]? = some (.cells #[.bool false] 4) := fun w1 hr => by
    rw [(hR w1 hr).block w.heap.size (by simp) hS]; exact heap_alloc_new w thrownVar
  have H2 := Lib.hid h2; clear h2
  have HC := Lib.hid h; clear h
  go_enter_defers Tryz.func29, Tryz.ntmps29
  go_wp2_with fail
  refine HC.out.mono ?_
  rintro e w1 ⟨rfl, hr⟩
  have hb := H2.out w1 hr
  have hc : w1.cell? ⟨w.heap.size, 0, none⟩ = some (.bool false) := by rw [cell_of hb]; rfl
  have hf : w1.frozen? ⟨w.heap.size, 0, none⟩ = false := frozen_of hb 0
  clear hb
  have HR := Lib.hid hr; clear hr
  go_wp2_with fail
  refine leaves_cons (f := 47) (args := #[.pointer (some ⟨w.heap.size, 0, none⟩)]) (by simp) (by simp [go_sem]) ?_
  refine (catch_idle ⟨w.heap.size, 0, none⟩ false _ ?_ ?_).mono ?_
  · simp [go_sem, hc]
  · simp [go_sem, hf]
  rintro e u' w'' ⟨rfl, rfl, rfl⟩
  simp [Leaves, settle, results, Tryz.results29, go_sem, hc]
  exact ⟨w1, HR.out, ((Fr.refl (fun x => x = w.heap.size) _).setCell (fun _ => rfl) _).setCell (fun _ => rfl) _⟩

theorem thrown_panics {g : Nat} {caps : Array Value} {w : World} {S : Nat → Prop} {R : World → Prop} (hen : ∀ w, (callFunc g caps).run Tryz.prog w = .ok (.enter g caps) w)
    (h : Calls Tryz.prog g caps (w.alloc thrownVar) fun e w1 => (∃ u pv, e = .panicked [{ v := .iface u pv, recovered := false }]) ∧ R w1) (hR : ∀ w1, R w1 → Fr S (w.alloc thrownVar) w1) (hS : ¬ S w.heap.size) :
    Calls Tryz.prog 29 #[.func (.func g) #[] caps] w fun e w' => e = .returned (.bool true) ∧ ∃ w1, R w1 ∧ Fr (· = w.heap.size) w1 w' := by
  have hmf : ∀ (fn : Fn) (first cap : Array Value) (w : World), (Instr.makeFunc fn first cap).run Tryz.prog w = .ok (.func fn first cap) w := fun _ _ _ _ => rfl
  have h2 : ∀ w1, R w1 → w1.heap[w.heap.size]? = some (.cells #[.bool false] 4) := fun w1 hr => by
    rw [(hR w1 hr).block w.heap.size (by simp) hS]; exact heap_alloc_new w thrownVar
  have H2 := Lib.hid h2; clear h2
  have HC := Lib.hid h; clear h
  go_enter_defers Tryz.func29, Tryz.ntmps29
  go_wp2_with fail
  refine HC.out.mono ?_
  rintro e w1 ⟨⟨u, pv, rfl⟩, hr⟩
  have hb := H2.out w1 hr
  have hc : w1.cell? ⟨w.heap.size, 0, none⟩ = some (.bool false) := by rw [cell_of hb]; rfl
  have hf : w1.frozen? ⟨w.heap.size, 0, none⟩ = false := frozen_of hb 0
  clear hb
  have HR := Lib.hid hr; clear hr
  go_wp2_with fail
  refine leaves_cons (f := 47) (args := #[.pointer (some ⟨w.heap.size, 0, none⟩)]) (by simp) (by simp [go_sem]) ?_
  refine (catch_panicking ⟨w.heap.size, 0, none⟩ false u pv [] _ ?_ ?_).mono ?_
  · simp [go_sem, hc]
  · simp [go_sem, hf]
  rintro e u' w'' ⟨rfl, rfl, rfl⟩
  simp [Leaves, settle, results, Tryz.results29, go_sem, hc]
  exact ⟨w1, HR.out, (Fr.refl (fun x => x = w.heap.size) _).setCell (fun _ => rfl) _⟩

end Go.Proofs.YtfplgggepoaajaaGreat
