/- impl.try: a call that defers and recovers: where the function handed in returns, its answer is handed on. -/
import Derived.Test.YtkglmacaecmhdaaDoorByt
import Derived.Defers
import Derived.Recover
import Derived.Laws.Pointers
namespace Go.Proofs.YtkglmacaecmhdaaDoor
open Go.RowKit
set_option linter.unusedVariables false

theorem catch_idle (p : Addr) (w : World) :
    CallsD Tryd.prog 95 #[.pointer (some p)] .returning w fun e u' w' => e = .returned (.tuple #[]) ∧ u' = .returning ∧ w' = w := by
  refine callsD_of_wpS Tryd.func95 rfl fun c₀ cs hu => ?_
  apply wpS_seq
  apply wpS_region
  simp [wpOpsS, go_sem, recoverD, hu, Tryd.ntmps95, Exit.thenS]
  refine wpS_cond (t := false) (by simp [Act.eval, Array.replicate]) ?_
  simp only [Bool.false_eq_true, if_false]
  refine wpS_of_wp (wp_skip ?_)
  cases c₀
  simp_all [bodyPostS, results, Tryd.results95]

/-- What the function handed in must do: it returns a bool, and leaves the new variable alone. -/
def Tried (H : Nat) (R : Bool → World → Prop) (e : Ending) (w' : World) : Prop :=
  ∃ ok, e = .returned (.bool ok) ∧ w'.heap[H]? = some (.cells #[.bool false] 4 (0, 0)) ∧ R ok w'
def TryPost (H : Nat) (R : Bool → World → Prop) (e : Ending) (w'' : World) : Prop :=
  ∃ ok w', e = .returned (.bool ok) ∧ R ok w' ∧ w'' = w'.setCell ⟨H, 0, none⟩ (.bool ok)

set_option maxRecDepth 20000 in
set_option maxHeartbeats 400000 in
theorem try_any (f : Nat) (caps : Array Value) (w : World) (R : Bool → World → Prop) (hcf : ∀ w, (callFunc f caps).run Tryd.prog w = .ok (.enter f caps) w)
    (h : Calls Tryd.prog f caps (w.alloc (.cells #[.bool false] 4)) (Tried w.heap.size R)) :
    Calls Tryd.prog 50 #[.func (.func f) #[] caps] w (TryPost w.heap.size R) := by
  have hmf : ∀ (fn : Fn) (first cap : Array Value) (w : World), (Instr.makeFunc fn first cap).run Tryd.prog w = .ok (.func fn first cap) w := fun _ _ _ _ => rfl
  have H := Lib.hid h
  clear h
  go_enter_defers Tryd.func50, Tryd.ntmps50
  go_wp2_with fail
  refine H.out.mono ?_
  rintro e w1 ⟨ok, rfl, hb, hR⟩
  have HB := Lib.hid hb
  have c0 : w1.cell? ⟨w.heap.size, 0, none⟩ = some (.bool false) := cell_of_block hb 0
  have f0 := free_of_block hb 0
  clear hb
  go_wp2_with fail
  refine leaves_cons (f := 95) (args := #[.pointer (some ⟨w.heap.size, 0, none⟩)]) (by simp) (by simp [go_sem]) ?_
  refine (catch_idle ⟨w.heap.size, 0, none⟩ _).mono ?_
  rintro e u' w'' ⟨rfl, rfl, rfl⟩
  have hc : (w1.setCell ⟨w.heap.size, 0, none⟩ (.bool ok)).cell? ⟨w.heap.size, 0, none⟩ = some (.bool ok) := by
    have hb := block_setCell HB.out 0 (.bool ok)
    exact cell_of_block hb 0
  refine ⟨.bool ok, ?_, ok, w1, rfl, hR, rfl⟩
  simp [results, Tryd.results50, go_sem, hc]
end Go.Proofs.YtkglmacaecmhdaaDoor
