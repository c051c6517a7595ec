/- impl.try: a closure that returns. -/
import Derived.Test.YtmfdbcfpcifmcaaGreatDoorBase
import Derived.Defers
import Derived.Recover
import Derived.Laws.Pointers
namespace Go.Proofs.YtmfdbcfpcifmcaaGreatDoor
open Go.RowKit

theorem catch_idle (p : Addr) (w : World) :
    CallsD Tryz.prog 54 #[.pointer (some p)] .returning w fun e u' w' => e = .returned (.tuple #[]) ∧ u' = .returning ∧ w' = w := by
  refine callsD_of_wpS Tryz.func54 rfl fun c₀ cs hu => ?_
  apply wpS_seq
  apply wpS_region
  simp [wpOpsS, go_sem, recoverD, hu, Tryz.ntmps54, Exit.thenS]
  refine wpS_cond (t := false) (by simp [Act.eval, Array.replicate]) ?_
  simp only [Bool.false_eq_true, if_false]
  refine wpS_of_wp (wp_skip ?_)
  cases c₀
  simp_all [bodyPostS, results, Tryz.results54]

set_option maxRecDepth 100000 in
set_option maxHeartbeats 400000 in
/-- A closure that returns b, and leaves try's own cell as it was: try returns b. -/
theorem try_ok (K : Nat) (caps : Array Value) (hK : ∀ W, (callFunc K caps).run Tryz.prog W = .ok (.enter K caps) W) (Q : Bool → World → Prop) (w : World)
    (hc : Calls Tryz.prog K caps (w.alloc (.cells #[.bool false] 4)) fun e w' => ∃ b, e = .returned (.bool b) ∧ Row w' w.heap.size 4 #[.bool false] ∧ Q b w') :
    Calls Tryz.prog 34 #[.func (.func K) #[] caps] w fun e w' => ∃ (b : Bool) (w1 : World), e = .returned (.bool b) ∧ Q b w1 ∧ w' = w1.setCell ⟨w.heap.size, 0, none⟩ (.bool b) := by
  have hmf : ∀ (fn : Fn) (first cap : Array Value) (w : World), (Instr.makeFunc fn first cap).run Tryz.prog w = .ok (.func fn first cap) w := fun _ _ _ _ => rfl
  go_enter_defers Tryz.func34, Tryz.ntmps34
  go_wp2_with fail
  refine hc.mono ?_
  rintro e w1 ⟨b, rfl, hr, hq⟩
  have c0 : w1.cell? ⟨w.heap.size, 0, none⟩ = some (.bool false) := hr.cell 0
  have f0 := hr.free 0
  have hlt := hr.lt
  clear hK hc
  go_wp2_with fail
  refine leaves_cons (f := 54) (args := #[.pointer (some ⟨w.heap.size, 0, none⟩)]) (by simp) (by simp [go_sem]) ?_
  refine (catch_idle ⟨w.heap.size, 0, none⟩ _).mono ?_
  rintro e u' w'' ⟨rfl, rfl, rfl⟩
  have c1 : (w1.setCell ⟨w.heap.size, 0, none⟩ (.bool b)).cell? ⟨w.heap.size, 0, none⟩ = some (.bool b) := (hr.set 0 (.bool b)).cell 0
  refine ⟨.bool b, ?_, b, w1, rfl, hq, rfl⟩
  simp [results, Tryz.results34, go_sem, c1]
end Go.Proofs.YtmfdbcfpcifmcaaGreatDoor
