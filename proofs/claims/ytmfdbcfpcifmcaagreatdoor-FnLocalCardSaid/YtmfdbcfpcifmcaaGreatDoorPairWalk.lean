/- impl.PairPriority, spec.Pair. -/
import Derived.Test.YtmfdbcfpcifmcaaGreatDoorMade
import Derived.Test.YtmfdbcfpcifmcaaGreatDoorTry
namespace Go.Proofs.YtmfdbcfpcifmcaaGreatDoor
open Go.RowKit

set_option maxRecDepth 100000 in
set_option maxHeartbeats 400000 in
theorem prioOwn (g : Nat) (prio : Int) (w : World) (hc : w.cell? ⟨g, 13, none⟩ = some (.int .u32 prio)) (hp : prio ≠ 0) :
    Calls Tryz.prog 157 #[.pointer (some ⟨g, 0, none⟩)] w fun e w' => e = .returned (.int .u32 prio) ∧ w = w' := by
  have hd : (prio == 0) = false := by simpa using hp
  go_enter Tryz.func157, Tryz.ntmps157
  go_wp2
  go_ret
  exact ⟨rfl, rfl⟩

set_option maxRecDepth 100000 in
set_option maxHeartbeats 400000 in
theorem setPrio (g : Nat) (a p : Int) (w : World) (hc : w.cell? ⟨g, 13, none⟩ = some (.int .u32 a)) (hf : w.frozen? ⟨g, 13, none⟩ = false) :
    Calls Tryz.prog 166 #[.pointer (some ⟨g, 0, none⟩), .int .u32 p] w fun e w' => e = .returned (.tuple #[]) ∧ w' = w.setCell ⟨g, 13, none⟩ (.int .u32 p) := by
  go_enter Tryz.func166, Tryz.ntmps166
  go_wp2
  first | go_end0 | refine bodyPost_ret (results_none rfl _ _ _) rfl ?_
  exact ⟨rfl, rfl⟩

set_option maxRecDepth 100000 in
set_option maxHeartbeats 400000 in
theorem zzSetPrio (g : Nat) (a p : Int) (w : World) (hc : w.cell? ⟨g, 13, none⟩ = some (.int .u32 a)) (hf : w.frozen? ⟨g, 13, none⟩ = false) :
    Calls Tryz.prog 38 #[.iface 90 (.pointer (some ⟨g, 0, none⟩)), .int .u32 p] w fun e w' => e = .returned (.tuple #[]) ∧ w' = w.setCell ⟨g, 13, none⟩ (.int .u32 p) := by
  have hm : ∀ (W : World) (a : Addr), (method 378 90 (.pointer (some a)) "pionice/pub/pionice.setPriority").run Tryz.prog W = .ok (166, .pointer (some a)) W := fun _ _ => by kernel_rfl
  go_enter Tryz.func38, Tryz.ntmps38
  go_wp2_with fail
  refine (setPrio g a p w hc hf).mono ?_
  rintro e w' ⟨rfl, rfl⟩
  go_wp2_with fail
  first | go_end0 | refine bodyPost_ret (results_none rfl _ _ _) rfl ?_
  exact ⟨rfl, rfl⟩

/-- The pair's priority, as the package and the statements' reference reckon it. -/
def pairOf (a b : Int) : Int := if a > b then b * 4294967295 + 2 * a + 1 else a * 4294967295 + 2 * b
theorem pair_gt {a b : Int} (h : b < a) : pairOf a b = b * 4294967295 + 2 * a + 1 := if_pos h
theorem pair_le {a b : Int} (h : a ≤ b) : pairOf a b = a * 4294967295 + 2 * b := if_neg (by omega)

set_option maxRecDepth 100000 in
set_option maxHeartbeats 400000 in
theorem greater (a b : Int) (w : World) : Calls Tryz.prog 81 #[.int .u32 a, .int .u32 b] w fun e w' => e = .returned (.int .u64 (if a > b then 1 else 0)) ∧ w = w' := by
  by_cases h : a > b
  all_goals
    simp only [h, if_true, if_false]
    go_enter Tryz.func81, Tryz.ntmps81
    go_wp2
    go_ret
    exact ⟨rfl, rfl⟩
set_option maxRecDepth 100000 in
set_option maxHeartbeats 400000 in
theorem specPair (a b : Int) (ha : 0 ≤ a ∧ a ≤ 4294967295) (hb : 0 ≤ b ∧ b ≤ 4294967295) (w : World) : Calls Tryz.prog 18 #[.int .u32 a, .int .u32 b] w fun e w' => e = .returned (.int .u64 (pairOf a b)) ∧ w = w' := by
  have wa : IntKind.u64.wrap a = a := IntWalk.u64_in _ (by omega)
  have wb : IntKind.u64.wrap b = b := IntWalk.u64_in _ (by omega)
  rcases Int.lt_trichotomy a b with h | rfl | h
  · rw [pair_le (by omega)]
    go_enter Tryz.func18, Tryz.ntmps18
    go_wp2_with fail
    all_goals first | (exfalso; omega) | (go_ret; exact ⟨rfl, rfl⟩)
  · rw [pair_le (by omega)]
    go_enter Tryz.func18, Tryz.ntmps18
    go_wp2_with fail
    all_goals first | (exfalso; omega) | (go_ret; exact ⟨rfl, rfl⟩)
  · rw [pair_gt h]
    go_enter Tryz.func18, Tryz.ntmps18
    go_wp2_with fail
    all_goals first | (exfalso; omega) | (go_ret; exact ⟨rfl, rfl⟩)

set_option maxRecDepth 100000 in
set_option maxHeartbeats 400000 in
theorem newPair0 (gl gr : Nat) (c : Bool) (w : World) :
    Calls Tryz.prog 61 #[.iface 90 (.pointer (some ⟨gl, 0, none⟩)), .iface 90 (.pointer (some ⟨gr, 0, none⟩)), .bool c] w fun e w' => e = .returned (.pointer (some ⟨w.heap.size, 0, none⟩)) ∧ w' = w.alloc (.cells #[.int .u64 0, .bool c, .iface 90 (.pointer (some ⟨gr, 0, none⟩)), .iface 90 (.pointer (some ⟨gl, 0, none⟩)), .int .u64 0, .bool false, .int .i64 1, .bool false] 176) := by
  go_enter Tryz.func61, Tryz.ntmps61
  go_wp2_with fail
  go_ret
  exact ⟨rfl, rfl⟩
set_option maxRecDepth 100000 in
set_option maxHeartbeats 400000 in
theorem newPair (gl gr : Nat) (c : Bool) (w : World) :
    Calls Tryz.prog 39 #[.iface 90 (.pointer (some ⟨gl, 0, none⟩)), .iface 90 (.pointer (some ⟨gr, 0, none⟩)), .bool c] w fun e w' => e = .returned (.pointer (some ⟨w.heap.size, 0, none⟩)) ∧ w' = w.alloc (.cells #[.int .u64 0, .bool c, .iface 90 (.pointer (some ⟨gr, 0, none⟩)), .iface 90 (.pointer (some ⟨gl, 0, none⟩)), .int .u64 0, .bool false, .int .i64 1, .bool false] 176) := by
  go_enter Tryz.func39, Tryz.ntmps39
  go_wp2_with fail
  refine (newPair0 gl gr c w).mono ?_
  rintro e w' ⟨rfl, rfl⟩
  go_wp2_with fail
  go_ret
  exact ⟨rfl, rfl⟩

set_option maxRecDepth 100000 in
set_option maxHeartbeats 4000000 in
theorem pairPrio (g gl gr : Nat) (c : Bool) (a b : Int) (ha : 0 < a ∧ a ≤ 4294967295) (hb : 0 < b ∧ b ≤ 4294967295) (w : World)
    (hc1 : w.cell? ⟨g, 1, none⟩ = some (.bool c)) (hc2 : w.cell? ⟨g, 2, none⟩ = some (.iface 90 (.pointer (some ⟨gr, 0, none⟩)))) (hc3 : w.cell? ⟨g, 3, none⟩ = some (.iface 90 (.pointer (some ⟨gl, 0, none⟩))))
    (hc5 : w.cell? ⟨g, 5, none⟩ = some (.bool false)) (hl : w.cell? ⟨gl, 13, none⟩ = some (.int .u32 a)) (hr : w.cell? ⟨gr, 13, none⟩ = some (.int .u32 b)) :
    Calls Tryz.prog 62 #[.pointer (some ⟨g, 0, none⟩)] w fun e w' => e = .returned (.int .u64 (if c = true then pairOf a b else pairOf b a)) ∧ w = w' := by
  have wa : IntKind.u64.wrap a = a := IntWalk.u64_in _ (by omega)
  have wb : IntKind.u64.wrap b = b := IntWalk.u64_in _ (by omega)
  have hm : ∀ (W : World) (a : Addr), (method 378 90 (.pointer (some a)) "Priority").run Tryz.prog W = .ok (157, .pointer (some a)) W := fun _ _ => by kernel_rfl
  cases c
  · rcases Int.lt_or_le a b with h | h
    · have hv : (if (false = true) then pairOf a b else pairOf b a) = a * 4294967295 + 2 * b + 1 := by rw [if_neg (by decide), pair_gt h]
      have hg : (if b > a then (1 : Int) else 0) = 1 := if_pos h
      rw [hv]
      clear hv
      go_enter Tryz.func62, Tryz.ntmps62
      go_wp2_with fail
      refine (prioOwn gr b w hr (by omega)).mono ?_
      rintro e w' ⟨rfl, rfl⟩
      go_wp2_with fail
      refine (prioOwn gl a w hl (by omega)).mono ?_
      rintro e w' ⟨rfl, rfl⟩
      go_wp2_with (go_at_call 81; refine (greater b a w).mono ?_; rintro e w' ⟨rfl, rfl⟩)
      all_goals first | (exfalso; omega) | (go_ret; exact ⟨congrArg (fun x => Ending.returned (Value.int .u64 x)) (by omega), rfl⟩)
    · have hv : (if (false = true) then pairOf a b else pairOf b a) = b * 4294967295 + 2 * a := by rw [if_neg (by decide), pair_le h]
      have hg : (if b > a then (1 : Int) else 0) = 0 := if_neg (by omega)
      rw [hv]
      clear hv
      go_enter Tryz.func62, Tryz.ntmps62
      go_wp2_with fail
      refine (prioOwn gr b w hr (by omega)).mono ?_
      rintro e w' ⟨rfl, rfl⟩
      go_wp2_with fail
      refine (prioOwn gl a w hl (by omega)).mono ?_
      rintro e w' ⟨rfl, rfl⟩
      go_wp2_with (go_at_call 81; refine (greater b a w).mono ?_; rintro e w' ⟨rfl, rfl⟩)
      all_goals first | (exfalso; omega) | (go_ret; exact ⟨congrArg (fun x => Ending.returned (Value.int .u64 x)) (by omega), rfl⟩)
  · rcases Int.lt_or_le b a with h | h
    · have hv : (if (true = true) then pairOf a b else pairOf b a) = b * 4294967295 + 2 * a + 1 := by rw [if_pos rfl, pair_gt h]
      have hg : (if a > b then (1 : Int) else 0) = 1 := if_pos h
      rw [hv]
      clear hv
      go_enter Tryz.func62, Tryz.ntmps62
      go_wp2_with fail
      refine (prioOwn gl a w hl (by omega)).mono ?_
      rintro e w' ⟨rfl, rfl⟩
      go_wp2_with fail
      refine (prioOwn gr b w hr (by omega)).mono ?_
      rintro e w' ⟨rfl, rfl⟩
      go_wp2_with (go_at_call 81; refine (greater a b w).mono ?_; rintro e w' ⟨rfl, rfl⟩)
      all_goals first | (exfalso; omega) | (go_ret; exact ⟨congrArg (fun x => Ending.returned (Value.int .u64 x)) (by omega), rfl⟩)
    · have hv : (if (true = true) then pairOf a b else pairOf b a) = a * 4294967295 + 2 * b := by rw [if_pos rfl, pair_le h]
      have hg : (if a > b then (1 : Int) else 0) = 0 := if_neg (by omega)
      rw [hv]
      clear hv
      go_enter Tryz.func62, Tryz.ntmps62
      go_wp2_with fail
      refine (prioOwn gl a w hl (by omega)).mono ?_
      rintro e w' ⟨rfl, rfl⟩
      go_wp2_with fail
      refine (prioOwn gr b w hr (by omega)).mono ?_
      rintro e w' ⟨rfl, rfl⟩
      go_wp2_with (go_at_call 81; refine (greater a b w).mono ?_; rintro e w' ⟨rfl, rfl⟩)
      all_goals first | (exfalso; omega) | (go_ret; exact ⟨congrArg (fun x => Ending.returned (Value.int .u64 x)) (by omega), rfl⟩)
end Go.Proofs.YtmfdbcfpcifmcaaGreatDoor
