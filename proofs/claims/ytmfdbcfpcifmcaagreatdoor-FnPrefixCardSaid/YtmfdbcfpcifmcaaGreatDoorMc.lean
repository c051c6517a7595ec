/- impl.PairPriority, spec.Pair. | impl.PairPriority, whole. | From the row's hypothesis on the listed variables to what the walks take: package netip's three variables. | How a law's row and card are closed, once for all of this seat's laws. | A law's row as the judge reads it, where the proof wants both what the row lists of the variables and the world's shape. | A candidate as it lies in memory, whatever its kind; what its four makers leave. (Merged by merge.py out of PairWalk, PairPrio, Laid, Close, Wrap, Cand.) -/
import Derived.Test.YtmfdbcfpcifmcaaGreatDoorMb
import Derived.Test.YtmfdbcfpcifmcaaGreatDoorMa
import Derived.Test.YtmfdbcfpcifmcaaGreatDoorRows
import Derived.ProofKit
import Derived.LaidLaws
import Derived.LaidMore
import Derived.OpenShut
import Derived.Lay
import Derived.SevenTiedAt
import Derived.Stop.Joined
import Derived.HandedShaped
import Derived.Deep.RegionHeld3
namespace Go.Proofs.YtmfdbcfpcifmcaaGreatDoor
open Go.RowKit

set_option maxRecDepth 100000 in
set_option maxHeartbeats 400000 in
theorem prioOwn (g : Nat) (prio : Int) (w : World) (hc : w.cell? ⟨g, 13, none⟩ = some (.int .u32 prio)) (hp : prio ≠ 0) :
    Calls Tryz.prog 157 #[.pointer (some ⟨g, 0, none⟩)] w fun e w' => e = .returned (.int .u32 prio) ∧ w = w' := by
  have hd : (prio == 0) = false := by simpa using hp
  go_enter Tryz.func157, Tryz.ntmps157
  go_wp2
  go_ret
  exact ⟨rfl, rfl⟩

set_option maxRecDepth 100000 in
set_option maxHeartbeats 400000 in
theorem setPrio (g : Nat) (a p : Int) (w : World) (hc : w.cell? ⟨g, 13, none⟩ = some (.int .u32 a)) (hf : w.frozen? ⟨g, 13, none⟩ = false) :
    Calls Tryz.prog 166 #[.pointer (some ⟨g, 0, none⟩), .int .u32 p] w fun e w' => e = .returned (.tuple #[]) ∧ w' = w.setCell ⟨g, 13, none⟩ (.int .u32 p) := by
  go_enter Tryz.func166, Tryz.ntmps166
  go_wp2
  first | go_end0 | refine bodyPost_ret (results_none rfl _ _ _) rfl ?_
  exact ⟨rfl, rfl⟩

set_option maxRecDepth 100000 in
set_option maxHeartbeats 400000 in
theorem zzSetPrio (g : Nat) (a p : Int) (w : World) (hc : w.cell? ⟨g, 13, none⟩ = some (.int .u32 a)) (hf : w.frozen? ⟨g, 13, none⟩ = false) :
    Calls Tryz.prog 38 #[.iface 90 (.pointer (some ⟨g, 0, none⟩)), .int .u32 p] w fun e w' => e = .returned (.tuple #[]) ∧ w' = w.setCell ⟨g, 13, none⟩ (.int .u32 p) := by
  have hm : ∀ (W : World) (a : Addr), (method 378 90 (.pointer (some a)) "pionice/pub/pionice.setPriority").run Tryz.prog W = .ok (166, .pointer (some a)) W := fun _ _ => by kernel_rfl
  go_enter Tryz.func38, Tryz.ntmps38
  go_wp2_with fail
  refine (setPrio g a p w hc hf).mono ?_
  rintro e w' ⟨rfl, rfl⟩
  go_wp2_with fail
  first | go_end0 | refine bodyPost_ret (results_none rfl _ _ _) rfl ?_
  exact ⟨rfl, rfl⟩

/-- The pair's priority, as the package and the statements' reference reckon it. -/
def pairOf (a b : Int) : Int := if a > b then b * 4294967295 + 2 * a + 1 else a * 4294967295 + 2 * b
theorem pair_gt {a b : Int} (h : b < a) : pairOf a b = b * 4294967295 + 2 * a + 1 := if_pos h
theorem pair_le {a b : Int} (h : a ≤ b) : pairOf a b = a * 4294967295 + 2 * b := if_neg (by omega)

set_option maxRecDepth 100000 in
set_option maxHeartbeats 400000 in
theorem greater (a b : Int) (w : World) : Calls Tryz.prog 81 #[.int .u32 a, .int .u32 b] w fun e w' => e = .returned (.int .u64 (if a > b then 1 else 0)) ∧ w = w' := by
  by_cases h : a > b
  all_goals
    simp only [h, if_true, if_false]
    go_enter Tryz.func81, Tryz.ntmps81
    go_wp2
    go_ret
    exact ⟨rfl, rfl⟩
set_option maxRecDepth 100000 in
set_option maxHeartbeats 400000 in
theorem specPair (a b : Int) (ha : 0 ≤ a ∧ a ≤ 4294967295) (hb : 0 ≤ b ∧ b ≤ 4294967295) (w : World) : Calls Tryz.prog 18 #[.int .u32 a, .int .u32 b] w fun e w' => e = .returned (.int .u64 (pairOf a b)) ∧ w = w' := by
  have wa : IntKind.u64.wrap a = a := IntWalk.u64_in _ (by omega)
  have wb : IntKind.u64.wrap b = b := IntWalk.u64_in _ (by omega)
  rcases Int.lt_trichotomy a b with h | rfl | h
  · rw [pair_le (by omega)]
    go_enter Tryz.func18, Tryz.ntmps18
    go_wp2_with fail
    all_goals first | (exfalso; omega) | (go_ret; exact ⟨rfl, rfl⟩)
  · rw [pair_le (by omega)]
    go_enter Tryz.func18, Tryz.ntmps18
    go_wp2_with fail
    all_goals first | (exfalso; omega) | (go_ret; exact ⟨rfl, rfl⟩)
  · rw [pair_gt h]
    go_enter Tryz.func18, Tryz.ntmps18
    go_wp2_with fail
    all_goals first | (exfalso; omega) | (go_ret; exact ⟨rfl, rfl⟩)

set_option maxRecDepth 100000 in
set_option maxHeartbeats 400000 in
theorem newPair0 (gl gr : Nat) (c : Bool) (w : World) :
    Calls Tryz.prog 61 #[.iface 90 (.pointer (some ⟨gl, 0, none⟩)), .iface 90 (.pointer (some ⟨gr, 0, none⟩)), .bool c] w fun e w' => e = .returned (.pointer (some ⟨w.heap.size, 0, none⟩)) ∧ w' = w.alloc (.cells #[.int .u64 0, .bool c, .iface 90 (.pointer (some ⟨gr, 0, none⟩)), .iface 90 (.pointer (some ⟨gl, 0, none⟩)), .int .u64 0, .bool false, .int .i64 1, .bool false] 176) := by
  go_enter Tryz.func61, Tryz.ntmps61
  go_wp2_with fail
  go_ret
  exact ⟨rfl, rfl⟩
set_option maxRecDepth 100000 in
set_option maxHeartbeats 400000 in
theorem newPair (gl gr : Nat) (c : Bool) (w : World) :
    Calls Tryz.prog 39 #[.iface 90 (.pointer (some ⟨gl, 0, none⟩)), .iface 90 (.pointer (some ⟨gr, 0, none⟩)), .bool c] w fun e w' => e = .returned (.pointer (some ⟨w.heap.size, 0, none⟩)) ∧ w' = w.alloc (.cells #[.int .u64 0, .bool c, .iface 90 (.pointer (some ⟨gr, 0, none⟩)), .iface 90 (.pointer (some ⟨gl, 0, none⟩)), .int .u64 0, .bool false, .int .i64 1, .bool false] 176) := by
  go_enter Tryz.func39, Tryz.ntmps39
  go_wp2_with fail
  refine (newPair0 gl gr c w).mono ?_
  rintro e w' ⟨rfl, rfl⟩
  go_wp2_with fail
  go_ret
  exact ⟨rfl, rfl⟩

set_option maxRecDepth 100000 in
set_option maxHeartbeats 4000000 in
theorem pairPrio (g gl gr : Nat) (c : Bool) (a b : Int) (ha : 0 < a ∧ a ≤ 4294967295) (hb : 0 < b ∧ b ≤ 4294967295) (w : World)
    (hc1 : w.cell? ⟨g, 1, none⟩ = some (.bool c)) (hc2 : w.cell? ⟨g, 2, none⟩ = some (.iface 90 (.pointer (some ⟨gr, 0, none⟩)))) (hc3 : w.cell? ⟨g, 3, none⟩ = some (.iface 90 (.pointer (some ⟨gl, 0, none⟩))))
    (hc5 : w.cell? ⟨g, 5, none⟩ = some (.bool false)) (hl : w.cell? ⟨gl, 13, none⟩ = some (.int .u32 a)) (hr : w.cell? ⟨gr, 13, none⟩ = some (.int .u32 b)) :
    Calls Tryz.prog 62 #[.pointer (some ⟨g, 0, none⟩)] w fun e w' => e = .returned (.int .u64 (if c = true then pairOf a b else pairOf b a)) ∧ w = w' := by
  have wa : IntKind.u64.wrap a = a := IntWalk.u64_in _ (by omega)
  have wb : IntKind.u64.wrap b = b := IntWalk.u64_in _ (by omega)
  have hm : ∀ (W : World) (a : Addr), (method 378 90 (.pointer (some a)) "Priority").run Tryz.prog W = .ok (157, .pointer (some a)) W := fun _ _ => by kernel_rfl
  cases c
  · rcases Int.lt_or_le a b with h | h
    · have hv : (if (false = true) then pairOf a b else pairOf b a) = a * 4294967295 + 2 * b + 1 := by rw [if_neg (by decide), pair_gt h]
      have hg : (if b > a then (1 : Int) else 0) = 1 := if_pos h
      rw [hv]
      clear hv
      go_enter Tryz.func62, Tryz.ntmps62
      go_wp2_with fail
      refine (prioOwn gr b w hr (by omega)).mono ?_
      rintro e w' ⟨rfl, rfl⟩
      go_wp2_with fail
      refine (prioOwn gl a w hl (by omega)).mono ?_
      rintro e w' ⟨rfl, rfl⟩
      go_wp2_with (go_at_call 81; refine (greater b a w).mono ?_; rintro e w' ⟨rfl, rfl⟩)
      all_goals first | (exfalso; omega) | (go_ret; exact ⟨congrArg (fun x => Ending.returned (Value.int .u64 x)) (by omega), rfl⟩)
    · have hv : (if (false = true) then pairOf a b else pairOf b a) = b * 4294967295 + 2 * a := by rw [if_neg (by decide), pair_le h]
      have hg : (if b > a then (1 : Int) else 0) = 0 := if_neg (by omega)
      rw [hv]
      clear hv
      go_enter Tryz.func62, Tryz.ntmps62
      go_wp2_with fail
      refine (prioOwn gr b w hr (by omega)).mono ?_
      rintro e w' ⟨rfl, rfl⟩
      go_wp2_with fail
      refine (prioOwn gl a w hl (by omega)).mono ?_
      rintro e w' ⟨rfl, rfl⟩
      go_wp2_with (go_at_call 81; refine (greater b a w).mono ?_; rintro e w' ⟨rfl, rfl⟩)
      all_goals first | (exfalso; omega) | (go_ret; exact ⟨congrArg (fun x => Ending.returned (Value.int .u64 x)) (by omega), rfl⟩)
  · rcases Int.lt_or_le b a with h | h
    · have hv : (if (true = true) then pairOf a b else pairOf b a) = b * 4294967295 + 2 * a + 1 := by rw [if_pos rfl, pair_gt h]
      have hg : (if a > b then (1 : Int) else 0) = 1 := if_pos h
      rw [hv]
      clear hv
      go_enter Tryz.func62, Tryz.ntmps62
      go_wp2_with fail
      refine (prioOwn gl a w hl (by omega)).mono ?_
      rintro e w' ⟨rfl, rfl⟩
      go_wp2_with fail
      refine (prioOwn gr b w hr (by omega)).mono ?_
      rintro e w' ⟨rfl, rfl⟩
      go_wp2_with (go_at_call 81; refine (greater a b w).mono ?_; rintro e w' ⟨rfl, rfl⟩)
      all_goals first | (exfalso; omega) | (go_ret; exact ⟨congrArg (fun x => Ending.returned (Value.int .u64 x)) (by omega), rfl⟩)
    · have hv : (if (true = true) then pairOf a b else pairOf b a) = a * 4294967295 + 2 * b := by rw [if_pos rfl, pair_le h]
      have hg : (if a > b then (1 : Int) else 0) = 0 := if_neg (by omega)
      rw [hv]
      clear hv
      go_enter Tryz.func62, Tryz.ntmps62
      go_wp2_with fail
      refine (prioOwn gl a w hl (by omega)).mono ?_
      rintro e w' ⟨rfl, rfl⟩
      go_wp2_with fail
      refine (prioOwn gr b w hr (by omega)).mono ?_
      rintro e w' ⟨rfl, rfl⟩
      go_wp2_with (go_at_call 81; refine (greater a b w).mono ?_; rintro e w' ⟨rfl, rfl⟩)
      all_goals first | (exfalso; omega) | (go_ret; exact ⟨congrArg (fun x => Ending.returned (Value.int .u64 x)) (by omega), rfl⟩)
end Go.Proofs.YtmfdbcfpcifmcaaGreatDoor

namespace Go.Proofs.YtmfdbcfpcifmcaaGreatDoor
open Go.RowKit

set_option maxRecDepth 100000 in
set_option maxHeartbeats 1000000 in
theorem zzPrio (g gl gr : Nat) (c : Bool) (a b : Int) (ha : 0 < a ∧ a ≤ 4294967295) (hb : 0 < b ∧ b ≤ 4294967295) (w : World)
    (hc1 : w.cell? ⟨g, 1, none⟩ = some (.bool c)) (hc2 : w.cell? ⟨g, 2, none⟩ = some (.iface 90 (.pointer (some ⟨gr, 0, none⟩)))) (hc3 : w.cell? ⟨g, 3, none⟩ = some (.iface 90 (.pointer (some ⟨gl, 0, none⟩))))
    (hc5 : w.cell? ⟨g, 5, none⟩ = some (.bool false)) (hl : w.cell? ⟨gl, 13, none⟩ = some (.int .u32 a)) (hr : w.cell? ⟨gr, 13, none⟩ = some (.int .u32 b)) :
    Calls Tryz.prog 40 #[.pointer (some ⟨g, 0, none⟩)] w fun e w' => e = .returned (.int .u64 (if c = true then pairOf a b else pairOf b a)) ∧ w = w' := by
  go_enter Tryz.func40, Tryz.ntmps40
  go_wp2_with fail
  refine (pairPrio g gl gr c a b ha hb w hc1 hc2 hc3 hc5 hl hr).mono ?_
  rintro e w' ⟨rfl, rfl⟩
  go_wp2_with fail
  all_goals
    go_ret
    exact ⟨rfl, rfl⟩

/-- The addresses that PairPriority takes: 192.0.2.1 and 192.0.2.2. -/
theorem addr_one : addrText false ⟨#[49, 57, 50, 46, 48, 46, 50, 46, 49]⟩ := by
  exact ⟨1, 0, by decide⟩
theorem addr_two : addrText false ⟨#[49, 57, 50, 46, 48, 46, 50, 46, 50]⟩ := by
  exact ⟨2, 0, by decide⟩

set_option maxRecDepth 100000 in
set_option maxHeartbeats 2000000 in
theorem pairBody (c : Bool) (a b : Int) (ha : 0 < a ∧ a ≤ 4294967295) (hb : 0 < b ∧ b ≤ 4294967295) (w : World) (p4 p6 : Addr) (hG : Glob w p4 p6) (ga gb gc gx gt : Nat)
    (ra : Row w ga 22 #[.int .u32 a]) (rb : Row w gb 22 #[.int .u32 b]) (rc : Row w gc 4 #[.bool c]) (ro : Row w gx 39 #[.int .u64 0]) (rt : Row w gt 4 #[.bool false]) (hne : gx ≠ gt) :
    Calls Tryz.prog 37 #[.pointer (some ⟨ga, 0, none⟩), .pointer (some ⟨gb, 0, none⟩), .pointer (some ⟨gc, 0, none⟩), .pointer (some ⟨gx, 0, none⟩)] w fun e w' =>
      ∃ q, e = .returned (.bool q) ∧ Row w' gt 4 #[.bool false] ∧ (Row w' gx 39 #[.int .u64 (if c = true then pairOf a b else pairOf b a)] ∧ w.grownBy w' (some gx)) := by
  obtain ⟨P, hP⟩ : ∃ P, P = (if c = true then pairOf a b else pairOf b a) := ⟨_, rfl⟩
  rw [← hP]
  have HP := Lib.hid hP
  clear hP
  have c0 : w.cell? ⟨ga, 0, none⟩ = some (.int .u32 a) := ra.cell 0
  have hla := ra.lt
  have hlb := rb.lt
  have hlc := rc.lt
  have hlo := ro.lt
  have hlt := rt.lt
  go_enter Tryz.func37, Tryz.ntmps37
  go_wp2_with fail
  refine (madeHost false false addr_one (by decide) 1 1 a 0 ⟨#[]⟩ (by decide) (by decide) (by decide) (by decide) (by decide) (by decide) none none 0 0 w p4 p6 hG).mono ?_
  rintro e w1 ⟨g1, rfl, hb1, hg1, hi1, lo1, q1, -, hr1⟩
  have c1 : w1.cell? ⟨gb, 0, none⟩ = some (.int .u32 b) := (rb.below hb1 hlb).cell 0
  go_wp2_with fail
  refine (madeHost false false addr_two (by decide) 2 1 b 0 ⟨#[]⟩ (by decide) (by decide) (by decide) (by decide) (by decide) (by decide) none none 0 0 w1 p4 p6 (hG.below hb1)).mono ?_
  rintro e w2 ⟨g2, rfl, hb2, hg2, hi2, lo2, q2, -, hr2⟩
  have hsz1 := hb1.size
  have hsz2 := hb2.size
  have hl1 := hr1.lt
  have hr1' := hr1.below hb2 hl1
  have hB := hb1.trans (hb2.mono hsz1)
  have ra2 := ra.below hB hla
  have rb2 := rb.below hB hlb
  have rc2 := rc.below hB hlc
  have ro2 := ro.below hB hlo
  have rt2 := rt.below hB hlt
  have hg21 : g2 ≠ g1 := by omega
  clear c0 c1 ra rb rc ro rt hb1 hb2 hr1
  have c0 : w2.cell? ⟨ga, 0, none⟩ = some (.int .u32 a) := ra2.cell 0
  go_wp2_with fail
  refine (zzSetPrio g1 a a w2 (hr1'.cell 13) (hr1'.free 13)).mono ?_
  rintro e w3 ⟨rfl, hw3⟩
  have hl2 := hr2.lt
  have r13 : Row w3 g1 160 _ := hw3 ▸ hr1'.set 13 (.int .u32 a)
  have r23 : Row w3 g2 160 _ := hw3 ▸ hr2.far (p := ⟨g1, 13, none⟩) hg21 (.int .u32 a)
  have ra3 : Row w3 ga 22 _ := hw3 ▸ ra2.far (p := ⟨g1, 13, none⟩) (by simp only; omega) (.int .u32 a)
  have rb3 : Row w3 gb 22 _ := hw3 ▸ rb2.far (p := ⟨g1, 13, none⟩) (by simp only; omega) (.int .u32 a)
  have rc3 : Row w3 gc 4 _ := hw3 ▸ rc2.far (p := ⟨g1, 13, none⟩) (by simp only; omega) (.int .u32 a)
  have ro3 : Row w3 gx 39 _ := hw3 ▸ ro2.far (p := ⟨g1, 13, none⟩) (by simp only; omega) (.int .u32 a)
  have rt3 : Row w3 gt 4 _ := hw3 ▸ rt2.far (p := ⟨g1, 13, none⟩) (by simp only; omega) (.int .u32 a)
  have hB3 : Below w.heap.size w w3 := hw3 ▸ below_st hB (by omega) 13 (.int .u32 a)
  clear c0 hw3 ra2 rb2 rc2 ro2 rt2 hr1' hr2 hB
  have c1 : w3.cell? ⟨gb, 0, none⟩ = some (.int .u32 b) := rb3.cell 0
  go_wp2_with fail
  refine (zzSetPrio g2 b b w3 (r23.cell 13) (r23.free 13)).mono ?_
  rintro e w4 ⟨rfl, hw4⟩
  have r14 : Row w4 g1 160 _ := hw4 ▸ r13.far (p := ⟨g2, 13, none⟩) (Ne.symm hg21) (.int .u32 b)
  have r24 : Row w4 g2 160 _ := hw4 ▸ r23.set 13 (.int .u32 b)
  have rc4 : Row w4 gc 4 _ := hw4 ▸ rc3.far (p := ⟨g2, 13, none⟩) (by simp only; omega) (.int .u32 b)
  have ro4 : Row w4 gx 39 _ := hw4 ▸ ro3.far (p := ⟨g2, 13, none⟩) (by simp only; omega) (.int .u32 b)
  have rt4 : Row w4 gt 4 _ := hw4 ▸ rt3.far (p := ⟨g2, 13, none⟩) (by simp only; omega) (.int .u32 b)
  have hB4 : Below w.heap.size w w4 := hw4 ▸ below_st hB3 (by omega) 13 (.int .u32 b)
  clear c1 hw4 ra3 rb3 rc3 ro3 rt3 r13 r23 hB3
  have c2 : w4.cell? ⟨gc, 0, none⟩ = some (.bool c) := rc4.cell 0
  go_wp2_with fail
  refine (newPair g1 g2 c w4).mono ?_
  rintro e w5 ⟨rfl, hw5⟩
  have r15 : Row w5 g1 160 _ := hw5 ▸ r14.alloc _
  have r25 : Row w5 g2 160 _ := hw5 ▸ r24.alloc _
  have ro5 : Row w5 gx 39 #[.int .u64 0] := hw5 ▸ ro4.alloc _
  have rt5 : Row w5 gt 4 _ := hw5 ▸ rt4.alloc _
  have rp5 : Row w5 w4.heap.size 176 #[.int .u64 0, .bool c, .iface 90 (.pointer (some ⟨g2, 0, none⟩)), .iface 90 (.pointer (some ⟨g1, 0, none⟩)), .int .u64 0, .bool false, .int .i64 1, .bool false] := hw5 ▸ Row.new _ _ _
  have hB5 : Below w.heap.size w w5 := hw5 ▸ hB4.alloc hB4.size _
  clear c2 hw5 r14 r24 rc4 ro4 rt4
  go_wp2_with fail
  refine (zzPrio w4.heap.size g1 g2 c a b ha hb w5 (rp5.cell 1) (rp5.cell 2) (rp5.cell 3) (rp5.cell 5) (r15.cell 13) (r25.cell 13)).mono ?_
  rw [← HP.out]
  rintro e w6 ⟨rfl, rfl⟩
  have c3 : w5.cell? ⟨gx, 0, none⟩ = some (.int .u64 0) := ro5.cell 0
  have f3 := ro5.free 0
  have hfin : Row (w5.setCell ⟨gx, 0, none⟩ (.int .u64 P)) gx 39 #[.int .u64 P] := ro5.set 0 (.int .u64 P)
  have tfin : Row (w5.setCell ⟨gx, 0, none⟩ (.int .u64 P)) gt 4 #[.bool false] := rt5.far (p := ⟨gx, 0, none⟩) (Ne.symm hne) (.int .u64 P)
  have gfin : w.grownBy (w5.setCell ⟨gx, 0, none⟩ (.int .u64 P)) (some gx) := only_set ⟨hB5.os, hB5.tape, hB5.output, hB5.size, fun i hi _ => hB5.block i hi⟩ 0 (.int .u64 P)
  have HA := Lib.hid hfin
  have HB := Lib.hid tfin
  have HC := Lib.hid gfin
  clear hfin tfin gfin r15 r25 ro5 rt5 rp5 hB4 hB5
  go_wp2_with fail
  go_ret
  exact ⟨true, rfl, HB.out, HA.out, HC.out⟩

set_option maxRecDepth 100000 in
set_option maxHeartbeats 2000000 in
theorem pairPriority (c : Bool) (a b : Int) (ha : 0 < a ∧ a ≤ 4294967295) (hb : 0 < b ∧ b ≤ 4294967295) (w : World) (p4 p6 : Addr) (hG : Glob w p4 p6) :
    Calls Tryz.prog 19 #[.bool c, .int .u32 a, .int .u32 b] w fun e w' => e = .returned (.int .u64 (if c = true then pairOf a b else pairOf b a)) ∧ Below w.heap.size w w' := by
  have hmf : ∀ (fn : Fn) (first cap : Array Value) (w : World), (Instr.makeFunc fn first cap).run Tryz.prog w = .ok (.func fn first cap) w := fun _ _ _ _ => rfl
  obtain ⟨P, hP⟩ : ∃ P, P = (if c = true then pairOf a b else pairOf b a) := ⟨_, rfl⟩
  rw [← hP]
  have HP := Lib.hid hP
  clear hP
  go_enter Tryz.func19, Tryz.ntmps19
  go_wp2_with fail
  obtain ⟨W, hW⟩ : ∃ W, W = (((w.alloc (.cells #[.bool c] 4)).alloc (.cells #[.int .u32 a] 22)).alloc (.cells #[.int .u32 b] 22)).alloc (.cells #[.int .u64 0] 39) := ⟨_, rfl⟩
  have rc : Row W w.heap.size 4 #[.bool c] := hW ▸ (((Row.new _ _ _).alloc _).alloc _).alloc _
  have ra : Row W (w.heap.size + 1) 22 #[.int .u32 a] := by
    have h := ((Row.new (w.alloc (.cells #[.bool c] 4)) 22 #[.int .u32 a]).alloc (.cells #[.int .u32 b] 22)).alloc (.cells #[.int .u64 0] 39)
    rw [hW]
    simpa using h
  have rb : Row W (w.heap.size + 1 + 1) 22 #[.int .u32 b] := by
    have h := (Row.new ((w.alloc (.cells #[.bool c] 4)).alloc (.cells #[.int .u32 a] 22)) 22 #[.int .u32 b]).alloc (.cells #[.int .u64 0] 39)
    rw [hW]
    simpa using h
  have ro : Row W (w.heap.size + 1 + 1 + 1) 39 #[.int .u64 0] := by
    have h := Row.new (((w.alloc (.cells #[.bool c] 4)).alloc (.cells #[.int .u32 a] 22)).alloc (.cells #[.int .u32 b] 22)) 39 #[.int .u64 0]
    rw [hW]
    simpa using h
  have hsz : W.heap.size = w.heap.size + 4 := by rw [hW]; simp
  have hB : Below w.heap.size w W := by
    rw [hW]
    exact ((((Below.refl _ _).alloc (Nat.le_refl _) _).alloc (by simp) _).alloc (by simp; omega) _).alloc (by simp; omega) _
  rw [← hW]
  clear hW
  have hBt : Below w.heap.size w (W.alloc (.cells #[.bool false] 4)) := hB.alloc (by omega) _
  have hGt := hG.below hBt
  have rot := ro.alloc (.cells #[.bool false] 4)
  have hszt : (W.alloc (.cells #[.bool false] 4)).heap.size = w.heap.size + 5 := by simp [hsz]
  have hbody := pairBody c a b ha hb (W.alloc (.cells #[.bool false] 4)) p4 p6 hGt (w.heap.size + 1) (w.heap.size + 1 + 1) w.heap.size (w.heap.size + 1 + 1 + 1) W.heap.size (ra.alloc _) (rb.alloc _) (rc.alloc _) rot (Row.new _ _ _) (by omega)
  rw [← HP.out] at hbody
  refine (try_ok 37 _ (fun _ => by kernel_rfl) (fun _ w' => Row w' (w.heap.size + 1 + 1 + 1) 39 #[.int .u64 P] ∧ (W.alloc (.cells #[.bool false] 4)).grownBy w' (some (w.heap.size + 1 + 1 + 1))) W hbody).mono ?_
  rintro e w' ⟨q, w1, rfl, ⟨hr, hg⟩, hw'⟩
  have hr' : Row w' (w.heap.size + 1 + 1 + 1) 39 #[.int .u64 P] := hw' ▸ hr.far (p := ⟨W.heap.size, 0, none⟩) (by simp only; omega) (.bool q)
  have hBf : Below w.heap.size w w' := hw' ▸ below_st (hBt.grown hg (by omega) (some_ge (by omega))) (by omega) 0 (.bool q)
  have HB := Lib.hid hBf
  clear hw' hr hg hbody rot hGt hBt ra rb rc ro hBf hB
  have c0 : w'.cell? ⟨w.heap.size + 1 + 1 + 1, 0, none⟩ = some (.int .u64 P) := hr'.cell 0
  have f0 := hr'.free 0
  go_wp2_with fail
  have c1 : (w'.setCell ⟨w.heap.size + 1 + 1 + 1, 0, none⟩ (.int .u64 P)).cell? ⟨w.heap.size + 1 + 1 + 1, 0, none⟩ = some (.int .u64 P) := (hr'.set 0 (.int .u64 P)).cell 0
  refine bodyPost_ret (v := .int .u64 P) ?h1 rfl ⟨rfl, below_st HB.out (by omega) 0 _⟩
  case h1 => simp [results, Tryz.results19, go_sem, c1]

set_option maxRecDepth 100000 in
set_option maxHeartbeats 2000000 in
theorem works (w : World) : Calls Tryz.prog 15 #[] w fun e w' => e = .returned (.bool true) ∧ w = w' := by
  go_enter Tryz.func15, Tryz.ntmps15
  go_wp2
  go_ret
  exact ⟨rfl, rfl⟩

set_option maxRecDepth 100000 in
set_option maxHeartbeats 2000000 in
theorem fnPair (c : Bool) (a b : Int) (ha : 0 ≤ a ∧ a ≤ 4294967295) (hb : 0 ≤ b ∧ b ≤ 4294967295) (w : World) (p4 p6 : Addr) (hG : Glob w p4 p6) :
    Calls Tryz.prog 4 #[.bool c, .int .u32 a, .int .u32 b] w fun e w' => e = .returned (.bool true) ∧ Below w.heap.size w w' := by
  by_cases h0 : a = 0 ∨ b = 0
  · have hv : (a == 0) = true ∨ ((a == 0) = false ∧ (b == 0) = true) := by
      by_cases ha0 : a = 0
      · exact .inl (by simpa using ha0)
      · exact .inr ⟨by simpa using ha0, by simpa using h0.resolve_left ha0⟩
    clear h0
    rcases hv with h | ⟨h, h2⟩
    all_goals
      go_enter Tryz.func4, Tryz.ntmps4
      go_wp2_with fail
      refine (works w).mono ?_
      rintro e w' ⟨rfl, rfl⟩
      go_wp2_with fail
      go_ret
      exact ⟨rfl, Below.refl _ _⟩
  · have h1 : (a == 0) = false := by simp; omega
    have h2 : (b == 0) = false := by simp; omega
    have hp1 : 0 < a := by omega
    have hp2 : 0 < b := by omega
    cases c
    · go_enter Tryz.func4, Tryz.ntmps4
      go_wp2_with fail
      refine (specPair a b ha hb w).mono ?_
      rintro e w' ⟨rfl, rfl⟩
      go_wp2_with fail
      refine (specPair b a hb ha w).mono ?_
      rintro e w' ⟨rfl, rfl⟩
      go_wp2_with fail
      refine (pairPriority false a b ⟨hp1, ha.2⟩ ⟨hp2, hb.2⟩ w p4 p6 hG).mono ?_
      rintro e w1 ⟨rfl, hb1⟩
      have HB := Lib.hid hb1
      clear hb1
      simp only [Bool.false_eq_true, if_false]
      go_wp2_with fail
      refine (works w1).mono ?_
      rintro e w' ⟨rfl, rfl⟩
      go_wp2_with fail
      go_ret
      exact ⟨rfl, HB.out⟩
    · go_enter Tryz.func4, Tryz.ntmps4
      go_wp2_with fail
      refine (specPair a b ha hb w).mono ?_
      rintro e w' ⟨rfl, rfl⟩
      go_wp2_with fail
      refine (pairPriority true a b ⟨hp1, ha.2⟩ ⟨hp2, hb.2⟩ w p4 p6 hG).mono ?_
      rintro e w1 ⟨rfl, hb1⟩
      have HB := Lib.hid hb1
      clear hb1
      simp only [if_true]
      go_wp2_with fail
      refine (works w1).mono ?_
      rintro e w' ⟨rfl, rfl⟩
      go_wp2_with fail
      go_ret
      exact ⟨rfl, HB.out⟩
end Go.Proofs.YtmfdbcfpcifmcaaGreatDoor

namespace Go.Proofs.YtmfdbcfpcifmcaaGreatDoor
open Go.ChangeShapes Go.WideShapes Go.ChangeAt Go.RowKit

theorem handle_cell {W : World} {fuel : Nat} {cs : Array Value} {d : DataW Unit} {p : List MemPlace}
    (hd : DataW.trod (fun _ => ()) Tryz.prog W 0 (fun _ => true) false fuel 152 cs.toList = some (.agg [.ptr d], p)) : ∃ a q, cs = #[.pointer (some a)] ∧ p = MemPlace.row a 2 ++ q := by
  obtain ⟨xs, n, _, hx, hlen, hl, hf⟩ := DataW.trod_struct Tryz.underlying152 hd
  obtain ⟨l⟩ := cs
  have h1 : Tryz.prog.cellsOf 152 = 1 := by kernel_rfl
  have h2 : Tryz.prog.cellsOf 150 = 1 := by kernel_rfl
  have h3 : Tryz.prog.cellsOf 214 = 2 := by kernel_rfl
  rw [h1] at hlen
  obtain ⟨c, rfl⟩ := List.length_eq_one_iff.1 hlen
  obtain ⟨y, rfl⟩ := List.length_eq_one_iff.1 (hl.trans (by rfl))
  · clear hl hlen
    have h0 := hf 0 _ rfl
    change DataW.trod (fun _ => ()) Tryz.prog W 0 (fun _ => true) false n 150 ([c].take (Tryz.prog.cellsOf 150)) = some y at h0
    rw [h2] at h0
    change DataW.trod (fun _ => ()) Tryz.prog W 0 (fun _ => true) false n 150 [c] = some y at h0
    obtain ⟨ha, hb⟩ := Prod.mk.inj hx
    simp only [List.map_cons, List.map_nil, DataW.agg.injEq, List.cons.injEq, and_true] at ha
    obtain ⟨y1, y2⟩ := y
    simp only at ha
    subst ha
    obtain ⟨f', a, cs', q, hcs, _, _, hq⟩ := ptr_of_trod Tryz.underlying150 h0
    simp only [List.cons.injEq, and_true] at hcs
    subst hcs
    exact ⟨a, q, rfl, by simpa [h3] using hb.trans (by simp [hq, h3])⟩

theorem handle_nil {W : World} {fuel : Nat} {cs : Array Value} {p : List MemPlace}
    (hd : DataW.trod (fun _ => ()) Tryz.prog W 0 (fun _ => true) false fuel 152 cs.toList = some (.agg [.nil], p)) : cs = #[.pointer none] := by
  obtain ⟨xs, n, _, hx, hlen, hl, hf⟩ := DataW.trod_struct Tryz.underlying152 hd
  obtain ⟨l⟩ := cs
  have h1 : Tryz.prog.cellsOf 152 = 1 := by kernel_rfl
  have h2 : Tryz.prog.cellsOf 150 = 1 := by kernel_rfl
  rw [h1] at hlen
  obtain ⟨c, rfl⟩ := List.length_eq_one_iff.1 hlen
  obtain ⟨y, rfl⟩ := List.length_eq_one_iff.1 (hl.trans (by rfl))
  · clear hl hlen
    have h0 := hf 0 _ rfl
    change DataW.trod (fun _ => ()) Tryz.prog W 0 (fun _ => true) false n 150 ([c].take (Tryz.prog.cellsOf 150)) = some y at h0
    rw [h2] at h0
    change DataW.trod (fun _ => ()) Tryz.prog W 0 (fun _ => true) false n 150 [c] = some y at h0
    obtain ⟨ha, _⟩ := Prod.mk.inj hx
    simp only [List.map_cons, List.map_nil, DataW.agg.injEq, List.cons.injEq, and_true] at ha
    rcases DataW.trod_pointer Tryz.underlying150 h0 with ⟨hcs, _⟩ | ⟨a, cs', z, m, _, _, hy, _⟩
    · simp only [List.cons.injEq, and_true] at hcs
      rw [hcs]
    · rw [hy] at ha
      cases ha

theorem row_mem (a : Addr) (n : Nat) (h : 0 < n) : MemPlace.cell a.block a.off ∈ MemPlace.row a n := by
  simp only [MemPlace.row, List.mem_map, List.mem_range]
  exact ⟨0, h, rfl⟩

theorem glob_of_laid {W : World} (h : laidMetH Tryz.prog Rows.fnPairRow.laid W) : ∃ p4 p6, Glob W p4 p6 := by
  rw [MakeChecks.laidMetH_plain _ _ _ (by kernel_rfl)] at h
  obtain ⟨ps, ⟨g0, t0, cs0, fu0, q0, r0, hg0, ht0, hv0, hd0, ⟨g1, t1, cs1, fu1, q1, r1, hg1, ht1, hv1, hd1, ⟨g2, t2, cs2, fu2, q2, r2, hg2, ht2, hv2, hd2, ⟨g3, t3, cs3, fu3, q3, r3, hg3, ht3, hv3, hd3, _, hp3⟩, hp2⟩, hp1⟩, hp0⟩, hnd, hcell⟩ := h
  obtain rfl : g1 = 0 := Option.some.inj (hg1.symm.trans (by kernel_rfl))
  obtain rfl : g2 = 2 := Option.some.inj (hg2.symm.trans (by kernel_rfl))
  obtain rfl : g3 = 4 := Option.some.inj (hg3.symm.trans (by kernel_rfl))
  obtain rfl : t1 = 152 := Option.some.inj (ht1.symm.trans (by kernel_rfl))
  obtain rfl : t2 = 152 := Option.some.inj (ht2.symm.trans (by kernel_rfl))
  obtain rfl : t3 = 152 := Option.some.inj (ht3.symm.trans (by kernel_rfl))
  obtain ⟨p4, x4, hc1, hq1⟩ := handle_cell hd1
  obtain ⟨p6, x6, hc2, hq2⟩ := handle_cell hd2
  have hc3 := handle_nil hd3
  have m4 := row_mem p4 2 (by decide)
  have m6 := row_mem p6 2 (by decide)
  have i4 : MemPlace.cell p4.block p4.off ∈ q1 := by rw [hq1]; exact List.mem_append_left _ m4
  have i6 : MemPlace.cell p6.block p6.off ∈ q2 := by rw [hq2]; exact List.mem_append_left _ m6
  have k6 : MemPlace.cell p6.block p6.off ∈ r1 := by rw [hp2]; exact List.mem_append_left _ (List.mem_append_right _ i6)
  have l6 : MemPlace.cell p6.block p6.off ∈ r0 := by rw [hp1]; exact List.mem_append_right _ k6
  have l4 : MemPlace.cell p4.block p4.off ∈ r0 := by rw [hp1]; exact List.mem_append_left _ (List.mem_append_right _ i4)
  have n6 : MemPlace.cell p6.block p6.off ∈ ps := by rw [hp0]; exact List.mem_append_right _ l6
  have n4 : MemPlace.cell p4.block p4.off ∈ ps := by rw [hp0]; exact List.mem_append_right _ l4
  have hne : p4 ≠ p6 := by
    intro e
    rw [hp0, List.nodup_append] at hnd
    have h1 := hnd.2.1
    rw [hp1, List.nodup_append] at h1
    exact h1.2.2 _ (List.mem_append_right _ i4) _ k6 (by rw [e])
  refine ⟨p4, p6, ?_, ?_, ?_, hne, (hcell _ _ n4).1, (hcell _ _ n6).1⟩
  · simpa [hc1] using World.var?_cell hg1 hv1 0
  · simpa [hc2] using World.var?_cell hg2 hv2 0
  · simpa [hc3] using World.var?_cell hg3 hv3 0
end Go.Proofs.YtmfdbcfpcifmcaaGreatDoor

namespace Go.Proofs.YtmfdbcfpcifmcaaGreatDoor
open Go.ChangeShapes Go.WideShapes Go.ChangeAt Go.RowKit

/-- The arguments read behind the call as they read before, if the call has turned no block that was there. -/
theorem args_stay {H : Type} {enc : TypeId × Value → H} {P : Program} (hl : laidOutB P = true) {W W' : World} (hb : Below W.heap.size W W') :
    ∀ {ts : List TypeId} {vs : List Value} {ds : List (DataW H)} {ps : List MemPlace}, (∀ t ∈ ts, P.readableRec t = true ∧ t < P.types.size) → (∀ x ∈ ps, x.block < W.heap.size) →
      DataW.TrodAll enc P W 0 (fun _ => true) true ts vs ds ps → DataW.TrodAll enc P W' 0 (fun b => decide (b < W.heap.size)) true ts vs ds ps
  | [], _, _, _, _, _, h => by
    obtain ⟨rfl, rfl, rfl⟩ := trodAll_nil h
    exact trodAll_mk0
  | t :: ts, _, _, _, ht, hp, h => by
    obtain ⟨v, vs, d, ds, p, q, rfl, rfl, rfl, h1, h2⟩ := trodAll_cons h
    have h0 := ht t (by simp)
    exact trodAll_cons_mk (h1 |> fun h1 => Below.trod hl h0.1 h0.2 h1 hb (fun x hx => hp x (List.mem_append_left _ hx)))
      (args_stay hl hb (fun u hu => ht u (List.mem_cons_of_mem _ hu)) (fun x hx => hp x (List.mem_append_right _ hx)) h2)

/-- The end of a law's row: the call came back with true and turned no block that was there. -/
theorem law_post {H : Type} {enc : TypeId × Value → H} {P : Program} {f : Func} {s : ChangeSpec} {t : TypeId} {W W' : World} {args : Array Value} {ds gs : List (DataW H)} {before : List MemPlace}
    (hl : laidOutB P = true) (hts : (f.params.toList.all fun u => P.readableRec u && decide (u < P.types.size)) = true) (hr : f.resultTypes = #[t]) (ht : P.underlying t = some .bool) (hv : s.vars = [])
    (hs : (s.fn H ds).results = [.lit (.bool true)] ∧ (s.fn H ds).args = ds ∧ (s.fn H ds).vars = [])
    (hW : DataW.Whole enc P f.params.toList s.vars false W args.toList ds gs before) (hb : Below W.heap.size W W') :
    s.post enc P f false true false false W args (.bool true) W' := by
  have hlt := hW.lt
  have hW' := hW
  obtain ⟨p, q, hA, hV, rfl, _, _⟩ := hW
  rw [hv] at hV
  obtain ⟨rfl, rfl⟩ := trodVars_none hV
  obtain ⟨h1, h2, h3⟩ := hs
  refine ⟨ds, [], p ++ [], [], p, [], hW', ?_, ?_, ?_, World.keptBut_mono (fun x hx => ⟨hx, .inr (.inl (by simpa using hx))⟩) (hb.frame _), fun h => by cases h⟩
  · rw [List.append_nil, h1, hr]
    exact trodAll_mk1 (shut_bool ht _)
  · rw [List.append_nil, h2]
    exact args_stay hl hb (fun u hu => by simpa using List.all_eq_true.1 hts u hu) (fun x hx => hlt x (by simpa using hx)) hA
  · rw [List.append_nil, h3, hv]
    rfl

theorem u32_wf {a : Int} (h : (Lit.int .u32 a).wf = true) : 0 ≤ a ∧ a ≤ 4294967295 := by
  simp [Lit.wf, IntKind.min, IntKind.max, IntKind.bits, IntKind.signed] at h
  omega
theorem i64_wf {a : Int} (h : (Lit.int .i64 a).wf = true) : -9223372036854775808 ≤ a ∧ a ≤ 9223372036854775807 := by
  simp [Lit.wf, IntKind.min, IntKind.max, IntKind.bits, IntKind.signed] at h
  omega
theorem own : ownKnob Tryz.prog.godebug = none := by kernel_rfl
end Go.Proofs.YtmfdbcfpcifmcaaGreatDoor

namespace Go.Proofs.YtmfdbcfpcifmcaaGreatDoor
open Go.ChangeShapes Go.WideShapes Go.ChangeAt Go.RowKit
variable {H : Type} {enc : TypeId × Value → H}

theorem handed_both {a : Assume} {C : Checked} {os : Os} {f : FuncId} {fn : Func} {s : ChangeSpec} {conds : List PathCond} {apart fresh handsOn again : Bool} {X : World → Array Value → Prop}
    (hX : ∀ (w w' : World) (args : Array Value), w.heap = w'.heap → X w args → X w' args)
    (own : ownKnob C.prog.godebug = none) (started : os.Started) (noInit : C.prog.inits.idxOf? f = none) (hfn : C.prog.funcs[f]? = some fn)
    (witness : ∃ (w : World) (tape : Tape) (i : Input), w.os = os ∧ (w.forCall tape i).Shaped C.prog ∧ i.vars = [] ∧ Input.okWide C.prog (w.forCall tape i) .any w.heap.size f i ∧
      ((s.pre enc C.prog fn conds apart (w.forCall tape i).memory i.args ∧ X (w.forCall tape i).memory i.args) ∧ sizedMet enc C.prog fn (OpenSpec.ofChange s) apart (w.forCall tape i).memory i.args) ∧ a.holds C.prog (lone (Frame.enter C.prog f i.args .normal) [] (w.forCall tape i)))
    (walk : ∀ (W : World) (base : Nat) (args : Array Value) (ds gs : List (DataW H)) (before : List MemPlace), W.ShapedOpen C.prog → X W args →
      (∀ (j : Nat) t v, fn.params[j]? = some t → args[j]? = some v → Value.okWide C.prog W .any base t v) →
      DataW.Whole enc C.prog fn.params.toList s.vars apart W args.toList ds gs before →
      Calls C.prog f args W fun e W' => ∃ v, e = .returned v ∧ s.post enc C.prog fn apart fresh handsOn again W args v W') :
    ReturnsInHanded a C os f .any (fun w args => (s.pre enc C.prog fn conds apart w args ∧ X w args) ∧ sizedMet enc C.prog fn (OpenSpec.ofChange s) apart w args) (s.post enc C.prog fn apart fresh handsOn again) := by
  refine returnsInHanded_of_calls own started noInit witness ?_
  intro w tape i _ hshape _ hok hpre _
  obtain ⟨_, _, _, g, hg, _, _, _, _, hval⟩ := hok
  cases Option.some.inj (hg.symm.trans hfn)
  obtain ⟨⟨⟨ds, gs, before, hw, _⟩, hx⟩, _⟩ := hpre
  exact (walk (w.forCall tape i) w.heap.size i.args ds gs before hshape (hX _ _ _ (by rfl) hx) hval (DataW.Whole.of_heap (w' := w.forCall tape i) (by rfl) hw)).mono fun e W' ⟨v, he, hp⟩ => he ▸ ChangeSpec.post_blind hp
end Go.Proofs.YtmfdbcfpcifmcaaGreatDoor

namespace Go.Proofs.YtmfdbcfpcifmcaaGreatDoor
open Go.RowKit

structure Cand where
  typ : Int
  net : Int
  comp : Int
  port : Int
  tcp : Int
  prio : Int
  relay : Int
  addr : ByteArray
  found : ByteArray
  exts : Value
/-- Its cells: the base's seventeen; where the related address lies, and the address as it was read. -/
def Cand.cells (c : Cand) (rel : Option Addr) (hi lo : Int) (p : Addr) (port16 : Int) : List Value :=
  [.string ⟨#[]⟩, .int .i64 c.net, .int .u8 c.typ, .int .u16 c.comp, .string c.addr, .int .i64 c.port, .pointer rel, .int .i64 c.tcp, .int .u64 hi, .int .u64 lo, .pointer (some p), .int .u16 port16, .string c.found, .int .u32 c.prio, .int .u16 c.relay, .bool false, c.exts]
/-- The struct's type and the pointer's, by the kind. -/
def strT (kind : Nat) : TypeId := match kind with | 1 => 160 | 2 => 162 | 3 => 163 | _ => 165
def dynT (kind : Nat) : TypeId := match kind with | 1 => 90 | 2 => 97 | 3 => 103 | _ => 108

/-- Block g is the candidate c; 'rel': where its related address lies. -/
def CandAt (w : World) (kind g : Nat) (c : Cand) (rel : Option Addr) : Prop :=
  ∃ (hi lo : Int) (p : Addr) (port16 : Int) (last : List Value), Row w g (strT kind) (c.cells rel hi lo p port16 ++ last).toArray

/-- What a maker of a kind other than host leaves. -/
def NewCand (kind : Nat) (c : Cand) (raddr : ByteArray) (rport : Int) (w : World) (e : Ending) (w' : World) : Prop :=
  ∃ (g gr : Nat), e = .returned (.tuple #[.pointer (some ⟨g, 0, none⟩), .nilIface]) ∧ Below w.heap.size w w' ∧ w.heap.size ≤ g ∧ w.heap.size ≤ gr ∧ g ≠ gr ∧
    CandAt w' kind g c (some ⟨gr, 0, none⟩) ∧ Row w' gr 124 #[.string raddr, .int .i64 rport]

set_option maxRecDepth 100000 in
set_option maxHeartbeats 400000 in
theorem relayPref (w : World) : Calls Tryz.prog 80 #[.string ⟨#[]⟩] w fun e w' => e = .returned (.int .u16 3) ∧ w = w' := by
  go_enter Tryz.func80, Tryz.ntmps80
  go_wp2
  go_ret
  exact ⟨rfl, rfl⟩
end Go.Proofs.YtmfdbcfpcifmcaaGreatDoor
