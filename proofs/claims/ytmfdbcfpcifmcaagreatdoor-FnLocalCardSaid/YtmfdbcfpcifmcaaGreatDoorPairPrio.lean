/- impl.PairPriority, whole. -/
import Derived.Test.YtmfdbcfpcifmcaaGreatDoorPairWalk
namespace Go.Proofs.YtmfdbcfpcifmcaaGreatDoor
open Go.RowKit

set_option maxRecDepth 100000 in
set_option maxHeartbeats 1000000 in
theorem zzPrio (g gl gr : Nat) (c : Bool) (a b : Int) (ha : 0 < a ∧ a ≤ 4294967295) (hb : 0 < b ∧ b ≤ 4294967295) (w : World)
    (hc1 : w.cell? ⟨g, 1, none⟩ = some (.bool c)) (hc2 : w.cell? ⟨g, 2, none⟩ = some (.iface 90 (.pointer (some ⟨gr, 0, none⟩)))) (hc3 : w.cell? ⟨g, 3, none⟩ = some (.iface 90 (.pointer (some ⟨gl, 0, none⟩))))
    (hc5 : w.cell? ⟨g, 5, none⟩ = some (.bool false)) (hl : w.cell? ⟨gl, 13, none⟩ = some (.int .u32 a)) (hr : w.cell? ⟨gr, 13, none⟩ = some (.int .u32 b)) :
    Calls Tryz.prog 40 #[.pointer (some ⟨g, 0, none⟩)] w fun e w' => e = .returned (.int .u64 (if c = true then pairOf a b else pairOf b a)) ∧ w = w' := by
  go_enter Tryz.func40, Tryz.ntmps40
  go_wp2_with fail
  refine (pairPrio g gl gr c a b ha hb w hc1 hc2 hc3 hc5 hl hr).mono ?_
  rintro e w' ⟨rfl, rfl⟩
  go_wp2_with fail
  all_goals
    go_ret
    exact ⟨rfl, rfl⟩

/-- The addresses that PairPriority takes: 192.0.2.1 and 192.0.2.2. -/
theorem addr_one : addrText false ⟨#[49, 57, 50, 46, 48, 46, 50, 46, 49]⟩ := by
  exact ⟨1, 0, by decide⟩
theorem addr_two : addrText false ⟨#[49, 57, 50, 46, 48, 46, 50, 46, 50]⟩ := by
  exact ⟨2, 0, by decide⟩

set_option maxRecDepth 100000 in
set_option maxHeartbeats 2000000 in
theorem pairBody (c : Bool) (a b : Int) (ha : 0 < a ∧ a ≤ 4294967295) (hb : 0 < b ∧ b ≤ 4294967295) (w : World) (p4 p6 : Addr) (hG : Glob w p4 p6) (ga gb gc gx gt : Nat)
    (ra : Row w ga 22 #[.int .u32 a]) (rb : Row w gb 22 #[.int .u32 b]) (rc : Row w gc 4 #[.bool c]) (ro : Row w gx 39 #[.int .u64 0]) (rt : Row w gt 4 #[.bool false]) (hne : gx ≠ gt) :
    Calls Tryz.prog 37 #[.pointer (some ⟨ga, 0, none⟩), .pointer (some ⟨gb, 0, none⟩), .pointer (some ⟨gc, 0, none⟩), .pointer (some ⟨gx, 0, none⟩)] w fun e w' =>
      ∃ q, e = .returned (.bool q) ∧ Row w' gt 4 #[.bool false] ∧ (Row w' gx 39 #[.int .u64 (if c = true then pairOf a b else pairOf b a)] ∧ w.grownBy w' (some gx)) := by
  obtain ⟨P, hP⟩ : ∃ P, P = (if c = true then pairOf a b else pairOf b a) := ⟨_, rfl⟩
  rw [← hP]
  have HP := Lib.hid hP
  clear hP
  have c0 : w.cell? ⟨ga, 0, none⟩ = some (.int .u32 a) := ra.cell 0
  have hla := ra.lt
  have hlb := rb.lt
  have hlc := rc.lt
  have hlo := ro.lt
  have hlt := rt.lt
  go_enter Tryz.func37, Tryz.ntmps37
  go_wp2_with fail
  refine (madeHost false false addr_one (by decide) 1 1 a 0 ⟨#[]⟩ (by decide) (by decide) (by decide) (by decide) (by decide) (by decide) none none 0 0 w p4 p6 hG).mono ?_
  rintro e w1 ⟨g1, rfl, hb1, hg1, hi1, lo1, q1, -, hr1⟩
  have c1 : w1.cell? ⟨gb, 0, none⟩ = some (.int .u32 b) := (rb.below hb1 hlb).cell 0
  go_wp2_with fail
  refine (madeHost false false addr_two (by decide) 2 1 b 0 ⟨#[]⟩ (by decide) (by decide) (by decide) (by decide) (by decide) (by decide) none none 0 0 w1 p4 p6 (hG.below hb1)).mono ?_
  rintro e w2 ⟨g2, rfl, hb2, hg2, hi2, lo2, q2, -, hr2⟩
  have hsz1 := hb1.size
  have hsz2 := hb2.size
  have hl1 := hr1.lt
  have hr1' := hr1.below hb2 hl1
  have hB := hb1.trans (hb2.mono hsz1)
  have ra2 := ra.below hB hla
  have rb2 := rb.below hB hlb
  have rc2 := rc.below hB hlc
  have ro2 := ro.below hB hlo
  have rt2 := rt.below hB hlt
  have hg21 : g2 ≠ g1 := by omega
  clear c0 c1 ra rb rc ro rt hb1 hb2 hr1
  have c0 : w2.cell? ⟨ga, 0, none⟩ = some (.int .u32 a) := ra2.cell 0
  go_wp2_with fail
  refine (zzSetPrio g1 a a w2 (hr1'.cell 13) (hr1'.free 13)).mono ?_
  rintro e w3 ⟨rfl, hw3⟩
  have hl2 := hr2.lt
  have r13 : Row w3 g1 160 _ := hw3 ▸ hr1'.set 13 (.int .u32 a)
  have r23 : Row w3 g2 160 _ := hw3 ▸ hr2.far (p := ⟨g1, 13, none⟩) hg21 (.int .u32 a)
  have ra3 : Row w3 ga 22 _ := hw3 ▸ ra2.far (p := ⟨g1, 13, none⟩) (by simp only; omega) (.int .u32 a)
  have rb3 : Row w3 gb 22 _ := hw3 ▸ rb2.far (p := ⟨g1, 13, none⟩) (by simp only; omega) (.int .u32 a)
  have rc3 : Row w3 gc 4 _ := hw3 ▸ rc2.far (p := ⟨g1, 13, none⟩) (by simp only; omega) (.int .u32 a)
  have ro3 : Row w3 gx 39 _ := hw3 ▸ ro2.far (p := ⟨g1, 13, none⟩) (by simp only; omega) (.int .u32 a)
  have rt3 : Row w3 gt 4 _ := hw3 ▸ rt2.far (p := ⟨g1, 13, none⟩) (by simp only; omega) (.int .u32 a)
  have hB3 : Below w.heap.size w w3 := hw3 ▸ below_st hB (by omega) 13 (.int .u32 a)
  clear c0 hw3 ra2 rb2 rc2 ro2 rt2 hr1' hr2 hB
  have c1 : w3.cell? ⟨gb, 0, none⟩ = some (.int .u32 b) := rb3.cell 0
  go_wp2_with fail
  refine (zzSetPrio g2 b b w3 (r23.cell 13) (r23.free 13)).mono ?_
  rintro e w4 ⟨rfl, hw4⟩
  have r14 : Row w4 g1 160 _ := hw4 ▸ r13.far (p := ⟨g2, 13, none⟩) (Ne.symm hg21) (.int .u32 b)
  have r24 : Row w4 g2 160 _ := hw4 ▸ r23.set 13 (.int .u32 b)
  have rc4 : Row w4 gc 4 _ := hw4 ▸ rc3.far (p := ⟨g2, 13, none⟩) (by simp only; omega) (.int .u32 b)
  have ro4 : Row w4 gx 39 _ := hw4 ▸ ro3.far (p := ⟨g2, 13, none⟩) (by simp only; omega) (.int .u32 b)
  have rt4 : Row w4 gt 4 _ := hw4 ▸ rt3.far (p := ⟨g2, 13, none⟩) (by simp only; omega) (.int .u32 b)
  have hB4 : Below w.heap.size w w4 := hw4 ▸ below_st hB3 (by omega) 13 (.int .u32 b)
  clear c1 hw4 ra3 rb3 rc3 ro3 rt3 r13 r23 hB3
  have c2 : w4.cell? ⟨gc, 0, none⟩ = some (.bool c) := rc4.cell 0
  go_wp2_with fail
  refine (newPair g1 g2 c w4).mono ?_
  rintro e w5 ⟨rfl, hw5⟩
  have r15 : Row w5 g1 160 _ := hw5 ▸ r14.alloc _
  have r25 : Row w5 g2 160 _ := hw5 ▸ r24.alloc _
  have ro5 : Row w5 gx 39 #[.int .u64 0] := hw5 ▸ ro4.alloc _
  have rt5 : Row w5 gt 4 _ := hw5 ▸ rt4.alloc _
  have rp5 : Row w5 w4.heap.size 176 #[.int .u64 0, .bool c, .iface 90 (.pointer (some ⟨g2, 0, none⟩)), .iface 90 (.pointer (some ⟨g1, 0, none⟩)), .int .u64 0, .bool false, .int .i64 1, .bool false] := hw5 ▸ Row.new _ _ _
  have hB5 : Below w.heap.size w w5 := hw5 ▸ hB4.alloc hB4.size _
  clear c2 hw5 r14 r24 rc4 ro4 rt4
  go_wp2_with fail
  refine (zzPrio w4.heap.size g1 g2 c a b ha hb w5 (rp5.cell 1) (rp5.cell 2) (rp5.cell 3) (rp5.cell 5) (r15.cell 13) (r25.cell 13)).mono ?_
  rw [← HP.out]
  rintro e w6 ⟨rfl, rfl⟩
  have c3 : w5.cell? ⟨gx, 0, none⟩ = some (.int .u64 0) := ro5.cell 0
  have f3 := ro5.free 0
  have hfin : Row (w5.setCell ⟨gx, 0, none⟩ (.int .u64 P)) gx 39 #[.int .u64 P] := ro5.set 0 (.int .u64 P)
  have tfin : Row (w5.setCell ⟨gx, 0, none⟩ (.int .u64 P)) gt 4 #[.bool false] := rt5.far (p := ⟨gx, 0, none⟩) (Ne.symm hne) (.int .u64 P)
  have gfin : w.grownBy (w5.setCell ⟨gx, 0, none⟩ (.int .u64 P)) (some gx) := only_set ⟨hB5.os, hB5.tape, hB5.output, hB5.size, fun i hi _ => hB5.block i hi⟩ 0 (.int .u64 P)
  have HA := Lib.hid hfin
  have HB := Lib.hid tfin
  have HC := Lib.hid gfin
  clear hfin tfin gfin r15 r25 ro5 rt5 rp5 hB4 hB5
  go_wp2_with fail
  go_ret
  exact ⟨true, rfl, HB.out, HA.out, HC.out⟩

set_option maxRecDepth 100000 in
set_option maxHeartbeats 2000000 in
theorem pairPriority (c : Bool) (a b : Int) (ha : 0 < a ∧ a ≤ 4294967295) (hb : 0 < b ∧ b ≤ 4294967295) (w : World) (p4 p6 : Addr) (hG : Glob w p4 p6) :
    Calls Tryz.prog 19 #[.bool c, .int .u32 a, .int .u32 b] w fun e w' => e = .returned (.int .u64 (if c = true then pairOf a b else pairOf b a)) ∧ Below w.heap.size w w' := by
  have hmf : ∀ (fn : Fn) (first cap : Array Value) (w : World), (Instr.makeFunc fn first cap).run Tryz.prog w = .ok (.func fn first cap) w := fun _ _ _ _ => rfl
  obtain ⟨P, hP⟩ : ∃ P, P = (if c = true then pairOf a b else pairOf b a) := ⟨_, rfl⟩
  rw [← hP]
  have HP := Lib.hid hP
  clear hP
  go_enter Tryz.func19, Tryz.ntmps19
  go_wp2_with fail
  obtain ⟨W, hW⟩ : ∃ W, W = (((w.alloc (.cells #[.bool c] 4)).alloc (.cells #[.int .u32 a] 22)).alloc (.cells #[.int .u32 b] 22)).alloc (.cells #[.int .u64 0] 39) := ⟨_, rfl⟩
  have rc : Row W w.heap.size 4 #[.bool c] := hW ▸ (((Row.new _ _ _).alloc _).alloc _).alloc _
  have ra : Row W (w.heap.size + 1) 22 #[.int .u32 a] := by
    have h := ((Row.new (w.alloc (.cells #[.bool c] 4)) 22 #[.int .u32 a]).alloc (.cells #[.int .u32 b] 22)).alloc (.cells #[.int .u64 0] 39)
    rw [hW]
    simpa using h
  have rb : Row W (w.heap.size + 1 + 1) 22 #[.int .u32 b] := by
    have h := (Row.new ((w.alloc (.cells #[.bool c] 4)).alloc (.cells #[.int .u32 a] 22)) 22 #[.int .u32 b]).alloc (.cells #[.int .u64 0] 39)
    rw [hW]
    simpa using h
  have ro : Row W (w.heap.size + 1 + 1 + 1) 39 #[.int .u64 0] := by
    have h := Row.new (((w.alloc (.cells #[.bool c] 4)).alloc (.cells #[.int .u32 a] 22)).alloc (.cells #[.int .u32 b] 22)) 39 #[.int .u64 0]
    rw [hW]
    simpa using h
  have hsz : W.heap.size = w.heap.size + 4 := by rw [hW]; simp
  have hB : Below w.heap.size w W := by
    rw [hW]
    exact ((((Below.refl _ _).alloc (Nat.le_refl _) _).alloc (by simp) _).alloc (by simp; omega) _).alloc (by simp; omega) _
  rw [← hW]
  clear hW
  have hBt : Below w.heap.size w (W.alloc (.cells #[.bool false] 4)) := hB.alloc (by omega) _
  have hGt := hG.below hBt
  have rot := ro.alloc (.cells #[.bool false] 4)
  have hszt : (W.alloc (.cells #[.bool false] 4)).heap.size = w.heap.size + 5 := by simp [hsz]
  have hbody := pairBody c a b ha hb (W.alloc (.cells #[.bool false] 4)) p4 p6 hGt (w.heap.size + 1) (w.heap.size + 1 + 1) w.heap.size (w.heap.size + 1 + 1 + 1) W.heap.size (ra.alloc _) (rb.alloc _) (rc.alloc _) rot (Row.new _ _ _) (by omega)
  rw [← HP.out] at hbody
  refine (try_ok 37 _ (fun _ => by kernel_rfl) (fun _ w' => Row w' (w.heap.size + 1 + 1 + 1) 39 #[.int .u64 P] ∧ (W.alloc (.cells #[.bool false] 4)).grownBy w' (some (w.heap.size + 1 + 1 + 1))) W hbody).mono ?_
  rintro e w' ⟨q, w1, rfl, ⟨hr, hg⟩, hw'⟩
  have hr' : Row w' (w.heap.size + 1 + 1 + 1) 39 #[.int .u64 P] := hw' ▸ hr.far (p := ⟨W.heap.size, 0, none⟩) (by simp only; omega) (.bool q)
  have hBf : Below w.heap.size w w' := hw' ▸ below_st (hBt.grown hg (by omega) (some_ge (by omega))) (by omega) 0 (.bool q)
  have HB := Lib.hid hBf
  clear hw' hr hg hbody rot hGt hBt ra rb rc ro hBf hB
  have c0 : w'.cell? ⟨w.heap.size + 1 + 1 + 1, 0, none⟩ = some (.int .u64 P) := hr'.cell 0
  have f0 := hr'.free 0
  go_wp2_with fail
  have c1 : (w'.setCell ⟨w.heap.size + 1 + 1 + 1, 0, none⟩ (.int .u64 P)).cell? ⟨w.heap.size + 1 + 1 + 1, 0, none⟩ = some (.int .u64 P) := (hr'.set 0 (.int .u64 P)).cell 0
  refine bodyPost_ret (v := .int .u64 P) ?h1 rfl ⟨rfl, below_st HB.out (by omega) 0 _⟩
  case h1 => simp [results, Tryz.results19, go_sem, c1]

set_option maxRecDepth 100000 in
set_option maxHeartbeats 2000000 in
theorem works (w : World) : Calls Tryz.prog 15 #[] w fun e w' => e = .returned (.bool true) ∧ w = w' := by
  go_enter Tryz.func15, Tryz.ntmps15
  go_wp2
  go_ret
  exact ⟨rfl, rfl⟩

set_option maxRecDepth 100000 in
set_option maxHeartbeats 2000000 in
theorem fnPair (c : Bool) (a b : Int) (ha : 0 ≤ a ∧ a ≤ 4294967295) (hb : 0 ≤ b ∧ b ≤ 4294967295) (w : World) (p4 p6 : Addr) (hG : Glob w p4 p6) :
    Calls Tryz.prog 4 #[.bool c, .int .u32 a, .int .u32 b] w fun e w' => e = .returned (.bool true) ∧ Below w.heap.size w w' := by
  by_cases h0 : a = 0 ∨ b = 0
  · have hv : (a == 0) = true ∨ ((a == 0) = false ∧ (b == 0) = true) := by
      by_cases ha0 : a = 0
      · exact .inl (by simpa using ha0)
      · exact .inr ⟨by simpa using ha0, by simpa using h0.resolve_left ha0⟩
    clear h0
    rcases hv with h | ⟨h, h2⟩
    all_goals
      go_enter Tryz.func4, Tryz.ntmps4
      go_wp2_with fail
      refine (works w).mono ?_
      rintro e w' ⟨rfl, rfl⟩
      go_wp2_with fail
      go_ret
      exact ⟨rfl, Below.refl _ _⟩
  · have h1 : (a == 0) = false := by simp; omega
    have h2 : (b == 0) = false := by simp; omega
    have hp1 : 0 < a := by omega
    have hp2 : 0 < b := by omega
    cases c
    · go_enter Tryz.func4, Tryz.ntmps4
      go_wp2_with fail
      refine (specPair a b ha hb w).mono ?_
      rintro e w' ⟨rfl, rfl⟩
      go_wp2_with fail
      refine (specPair b a hb ha w).mono ?_
      rintro e w' ⟨rfl, rfl⟩
      go_wp2_with fail
      refine (pairPriority false a b ⟨hp1, ha.2⟩ ⟨hp2, hb.2⟩ w p4 p6 hG).mono ?_
      rintro e w1 ⟨rfl, hb1⟩
      have HB := Lib.hid hb1
      clear hb1
      simp only [Bool.false_eq_true, if_false]
      go_wp2_with fail
      refine (works w1).mono ?_
      rintro e w' ⟨rfl, rfl⟩
      go_wp2_with fail
      go_ret
      exact ⟨rfl, HB.out⟩
    · go_enter Tryz.func4, Tryz.ntmps4
      go_wp2_with fail
      refine (specPair a b ha hb w).mono ?_
      rintro e w' ⟨rfl, rfl⟩
      go_wp2_with fail
      refine (pairPriority true a b ⟨hp1, ha.2⟩ ⟨hp2, hb.2⟩ w p4 p6 hG).mono ?_
      rintro e w1 ⟨rfl, hb1⟩
      have HB := Lib.hid hb1
      clear hb1
      simp only [if_true]
      go_wp2_with fail
      refine (works w1).mono ?_
      rintro e w' ⟨rfl, rfl⟩
      go_wp2_with fail
      go_ret
      exact ⟨rfl, HB.out⟩
end Go.Proofs.YtmfdbcfpcifmcaaGreatDoor
