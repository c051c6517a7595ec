/- net/netip: 2001:db8:0:1:2:3:4:5 is read as an address of IPv6 in which no address of IPv4 lies. (Written by gen6.py.) -/
import Derived.Test.YtmfdbcfpcifmcaaGreatDoorSixBase
namespace Go.Proofs.YtmfdbcfpcifmcaaGreatDoor
open Go.RowKit
attribute [local go_sem] byte_mk

set_option maxRecDepth 100000 in
set_option maxHeartbeats 8000000 in
theorem six4 (w : World) (p4 p6 : Addr) (hG : Glob w p4 p6) :
    Calls Tryz.prog 90 #[.string ⟨#[50, 48, 48, 49, 58, 100, 98, 56, 58, 48, 58, 49, 58, 50, 58, 51, 58, 52, 58, 53]⟩] w fun e w' => IsAddr6 p6 e ∧ Below w.heap.size w w' := by
  have hix : ∀ W : World, (callFunc 103 #[.string ⟨#[50, 48, 48, 49, 58, 100, 98, 56, 58, 48, 58, 49, 58, 50, 58, 51, 58, 52, 58, 53]⟩, .int .u8 37]).run Tryz.prog W = .ok (.value (.int .i64 (-1))) W := fun _ => by kernel_rfl
  have e0 : (ByteArray.mk #[50, 48, 48, 49, 58, 100, 98, 56, 58, 48, 58, 49, 58, 50, 58, 51, 58, 52, 58, 53]).extract 4 20 = ⟨#[58, 100, 98, 56, 58, 48, 58, 49, 58, 50, 58, 51, 58, 52, 58, 53]⟩ := by rfl
  have e1 : (ByteArray.mk #[58, 100, 98, 56, 58, 48, 58, 49, 58, 50, 58, 51, 58, 52, 58, 53]).extract 1 16 = ⟨#[100, 98, 56, 58, 48, 58, 49, 58, 50, 58, 51, 58, 52, 58, 53]⟩ := by rfl
  have e2 : (ByteArray.mk #[100, 98, 56, 58, 48, 58, 49, 58, 50, 58, 51, 58, 52, 58, 53]).extract 3 15 = ⟨#[58, 48, 58, 49, 58, 50, 58, 51, 58, 52, 58, 53]⟩ := by rfl
  have e3 : (ByteArray.mk #[58, 48, 58, 49, 58, 50, 58, 51, 58, 52, 58, 53]).extract 1 12 = ⟨#[48, 58, 49, 58, 50, 58, 51, 58, 52, 58, 53]⟩ := by rfl
  have e4 : (ByteArray.mk #[48, 58, 49, 58, 50, 58, 51, 58, 52, 58, 53]).extract 1 11 = ⟨#[58, 49, 58, 50, 58, 51, 58, 52, 58, 53]⟩ := by rfl
  have e5 : (ByteArray.mk #[58, 49, 58, 50, 58, 51, 58, 52, 58, 53]).extract 1 10 = ⟨#[49, 58, 50, 58, 51, 58, 52, 58, 53]⟩ := by rfl
  have e6 : (ByteArray.mk #[49, 58, 50, 58, 51, 58, 52, 58, 53]).extract 1 9 = ⟨#[58, 50, 58, 51, 58, 52, 58, 53]⟩ := by rfl
  have e7 : (ByteArray.mk #[58, 50, 58, 51, 58, 52, 58, 53]).extract 1 8 = ⟨#[50, 58, 51, 58, 52, 58, 53]⟩ := by rfl
  have e8 : (ByteArray.mk #[50, 58, 51, 58, 52, 58, 53]).extract 1 7 = ⟨#[58, 51, 58, 52, 58, 53]⟩ := by rfl
  have e9 : (ByteArray.mk #[58, 51, 58, 52, 58, 53]).extract 1 6 = ⟨#[51, 58, 52, 58, 53]⟩ := by rfl
  have e10 : (ByteArray.mk #[51, 58, 52, 58, 53]).extract 1 5 = ⟨#[58, 52, 58, 53]⟩ := by rfl
  have e11 : (ByteArray.mk #[58, 52, 58, 53]).extract 1 4 = ⟨#[52, 58, 53]⟩ := by rfl
  have e12 : (ByteArray.mk #[52, 58, 53]).extract 1 3 = ⟨#[58, 53]⟩ := by rfl
  have e13 : (ByteArray.mk #[58, 53]).extract 1 2 = ⟨#[53]⟩ := by rfl
  have hB : ∀ cs : Array Value, Below w.heap.size w ((w.alloc (.cells #[.int .u64 0, .int .u64 0, .pointer none] 154)).alloc (.cells cs 203)) := fun cs => below_al (below_al (Below.refl _ _) (Nat.le_refl _) _) (Nat.le_refl _) _
  go_enter Tryz.func90, Tryz.ntmps90
  go_wp2_with fail
  refine wp_loop_rounds 8 ?_
  rw [rounds_succ]
  go_wp2_with fail
  refine wp_loop_rounds 5 ?_
  rw [rounds_succ]
  go_wp2_with fail
  rw [rounds_succ]
  go_wp2_with fail
  rw [rounds_succ]
  go_wp2_with fail
  rw [rounds_succ]
  go_wp2_with fail
  rw [rounds_succ]
  go_wp2_with fail
  rw [rounds_succ]
  go_wp2_with fail
  refine wp_loop_rounds 4 ?_
  rw [rounds_succ]
  go_wp2_with fail
  rw [rounds_succ]
  go_wp2_with fail
  rw [rounds_succ]
  go_wp2_with fail
  rw [rounds_succ]
  go_wp2_with fail
  rw [rounds_succ]
  go_wp2_with fail
  refine wp_loop_rounds 2 ?_
  rw [rounds_succ]
  go_wp2_with fail
  rw [rounds_succ]
  go_wp2_with fail
  rw [rounds_succ]
  go_wp2_with fail
  refine wp_loop_rounds 2 ?_
  rw [rounds_succ]
  go_wp2_with fail
  rw [rounds_succ]
  go_wp2_with fail
  rw [rounds_succ]
  go_wp2_with fail
  refine wp_loop_rounds 2 ?_
  rw [rounds_succ]
  go_wp2_with fail
  rw [rounds_succ]
  go_wp2_with fail
  rw [rounds_succ]
  go_wp2_with fail
  refine wp_loop_rounds 2 ?_
  rw [rounds_succ]
  go_wp2_with fail
  rw [rounds_succ]
  go_wp2_with fail
  rw [rounds_succ]
  go_wp2_with fail
  refine wp_loop_rounds 2 ?_
  rw [rounds_succ]
  go_wp2_with fail
  rw [rounds_succ]
  go_wp2_with fail
  rw [rounds_succ]
  go_wp2_with fail
  refine wp_loop_rounds 2 ?_
  rw [rounds_succ]
  go_wp2_with fail
  rw [rounds_succ]
  go_wp2_with fail
  refine (from16 32 1 13 184 0 0 0 1 0 2 0 3 0 4 0 5 _ p4 p6 (hG.below (hB _))).mono ?_
  rintro e w1 ⟨rfl, hb1⟩
  have hb01 := below_next (hB _) hb1 (by simp; omega)
  obtain ⟨_, _, hsz⟩ := two_rows hb1
  go_wp2_with fail
  refine (noZone _ _ _ p4 p6 (hG.below hb01)).mono ?_
  rintro e w2 ⟨rfl, hb2⟩
  have hb02 := below_next hb01 hb2 (by omega)
  have hq : Row w2 w.heap.size 154 #[.int .u64 0, .int .u64 0, .pointer none] := ((two_rows hb1).1).below hb2 (by omega)
  have q0 := hq.cell 0
  have q1 := hq.cell 1
  have q2 := hq.cell 2
  have f0 := hq.free 0
  have f1 := hq.free 1
  have f2 := hq.free 2
  clear hq
  simp only [addrV]
  go_wp2_with fail
  refine bodyPost_ret (v := .tuple #[addrV (be8 32 1 13 184 0 0 0 1) (be8 0 2 0 3 0 4 0 5) p6, .nilIface]) ?h1 rfl ⟨⟨_, _, rfl, ?h3⟩, ?h2⟩
  case h1 => simp [results, Tryz.results90, go_sem, q0, q1, q2, addrV]
  case h2 => exact below_st (below_st (below_st hb02 (by omega) _ _) (by omega) _ _) (by omega) _ _
  case h3 => exact .inl (by kernel_rfl)

end Go.Proofs.YtmfdbcfpcifmcaaGreatDoor
