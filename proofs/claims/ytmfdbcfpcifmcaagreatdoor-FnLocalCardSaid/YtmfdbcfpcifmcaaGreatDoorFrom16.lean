/- net/netip: sixteen bytes as an address of IPv6, and what WithZone does with the empty zone. -/
import Derived.Test.YtmfdbcfpcifmcaaGreatDoorAddr4
import Derived.Deep.QuietTactic
import Derived.BigQuiet
import Derived.Deep.RegionHeld3
namespace Go.Proofs.YtmfdbcfpcifmcaaGreatDoor
open Go.RowKit

/-- Eight bytes as a number, as the code reckons it. -/
def be8 (b0 b1 b2 b3 b4 b5 b6 b7 : Int) : Int :=
  bits BinOp.or IntKind.u64
    (bits BinOp.or IntKind.u64
      (bits BinOp.or IntKind.u64
        (bits BinOp.or IntKind.u64
          (bits BinOp.or IntKind.u64
            (bits BinOp.or IntKind.u64
              (bits BinOp.or IntKind.u64 (IntKind.u64.wrap b7) (IntKind.u64.wrap (IntKind.u64.wrap b6 * 256)))
              (IntKind.u64.wrap (IntKind.u64.wrap b5 * 65536)))
            (IntKind.u64.wrap (IntKind.u64.wrap b4 * 16777216)))
          (IntKind.u64.wrap (IntKind.u64.wrap b3 * 4294967296)))
        (IntKind.u64.wrap (IntKind.u64.wrap b2 * 1099511627776)))
      (IntKind.u64.wrap (IntKind.u64.wrap b1 * 281474976710656)))
    (IntKind.u64.wrap (IntKind.u64.wrap b0 * 72057594037927936))

set_option maxRecDepth 100000 in
set_option maxHeartbeats 2000000 in
theorem be64 (b0 b1 b2 b3 b4 b5 b6 b7 : Int) (g o c : Nat) (w : World) (_hc : 8 ≤ c)
    (h0 : w.cell? ⟨g, o, none⟩ = some (.int .u8 b0)) (h1 : w.cell? ⟨g, o + 1, none⟩ = some (.int .u8 b1)) (h2 : w.cell? ⟨g, o + 2, none⟩ = some (.int .u8 b2)) (h3 : w.cell? ⟨g, o + 3, none⟩ = some (.int .u8 b3))
    (h4 : w.cell? ⟨g, o + 4, none⟩ = some (.int .u8 b4)) (h5 : w.cell? ⟨g, o + 5, none⟩ = some (.int .u8 b5)) (h6 : w.cell? ⟨g, o + 6, none⟩ = some (.int .u8 b6)) (h7 : w.cell? ⟨g, o + 7, none⟩ = some (.int .u8 b7)) :
    Calls Tryz.prog 117 #[.slice (some ⟨g, o, none⟩) 8 c] w fun e w' => e = .returned (.int .u64 (be8 b0 b1 b2 b3 b4 b5 b6 b7)) ∧ ∃ n, w' = w.drewN n := by
  go_enter Tryz.func117, Tryz.ntmps117
  go_wp2
  go_quiet (fail)
  go_wp2
  go_ret
  exact ⟨rfl, _, rfl⟩

theorem be64a (a0 a1 a2 a3 a4 a5 a6 a7 a8 a9 a10 a11 a12 a13 a14 a15 : Int) (g : Nat) (w : World) (hr : Row w g 203 #[.int .u8 a0, .int .u8 a1, .int .u8 a2, .int .u8 a3, .int .u8 a4, .int .u8 a5, .int .u8 a6, .int .u8 a7, .int .u8 a8, .int .u8 a9, .int .u8 a10, .int .u8 a11, .int .u8 a12, .int .u8 a13, .int .u8 a14, .int .u8 a15]) :
    Calls Tryz.prog 117 #[.slice (some ⟨g, 0, none⟩) 8 16] w fun e w' => e = .returned (.int .u64 (be8 a0 a1 a2 a3 a4 a5 a6 a7)) ∧ ∃ n, w' = w.drewN n :=
  be64 a0 a1 a2 a3 a4 a5 a6 a7 g 0 16 w (by omega) (hr.cell 0) (hr.cell 1) (hr.cell 2) (hr.cell 3) (hr.cell 4) (hr.cell 5) (hr.cell 6) (hr.cell 7)
theorem be64b (a0 a1 a2 a3 a4 a5 a6 a7 a8 a9 a10 a11 a12 a13 a14 a15 : Int) (g : Nat) (w : World) (hr : Row w g 203 #[.int .u8 a0, .int .u8 a1, .int .u8 a2, .int .u8 a3, .int .u8 a4, .int .u8 a5, .int .u8 a6, .int .u8 a7, .int .u8 a8, .int .u8 a9, .int .u8 a10, .int .u8 a11, .int .u8 a12, .int .u8 a13, .int .u8 a14, .int .u8 a15]) :
    Calls Tryz.prog 117 #[.slice (some ⟨g, 8, none⟩) 8 8] w fun e w' => e = .returned (.int .u64 (be8 a8 a9 a10 a11 a12 a13 a14 a15)) ∧ ∃ n, w' = w.drewN n :=
  be64 a8 a9 a10 a11 a12 a13 a14 a15 g 8 8 w (by omega) (hr.cell 8) (hr.cell 9) (hr.cell 10) (hr.cell 11) (hr.cell 12) (hr.cell 13) (hr.cell 14) (hr.cell 15)

set_option maxRecDepth 100000 in
set_option maxHeartbeats 2000000 in
theorem from16 (a0 a1 a2 a3 a4 a5 a6 a7 a8 a9 a10 a11 a12 a13 a14 a15 : Int) (w : World) (p4 p6 : Addr) (hG : Glob w p4 p6) :
    Calls Tryz.prog 106 #[.agg #[.int .u8 a0, .int .u8 a1, .int .u8 a2, .int .u8 a3, .int .u8 a4, .int .u8 a5, .int .u8 a6, .int .u8 a7, .int .u8 a8, .int .u8 a9, .int .u8 a10, .int .u8 a11, .int .u8 a12, .int .u8 a13, .int .u8 a14, .int .u8 a15]] w
      fun e w' => e = .returned (addrV (be8 a0 a1 a2 a3 a4 a5 a6 a7) (be8 a8 a9 a10 a11 a12 a13 a14 a15) p6) ∧ Below w.heap.size w w' := by
  go_enter Tryz.func106, Tryz.ntmps106
  go_wp2_with fail
  have hb0 : Below w.heap.size w ((w.alloc (.cells #[.int .u8 a0, .int .u8 a1, .int .u8 a2, .int .u8 a3, .int .u8 a4, .int .u8 a5, .int .u8 a6, .int .u8 a7, .int .u8 a8, .int .u8 a9, .int .u8 a10, .int .u8 a11, .int .u8 a12, .int .u8 a13, .int .u8 a14, .int .u8 a15] 203)).alloc (.cells #[.int .u64 0, .int .u64 0, .pointer none] 154)) := below_al (below_al (Below.refl _ _) (Nat.le_refl _) _) (Nat.le_refl _) _
  have hz := (hG.below hb0).z6
  have hr : Row ((w.alloc (.cells #[.int .u8 a0, .int .u8 a1, .int .u8 a2, .int .u8 a3, .int .u8 a4, .int .u8 a5, .int .u8 a6, .int .u8 a7, .int .u8 a8, .int .u8 a9, .int .u8 a10, .int .u8 a11, .int .u8 a12, .int .u8 a13, .int .u8 a14, .int .u8 a15] 203)).alloc (.cells #[.int .u64 0, .int .u64 0, .pointer none] 154)) w.heap.size 203 _ := (Row.new w 203 _).alloc _
  have hq : Row ((w.alloc (.cells #[.int .u8 a0, .int .u8 a1, .int .u8 a2, .int .u8 a3, .int .u8 a4, .int .u8 a5, .int .u8 a6, .int .u8 a7, .int .u8 a8, .int .u8 a9, .int .u8 a10, .int .u8 a11, .int .u8 a12, .int .u8 a13, .int .u8 a14, .int .u8 a15] 203)).alloc (.cells #[.int .u64 0, .int .u64 0, .pointer none] 154)) (w.heap.size + 1) 154 #[.int .u64 0, .int .u64 0, .pointer none] := by simpa using Row.new (w.alloc (.cells #[.int .u8 a0, .int .u8 a1, .int .u8 a2, .int .u8 a3, .int .u8 a4, .int .u8 a5, .int .u8 a6, .int .u8 a7, .int .u8 a8, .int .u8 a9, .int .u8 a10, .int .u8 a11, .int .u8 a12, .int .u8 a13, .int .u8 a14, .int .u8 a15] 203)) 154 #[.int .u64 0, .int .u64 0, .pointer none]
  generalize (w.alloc (.cells #[.int .u8 a0, .int .u8 a1, .int .u8 a2, .int .u8 a3, .int .u8 a4, .int .u8 a5, .int .u8 a6, .int .u8 a7, .int .u8 a8, .int .u8 a9, .int .u8 a10, .int .u8 a11, .int .u8 a12, .int .u8 a13, .int .u8 a14, .int .u8 a15] 203)).alloc (.cells #[.int .u64 0, .int .u64 0, .pointer none] 154) = W at *
  have n2 : (⟨2, 0, none⟩ : Addr).block ≠ w.heap.size + 1 := by have := World.block_lt_of_cell? _ _ hG.z6; simp only at this ⊢; omega
  have n3 : w.heap.size ≠ w.heap.size + 1 := by omega
  have q0 := hq.cell 0
  have q1 := hq.cell 1
  have q2 := hq.cell 2
  have f0 := hq.free 0
  have f1 := hq.free 1
  have f2 := hq.free 2
  go_region_held3 (fun w' => w'.cell? ⟨2, 0, none⟩ = some (.pointer (some p6)) ∧ Row w' w.heap.size 203 #[.int .u8 a0, .int .u8 a1, .int .u8 a2, .int .u8 a3, .int .u8 a4, .int .u8 a5, .int .u8 a6, .int .u8 a7, .int .u8 a8, .int .u8 a9, .int .u8 a10, .int .u8 a11, .int .u8 a12, .int .u8 a13, .int .u8 a14, .int .u8 a15]) (first | exact ⟨hz, hr⟩ | exact ⟨hz, hr.drewN _⟩ | exact ⟨cell_far (cell_far (cell_far (show (W.drewN _).cell? ⟨2, 0, none⟩ = _ from hz) n2 _ _) n2 _ _) n2 _ _, (((hr.drewN _).far n3 _).far n3 _).far n3 _⟩)
    (first
      | (go_at_call_of 117 (Value.slice (some ⟨w.heap.size, 0, none⟩) 8 16); refine (be64a a0 a1 a2 a3 a4 a5 a6 a7 a8 a9 a10 a11 a12 a13 a14 a15 w.heap.size _ (hr.drewN _)).mono ?_; rintro e w' ⟨rfl, n, rfl⟩)
      | (go_at_call_of 117 (Value.slice (some ⟨w.heap.size, 8, none⟩) 8 8); refine (be64b a0 a1 a2 a3 a4 a5 a6 a7 a8 a9 a10 a11 a12 a13 a14 a15 w.heap.size _ (hr.drewN _)).mono ?_; rintro e w' ⟨rfl, n, rfl⟩))
  go_wp2_with fail
  refine bodyPost_ret (v := addrV (be8 a0 a1 a2 a3 a4 a5 a6 a7) (be8 a8 a9 a10 a11 a12 a13 a14 a15) p6) ?h1 rfl ⟨rfl, ?h2⟩
  case h1 => simp [results, Tryz.results106, go_sem, q0, q1, q2, addrV]
  case h2 => exact below_st (below_st (below_st (below_drewN hb0 _) (by omega) _ _) (by omega) _ _) (by omega) _ _
end Go.Proofs.YtmfdbcfpcifmcaaGreatDoor
