/- NewCandidateHost: a host candidate at an address that the statements speak of. -/
import Derived.Test.YtmfdbcfpcifmcaaGreatDoorParseAddr
import Derived.StillTailTactics
import Derived.BigRegion
namespace Go.Proofs.YtmfdbcfpcifmcaaGreatDoor
open Go.RowKit

/-- The cells of a host candidate that is made of such a configuration. -/
def hostCells (net comp port tcp hi lo prio : Int) (p : Option Addr) (port16 : Int) (addr found network : ByteArray) (exts : Value) : Array Value :=
  #[.string ⟨#[]⟩, .int .i64 net, .int .u8 1, .int .u16 comp, .string addr, .int .i64 port, .pointer none, .int .i64 tcp, .int .u64 hi, .int .u64 lo, .pointer p, .int .u16 port16, .string found, .int .u32 prio, .int .u16 0, .bool false, exts, .string network]

set_option maxRecDepth 100000 in
set_option maxHeartbeats 1000000 in
theorem setIP {tcp six : Bool} {network addr : ByteArray} (hn : netName tcp network) {hi lo : Int} {p : Addr} (port comp prio tt : Int) (found : ByteArray) (h0 : 0 ≤ port) (h1 : port ≤ 65535)
    (g : Nat) (w : World) (p4 p6 : Addr) (ho : Own six p4 p6 hi lo p) (hG : Glob w p4 p6)
    (hc : Row w g 160 (hostCells 0 comp port tt 0 0 prio none 0 addr found network (.slice none 0 0))) :
    Calls Tryz.prog 77 #[.pointer (some ⟨g, 0, none⟩), addrV hi lo p] w fun e w' => e = .returned .nilIface ∧ w.grownBy w' (some g) ∧
      Row w' g 160 (hostCells (netNum tcp six) comp port tt hi lo prio (some p) port addr found network (.slice none 0 0)) := by
  have hgl := hc.lt
  have hb : Below w.heap.size w (w.alloc (.cells #[.int .u64 hi, .int .u64 lo, .pointer (some p)] 154)) := below_al (Below.refl _ _) (Nat.le_refl _) _
  have hcA := hc.below hb hgl
  have hGA := hG.below hb
  have hbox := Row.new w 154 #[.int .u64 hi, .int .u64 lo, .pointer (some p)]
  have hszA : (w.alloc (.cells #[.int .u64 hi, .int .u64 lo, .pointer (some p)] 154)).heap.size = w.heap.size + 1 := by simp
  show Calls Tryz.prog 77 #[.pointer (some ⟨g, 0, none⟩), .agg #[.int .u64 hi, .int .u64 lo, .pointer (some p)]] w _
  go_enter Tryz.func77, Tryz.ntmps77
  go_wp2_with fail
  generalize w.alloc (.cells #[.int .u64 hi, .int .u64 lo, .pointer (some p)] 154) = W at *
  have c17 : W.cell? ⟨g, 17, none⟩ = some (.string network) := hcA.cell 17
  have b0 := hbox.cell 0
  have b1 := hbox.cell 1
  have b2 := hbox.cell 2
  have hGd : Glob W.drew p4 p6 := hGA.below (below_drewN (Below.refl _ _) 1)
  go_region_held3 (fun w' => w'.cell? ⟨g, 17, none⟩ = some (.string network) ∧ w'.cell? ⟨w.heap.size, 0, none⟩ = some (.int .u64 hi) ∧ w'.cell? ⟨w.heap.size, 1, none⟩ = some (.int .u64 lo) ∧ w'.cell? ⟨w.heap.size, 2, none⟩ = some (.pointer (some p)))
    (first | exact ⟨c17, b0, b1, b2⟩ | exact ⟨(hb1.cell (by simp only [World.size_drew]; omega)).trans c17, (hb1.cell (by simp only [World.size_drew]; omega)).trans b0, (hb1.cell (by simp only [World.size_drew]; omega)).trans b1, (hb1.cell (by simp only [World.size_drew]; omega)).trans b2⟩)
    (first | (go_at_call 78; refine (netType hn ho _ hGd).mono ?_; rintro e w1 ⟨rfl, hb1⟩))
  rename_i hHeld
  clear c17 b0 b1 b2 hHeld
  have hb01 : Below W.heap.size W w1 := (below_drewN (Below.refl _ _) 1 : Below W.heap.size W W.drew).trans hb1
  have hc1 := hcA.below hb01 hcA.lt
  have hbox1 := hbox.below hb01 (by omega)
  have hsz1 := hb01.size
  have hgrow1 : w.grownBy w1 (some g) := by
    have h := hb.trans (hb01.mono (by omega))
    exact ⟨h.os, h.tape, h.output, h.size, fun i hi _ => h.block i hi⟩
  clear hb hcA hGA hbox hGd hb1
  have c1 : w1.cell? ⟨g, 1, none⟩ = some (.int .i64 0) := hc1.cell 1
  have f1 := hc1.free 1
  go_wp2_with fail
  have hc2 := hc1.set 1 (.int .i64 (netNum tcp six))
  have hbox2 := hbox1.far (p := ⟨g, 1, none⟩) (by simp only; omega) (.int .i64 (netNum tcp six))
  have hgrow2 := only_set hgrow1 1 (.int .i64 (netNum tcp six))
  have hsz2 : w.heap.size < (w1.setCell ⟨g, 1, none⟩ (.int .i64 (netNum tcp six))).heap.size := hbox2.lt
  generalize w1.setCell ⟨g, 1, none⟩ (.int .i64 (netNum tcp six)) = W2 at *
  clear c1 f1 hb01 hc1 hbox1 hsz1 hgrow1
  have c5 : W2.cell? ⟨g, 5, none⟩ = some (.int .i64 port) := hc2.cell 5
  have c8 : W2.cell? ⟨g, 8, none⟩ = some (.int .u64 0) := hc2.cell 8
  have c9 : W2.cell? ⟨g, 9, none⟩ = some (.int .u64 0) := hc2.cell 9
  have c10 : W2.cell? ⟨g, 10, none⟩ = some (.pointer none) := hc2.cell 10
  have c11 : W2.cell? ⟨g, 11, none⟩ = some (.int .u16 0) := hc2.cell 11
  have f8 := hc2.free 8
  have f9 := hc2.free 9
  have f10 := hc2.free 10
  have f11 := hc2.free 11
  have b0 : W2.cell? ⟨w.heap.size, 0, none⟩ = some (.int .u64 hi) := hbox2.cell 0
  have b1 : W2.cell? ⟨w.heap.size, 1, none⟩ = some (.int .u64 lo) := hbox2.cell 1
  have b2 : W2.cell? ⟨w.heap.size, 2, none⟩ = some (.pointer (some p)) := hbox2.cell 2
  have hgl2 : g < W2.heap.size := by omega
  have hgne : w.heap.size ≠ g := by omega
  have hw16 : IntKind.u16.wrap port = port := IntWalk.u16_in _ ⟨h0, h1⟩
  have c5d : W2.drew.cell? ⟨g, 5, none⟩ = some (.int .i64 port) := c5
  have b0d : W2.drew.cell? ⟨w.heap.size, 0, none⟩ = some (.int .u64 hi) := b0
  have b1d : W2.drew.cell? ⟨w.heap.size, 1, none⟩ = some (.int .u64 lo) := b1
  have b2d : W2.drew.cell? ⟨w.heap.size, 2, none⟩ = some (.pointer (some p)) := b2
  go_region_held3 (fun w' => w'.cell? ⟨g, 5, none⟩ = some (.int .i64 port) ∧ w'.cell? ⟨w.heap.size, 0, none⟩ = some (.int .u64 hi) ∧ w'.cell? ⟨w.heap.size, 1, none⟩ = some (.int .u64 lo) ∧ w'.cell? ⟨w.heap.size, 2, none⟩ = some (.pointer (some p)))
    (first | (with_reducible exact ⟨c5, b0, b1, b2⟩) | (with_reducible exact ⟨c5d, b0d, b1d, b2d⟩) | (with_reducible exact ⟨k5, k0, k1, k2⟩) | exact ⟨cell_other (cell_other (cell_other (cell_other k5 (by simp) _) (by simp) _) (by simp) _) (by simp) _, cell_far (cell_far (cell_far (cell_far k0 hgne _ _) hgne _ _) hgne _ _) hgne _ _, cell_far (cell_far (cell_far (cell_far k1 hgne _ _) hgne _ _) hgne _ _) hgne _ _, cell_far (cell_far (cell_far (cell_far k2 hgne _ _) hgne _ _) hgne _ _) hgne _ _⟩)
    (first | (go_at_call 79; refine (addrPortFrom hi lo p port _).mono ?_; rintro e w3 ⟨rfl, hb1⟩; have d8 : w3.cell? ⟨g, 8, none⟩ = some (.int .u64 0) := (hb1.cell (by simp only [World.size_drew]; omega)).trans c8; have e8 : w3.frozen? ⟨g, 8, none⟩ = false := (hb1.frozen (by simp only [World.size_drew]; omega)).trans f8; have d9 : w3.cell? ⟨g, 9, none⟩ = some (.int .u64 0) := (hb1.cell (by simp only [World.size_drew]; omega)).trans c9; have e9 : w3.frozen? ⟨g, 9, none⟩ = false := (hb1.frozen (by simp only [World.size_drew]; omega)).trans f9; have d10 : w3.cell? ⟨g, 10, none⟩ = some (.pointer none) := (hb1.cell (by simp only [World.size_drew]; omega)).trans c10; have e10 : w3.frozen? ⟨g, 10, none⟩ = false := (hb1.frozen (by simp only [World.size_drew]; omega)).trans f10; have d11 : w3.cell? ⟨g, 11, none⟩ = some (.int .u16 0) := (hb1.cell (by simp only [World.size_drew]; omega)).trans c11; have e11 : w3.frozen? ⟨g, 11, none⟩ = false := (hb1.frozen (by simp only [World.size_drew]; omega)).trans f11; have k5 : w3.cell? ⟨g, 5, none⟩ = some (.int .i64 port) := (hb1.cell (by simp only [World.size_drew]; omega)).trans c5; have k0 : w3.cell? ⟨w.heap.size, 0, none⟩ = some (.int .u64 hi) := (hb1.cell (by simp only [World.size_drew]; omega)).trans b0; have k1 : w3.cell? ⟨w.heap.size, 1, none⟩ = some (.int .u64 lo) := (hb1.cell (by simp only [World.size_drew]; omega)).trans b1; have k2 : w3.cell? ⟨w.heap.size, 2, none⟩ = some (.pointer (some p)) := (hb1.cell (by simp only [World.size_drew]; omega)).trans b2; simp only [addrPortV]))
  have hb3 : Below W2.heap.size W2 w3 := (below_drewN (Below.refl _ _) 1 : Below W2.heap.size W2 W2.drew).trans hb1
  have hrow := ((((hc2.below hb3 hgl2).set 8 (.int .u64 hi)).set 9 (.int .u64 lo)).set 10 (.pointer (some p))).set 11 (.int .u16 port)
  have hgrow := only_set (only_set (only_set (only_set (only_below hgrow2 hb3) 8 (.int .u64 hi)) 9 (.int .u64 lo)) 10 (.pointer (some p))) 11 (.int .u16 port)
  rename_i hHeld
  clear hHeld c5 c8 c9 c10 c11 f8 f9 f10 f11 b0 b1 b2 d8 d9 d10 d11 e8 e9 e10 e11 k5 k0 k1 k2 c5d b0d b1d b2d
  have HROW := Lib.hid hrow
  have HGROW := Lib.hid hgrow
  clear hrow hgrow hc2 hbox2 hgrow2 hb1 hb3
  go_wp2_with fail
  go_ret
  exact ⟨rfl, HGROW.out, HROW.out⟩

set_option maxRecDepth 100000 in
set_option maxHeartbeats 1000000 in
theorem newHost {tcp six : Bool} {network addr : ByteArray} (hn : netName tcp network) (ha : addrText six addr) (hs : addr.size ≤ maxLen) (port comp prio tt : Int) (found : ByteArray) (h0 : 0 ≤ port) (h1 : port ≤ 65535)
    (gc : Nat) (w : World) (p4 p6 : Addr) (hG : Glob w p4 p6)
    (hc : Row w gc 96 #[.string ⟨#[]⟩, .string network, .string addr, .int .i64 port, .int .u16 comp, .int .u32 prio, .string found, .int .i64 tt, .bool false]) :
    Calls Tryz.prog 56 #[.pointer (some ⟨gc, 0, none⟩)] w fun e w' => e = .returned (.tuple #[.pointer (some ⟨w.heap.size, 0, none⟩), .nilIface]) ∧ Below w.heap.size w w' ∧
      ∃ (hi lo : Int) (p : Addr), Own six p4 p6 hi lo p ∧ Row w' w.heap.size 160 (hostCells (netNum tcp six) comp port tt hi lo prio (some p) port addr found network (.slice none 0 0)) := by
  have c0 := hc.cell 0
  have c1 := hc.cell 1
  have c2 := hc.cell 2
  have c3 := hc.cell 3
  have c4 := hc.cell 4
  have c5 := hc.cell 5
  have c6 := hc.cell 6
  have c7 := hc.cell 7
  have c8 := hc.cell 8
  have hlt := hc.lt
  go_enter Tryz.func56, Tryz.ntmps56
  go_wp2_with fail
  go_still_tail 35, (by kernel_rfl)
  change wpList _ _ _ _ _ w.drew
  go_wp2_with fail
  refine (noLocal ha hs _).mono ?_
  rintro e w' ⟨rfl, rfl⟩
  go_wp2_with fail
  refine (noInvalid ha hs _).mono ?_
  rintro e w' ⟨rfl, rfl⟩
  go_wp2_with fail
  refine (parseAddr_ok ha hs _ p4 p6 ?hG0).mono ?_
  case hG0 => exact hG.below (below_al (Below.refl _ _) (Nat.le_refl _) _).drew
  rintro e w1 ⟨⟨hi, lo, p, rfl, ho⟩, hb1⟩
  have hr1 : Row w1 w.heap.size 160 (hostCells 0 comp port tt 0 0 prio none 0 addr found network (.slice none 0 0)) := ((Row.new w 160 _).drew).below hb1 (by simp)
  have hb01 : Below w.heap.size w w1 := (below_al (Below.refl w.heap.size w) (Nat.le_refl _) _).drew.trans (hb1.mono (by simp))
  have HO := Lib.hid ho
  have hlt1 := hr1.lt
  clear ho c0 c1 c2 c3 c4 c5 c6 c7 c8 hb1
  simp only [addrV]
  go_wp2_with fail
  have hr2 : Row (w1.alloc (.cells #[.int .u64 hi, .int .u64 lo, .pointer (some p)] 154)) w.heap.size 160 (hostCells 0 comp port tt 0 0 prio none 0 addr found network (.slice none 0 0)) := hr1.alloc _
  have hb2 : Below w.heap.size w (w1.alloc (.cells #[.int .u64 hi, .int .u64 lo, .pointer (some p)] 154)) := below_al hb01 (Nat.le_refl _) _
  refine (setIP hn port comp prio tt found h0 h1 w.heap.size _ p4 p6 HO.out (hG.below hb2) hr2).mono ?_
  rintro e w3 ⟨rfl, hg3, hr3⟩
  have hb3 : Below w.heap.size w w3 := hb2.grown hg3 (by simp; omega) (some_ge (Nat.le_refl _))
  have HR := Lib.hid hr3
  clear hr3 hr2 hr1 hg3 hb2
  go_wp2_with fail
  go_ret2
  exact ⟨rfl, hb3, hi, lo, p, HO.out, HR.out⟩
end Go.Proofs.YtmfdbcfpcifmcaaGreatDoor
