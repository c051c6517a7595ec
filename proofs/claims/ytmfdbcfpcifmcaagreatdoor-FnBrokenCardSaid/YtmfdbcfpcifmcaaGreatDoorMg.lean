/- impl.made: a candidate of kind 2 (UDP). (Written by mkmade.py.) | impl.made: a candidate of kind 3 (UDP). (Written by mkmade.py.) | impl.made: a candidate of kind 4 (UDP). (Written by mkmade.py.) | impl.made, whatever the kind. | impl.Preferences, whatever the kind. | impl.Make, whatever the kind. (Written by mkmake.py.) | The reference's priority and its preference of a kind; the preferences of whatever candidate. (Merged by merge.py out of Made2, Made3, Made4, MadeAny, Pref2, MakeC, SpecP.) -/
import Derived.Test.YtmfdbcfpcifmcaaGreatDoorMb
import Derived.Test.YtmfdbcfpcifmcaaGreatDoorRefl
import Derived.Test.YtmfdbcfpcifmcaaGreatDoorMf
import Derived.Test.YtmfdbcfpcifmcaaGreatDoorMc
import Derived.Test.YtmfdbcfpcifmcaaGreatDoorPlainC
import Derived.Test.YtmfdbcfpcifmcaaGreatDoorPrefs
namespace Go.Proofs.YtmfdbcfpcifmcaaGreatDoor
open Go.RowKit

set_option maxRecDepth 100000 in
set_option maxHeartbeats 4000000 in
theorem made2 (six : Bool) {addr : ByteArray} (ha : addrText six addr) (hs : addr.size ≤ maxLen) (port comp prio : Int) (found : ByteArray) (h0 : 0 ≤ port) (h1 : port ≤ 65535) (hc0 : 0 ≤ comp) (hc1 : comp ≤ 65535)
    (ad : Addr) (raddr : ByteArray) (rport : Int) (xp : Option Addr) (rc xc : Nat) (w : World) (p4 p6 : Addr) (hG : Glob w p4 p6)
    (r0 : w.cell? ad = some (.string raddr)) (r1 : w.cell? ⟨ad.block, ad.off + 1, none⟩ = some (.int .i64 rport)) :
    Calls Tryz.prog 36 #[.agg #[.int .i64 2, .int .i64 (netNum false six), .int .i64 0, .string found, .int .i64 comp, .int .u32 prio, .string addr, .int .i64 port, .slice (some ad) 1 rc, .slice xp 0 xc]] w fun e w' => ∃ g gr : Nat, e = .returned (.iface 97 (.pointer (some ⟨g, 0, none⟩))) ∧ Below w.heap.size w w' ∧ w.heap.size ≤ g ∧ w.heap.size ≤ gr ∧ g ≠ gr ∧
      CandAt w' 2 g { typ := 2, net := netNum false six, comp := comp, port := port, tcp := 0, prio := prio, relay := 0, addr := addr, found := found, exts := .slice none 0 0 } (some ⟨gr, 0, none⟩) ∧ Row w' gr 124 #[.string raddr, .int .i64 rport] := by
  have hb := below_al (Below.refl w.heap.size w) (Nat.le_refl _) (.cells #[.int .i64 2, .int .i64 (netNum false six), .int .i64 0, .string found, .int .i64 comp, .int .u32 prio, .string addr, .int .i64 port, .slice (some ad) 1 rc, .slice xp 0 xc] 26)
  have hbx := Row.new w 26 #[.int .i64 2, .int .i64 (netNum false six), .int .i64 0, .string found, .int .i64 comp, .int .u32 prio, .string addr, .int .i64 port, .slice (some ad) 1 rc, .slice xp 0 xc]
  have hGA := hG.below hb
  go_enter Tryz.func36, Tryz.ntmps36
  go_wp2_with fail
  have q0 : (w.alloc (.cells #[.int .i64 2, .int .i64 (netNum false six), .int .i64 0, .string found, .int .i64 comp, .int .u32 prio, .string addr, .int .i64 port, .slice (some ad) 1 rc, .slice xp 0 xc] 26)).cell? ad = some (.string raddr) := (World.cell?_alloc_lt w _ ad (World.block_lt_of_cell? _ _ r0)).trans r0
  have q1 : (w.alloc (.cells #[.int .i64 2, .int .i64 (netNum false six), .int .i64 0, .string found, .int .i64 comp, .int .u32 prio, .string addr, .int .i64 port, .slice (some ad) 1 rc, .slice xp 0 xc] 26)).cell? ⟨ad.block, ad.off + 1, none⟩ = some (.int .i64 rport) := (World.cell?_alloc_lt w _ ⟨ad.block, ad.off + 1, none⟩ (World.block_lt_of_cell? _ _ r1)).trans r1
  have hadl : ad.block < (w.alloc (.cells #[.int .i64 2, .int .i64 (netNum false six), .int .i64 0, .string found, .int .i64 comp, .int .u32 prio, .string addr, .int .i64 port, .slice (some ad) 1 rc, .slice xp 0 xc] 26)).heap.size := World.block_lt_of_cell? _ _ q0
  generalize w.alloc (.cells #[.int .i64 2, .int .i64 (netNum false six), .int .i64 0, .string found, .int .i64 comp, .int .u32 prio, .string addr, .int .i64 port, .slice (some ad) 1 rc, .slice xp 0 xc] 26) = W at *
  refine (netText false six _).mono ?_
  rintro e w' ⟨rfl, rfl⟩
  have hgl := hbx.lt
  have c0 : W.cell? ⟨w.heap.size, 0, none⟩ = some (.int .i64 2) := hbx.cell 0
  have c2 : W.cell? ⟨w.heap.size, 2, none⟩ = some (.int .i64 0) := hbx.cell 2
  have c3 : W.cell? ⟨w.heap.size, 3, none⟩ = some (.string found) := hbx.cell 3
  have c4 : W.cell? ⟨w.heap.size, 4, none⟩ = some (.int .i64 comp) := hbx.cell 4
  have c5 : W.cell? ⟨w.heap.size, 5, none⟩ = some (.int .u32 prio) := hbx.cell 5
  have c6 : W.cell? ⟨w.heap.size, 6, none⟩ = some (.string addr) := hbx.cell 6
  have c7 : W.cell? ⟨w.heap.size, 7, none⟩ = some (.int .i64 port) := hbx.cell 7
  have c8 : W.cell? ⟨w.heap.size, 8, none⟩ = some (.slice (some ad) 1 rc) := hbx.cell 8
  have hw16 : IntKind.u16.wrap comp = comp := IntWalk.u16_in _ ⟨hc0, hc1⟩
  have e1 : decide (comp < 0) = false := by simp; omega
  have e2 : decide (comp > 65535) = false := by simp; omega
  go_wp2_with fail
  clear c0 c2 c3 c4 c5 c6 c7 c8 q0 q1
  have hB2 : Below w.heap.size w ((W.alloc (.cells #[.string raddr, .int .i64 rport] 59)).alloc (.cells #[.string ⟨#[]⟩, .string (netStr false six), .string addr, .int .i64 port, .int .u16 comp, .int .u32 prio, .string found, .string raddr, .int .i64 rport] 102)) := (hb.alloc (Nat.le_of_lt hgl) _).alloc (by simp only [World.size_alloc]; omega) _
  have hbx2 := (hbx.alloc (.cells #[.string raddr, .int .i64 rport] 59)).alloc (.cells #[.string ⟨#[]⟩, .string (netStr false six), .string addr, .int .i64 port, .int .u16 comp, .int .u32 prio, .string found, .string raddr, .int .i64 rport] 102)
  have hcfg : Row ((W.alloc (.cells #[.string raddr, .int .i64 rport] 59)).alloc (.cells #[.string ⟨#[]⟩, .string (netStr false six), .string addr, .int .i64 port, .int .u16 comp, .int .u32 prio, .string found, .string raddr, .int .i64 rport] 102)) (W.heap.size + 1) 102 #[.string ⟨#[]⟩, .string (netStr false six), .string addr, .int .i64 port, .int .u16 comp, .int .u32 prio, .string found, .string raddr, .int .i64 rport] := by
    have h := Row.new (W.alloc (.cells #[.string raddr, .int .i64 rport] 59)) 102 #[.string ⟨#[]⟩, .string (netStr false six), .string addr, .int .i64 port, .int .u16 comp, .int .u32 prio, .string found, .string raddr, .int .i64 rport]
    simpa using h
  have hG2 := hG.below hB2
  generalize (W.alloc (.cells #[.string raddr, .int .i64 rport] 59)).alloc (.cells #[.string ⟨#[]⟩, .string (netStr false six), .string addr, .int .i64 port, .int .u16 comp, .int .u32 prio, .string found, .string raddr, .int .i64 rport] 102) = X at *
  clear hGA
  refine (newSrflx (netStr_ok false six) ha hs port comp prio rport found raddr h0 h1 _ _ p4 p6 hG2 hcfg).mono ?_
  rintro e w1 ⟨g, gr, rfl, hb1, hg1, hg2, hgne, hat, hrel⟩
  have hgl2 := hbx2.lt
  have hbx3 := hbx2.below hb1 hgl2
  have hB3 := hB2.trans (hb1.mono (Nat.le_of_lt hgl2))
  have hle : w.heap.size ≤ X.heap.size := Nat.le_of_lt hgl2
  have hleg : w.heap.size ≤ g := by omega
  have hlegr : w.heap.size ≤ gr := by omega
  have HAT := Lib.hid hat
  have HREL := Lib.hid hrel
  clear hat hrel hb1 hbx2 hcfg hB2 hG2 hbx hb
  have c0 : w1.cell? ⟨w.heap.size, 0, none⟩ = some (.int .i64 2) := hbx3.cell 0
  have c2 : w1.cell? ⟨w.heap.size, 2, none⟩ = some (.int .i64 0) := hbx3.cell 2
  have c9 : w1.cell? ⟨w.heap.size, 9, none⟩ = some (.slice xp 0 xc) := hbx3.cell 9
  go_wp2_with fail
  go_quiet (fail)
  go_wp2_with fail
  refine wp_loop_rounds 1 ?_
  rw [rounds_succ]
  go_wp2_with fail
  go_ret
  obtain ⟨hi, lo, p, port16, last, hrow⟩ := HAT.out
  exact ⟨g, gr, rfl, below_drewN hB3 _, hleg, hlegr, hgne, ⟨hi, lo, p, port16, last, hrow.drewN _⟩, HREL.out.drewN _⟩
end Go.Proofs.YtmfdbcfpcifmcaaGreatDoor

namespace Go.Proofs.YtmfdbcfpcifmcaaGreatDoor
open Go.RowKit

set_option maxRecDepth 100000 in
set_option maxHeartbeats 4000000 in
theorem made3 (six : Bool) {addr : ByteArray} (ha : addrText six addr) (hs : addr.size ≤ maxLen) (port comp prio : Int) (found : ByteArray) (h0 : 0 ≤ port) (h1 : port ≤ 65535) (hc0 : 0 ≤ comp) (hc1 : comp ≤ 65535)
    (ad : Addr) (raddr : ByteArray) (rport : Int) (xp : Option Addr) (rc xc : Nat) (w : World) (p4 p6 : Addr) (hG : Glob w p4 p6)
    (r0 : w.cell? ad = some (.string raddr)) (r1 : w.cell? ⟨ad.block, ad.off + 1, none⟩ = some (.int .i64 rport)) :
    Calls Tryz.prog 36 #[.agg #[.int .i64 3, .int .i64 (netNum false six), .int .i64 0, .string found, .int .i64 comp, .int .u32 prio, .string addr, .int .i64 port, .slice (some ad) 1 rc, .slice xp 0 xc]] w fun e w' => ∃ g gr : Nat, e = .returned (.iface 103 (.pointer (some ⟨g, 0, none⟩))) ∧ Below w.heap.size w w' ∧ w.heap.size ≤ g ∧ w.heap.size ≤ gr ∧ g ≠ gr ∧
      CandAt w' 3 g { typ := 3, net := netNum false six, comp := comp, port := port, tcp := 0, prio := prio, relay := 0, addr := addr, found := found, exts := .slice none 0 0 } (some ⟨gr, 0, none⟩) ∧ Row w' gr 124 #[.string raddr, .int .i64 rport] := by
  have hb := below_al (Below.refl w.heap.size w) (Nat.le_refl _) (.cells #[.int .i64 3, .int .i64 (netNum false six), .int .i64 0, .string found, .int .i64 comp, .int .u32 prio, .string addr, .int .i64 port, .slice (some ad) 1 rc, .slice xp 0 xc] 26)
  have hbx := Row.new w 26 #[.int .i64 3, .int .i64 (netNum false six), .int .i64 0, .string found, .int .i64 comp, .int .u32 prio, .string addr, .int .i64 port, .slice (some ad) 1 rc, .slice xp 0 xc]
  have hGA := hG.below hb
  go_enter Tryz.func36, Tryz.ntmps36
  go_wp2_with fail
  have q0 : (w.alloc (.cells #[.int .i64 3, .int .i64 (netNum false six), .int .i64 0, .string found, .int .i64 comp, .int .u32 prio, .string addr, .int .i64 port, .slice (some ad) 1 rc, .slice xp 0 xc] 26)).cell? ad = some (.string raddr) := (World.cell?_alloc_lt w _ ad (World.block_lt_of_cell? _ _ r0)).trans r0
  have q1 : (w.alloc (.cells #[.int .i64 3, .int .i64 (netNum false six), .int .i64 0, .string found, .int .i64 comp, .int .u32 prio, .string addr, .int .i64 port, .slice (some ad) 1 rc, .slice xp 0 xc] 26)).cell? ⟨ad.block, ad.off + 1, none⟩ = some (.int .i64 rport) := (World.cell?_alloc_lt w _ ⟨ad.block, ad.off + 1, none⟩ (World.block_lt_of_cell? _ _ r1)).trans r1
  have hadl : ad.block < (w.alloc (.cells #[.int .i64 3, .int .i64 (netNum false six), .int .i64 0, .string found, .int .i64 comp, .int .u32 prio, .string addr, .int .i64 port, .slice (some ad) 1 rc, .slice xp 0 xc] 26)).heap.size := World.block_lt_of_cell? _ _ q0
  generalize w.alloc (.cells #[.int .i64 3, .int .i64 (netNum false six), .int .i64 0, .string found, .int .i64 comp, .int .u32 prio, .string addr, .int .i64 port, .slice (some ad) 1 rc, .slice xp 0 xc] 26) = W at *
  refine (netText false six _).mono ?_
  rintro e w' ⟨rfl, rfl⟩
  have hgl := hbx.lt
  have c0 : W.cell? ⟨w.heap.size, 0, none⟩ = some (.int .i64 3) := hbx.cell 0
  have c2 : W.cell? ⟨w.heap.size, 2, none⟩ = some (.int .i64 0) := hbx.cell 2
  have c3 : W.cell? ⟨w.heap.size, 3, none⟩ = some (.string found) := hbx.cell 3
  have c4 : W.cell? ⟨w.heap.size, 4, none⟩ = some (.int .i64 comp) := hbx.cell 4
  have c5 : W.cell? ⟨w.heap.size, 5, none⟩ = some (.int .u32 prio) := hbx.cell 5
  have c6 : W.cell? ⟨w.heap.size, 6, none⟩ = some (.string addr) := hbx.cell 6
  have c7 : W.cell? ⟨w.heap.size, 7, none⟩ = some (.int .i64 port) := hbx.cell 7
  have c8 : W.cell? ⟨w.heap.size, 8, none⟩ = some (.slice (some ad) 1 rc) := hbx.cell 8
  have hw16 : IntKind.u16.wrap comp = comp := IntWalk.u16_in _ ⟨hc0, hc1⟩
  have e1 : decide (comp < 0) = false := by simp; omega
  have e2 : decide (comp > 65535) = false := by simp; omega
  go_wp2_with fail
  clear c0 c2 c3 c4 c5 c6 c7 c8 q0 q1
  have hB2 : Below w.heap.size w ((W.alloc (.cells #[.string raddr, .int .i64 rport] 59)).alloc (.cells #[.string ⟨#[]⟩, .string (netStr false six), .string addr, .int .i64 port, .int .u16 comp, .int .u32 prio, .string found, .string raddr, .int .i64 rport] 107)) := (hb.alloc (Nat.le_of_lt hgl) _).alloc (by simp only [World.size_alloc]; omega) _
  have hbx2 := (hbx.alloc (.cells #[.string raddr, .int .i64 rport] 59)).alloc (.cells #[.string ⟨#[]⟩, .string (netStr false six), .string addr, .int .i64 port, .int .u16 comp, .int .u32 prio, .string found, .string raddr, .int .i64 rport] 107)
  have hcfg : Row ((W.alloc (.cells #[.string raddr, .int .i64 rport] 59)).alloc (.cells #[.string ⟨#[]⟩, .string (netStr false six), .string addr, .int .i64 port, .int .u16 comp, .int .u32 prio, .string found, .string raddr, .int .i64 rport] 107)) (W.heap.size + 1) 107 #[.string ⟨#[]⟩, .string (netStr false six), .string addr, .int .i64 port, .int .u16 comp, .int .u32 prio, .string found, .string raddr, .int .i64 rport] := by
    have h := Row.new (W.alloc (.cells #[.string raddr, .int .i64 rport] 59)) 107 #[.string ⟨#[]⟩, .string (netStr false six), .string addr, .int .i64 port, .int .u16 comp, .int .u32 prio, .string found, .string raddr, .int .i64 rport]
    simpa using h
  have hG2 := hG.below hB2
  generalize (W.alloc (.cells #[.string raddr, .int .i64 rport] 59)).alloc (.cells #[.string ⟨#[]⟩, .string (netStr false six), .string addr, .int .i64 port, .int .u16 comp, .int .u32 prio, .string found, .string raddr, .int .i64 rport] 107) = X at *
  clear hGA
  refine (newPrflx (netStr_ok false six) ha hs port comp prio rport found raddr h0 h1 _ _ p4 p6 hG2 hcfg).mono ?_
  rintro e w1 ⟨g, gr, rfl, hb1, hg1, hg2, hgne, hat, hrel⟩
  have hgl2 := hbx2.lt
  have hbx3 := hbx2.below hb1 hgl2
  have hB3 := hB2.trans (hb1.mono (Nat.le_of_lt hgl2))
  have hle : w.heap.size ≤ X.heap.size := Nat.le_of_lt hgl2
  have hleg : w.heap.size ≤ g := by omega
  have hlegr : w.heap.size ≤ gr := by omega
  have HAT := Lib.hid hat
  have HREL := Lib.hid hrel
  clear hat hrel hb1 hbx2 hcfg hB2 hG2 hbx hb
  have c0 : w1.cell? ⟨w.heap.size, 0, none⟩ = some (.int .i64 3) := hbx3.cell 0
  have c2 : w1.cell? ⟨w.heap.size, 2, none⟩ = some (.int .i64 0) := hbx3.cell 2
  have c9 : w1.cell? ⟨w.heap.size, 9, none⟩ = some (.slice xp 0 xc) := hbx3.cell 9
  go_wp2_with fail
  go_quiet (fail)
  go_wp2_with fail
  refine wp_loop_rounds 1 ?_
  rw [rounds_succ]
  go_wp2_with fail
  go_ret
  obtain ⟨hi, lo, p, port16, last, hrow⟩ := HAT.out
  exact ⟨g, gr, rfl, below_drewN hB3 _, hleg, hlegr, hgne, ⟨hi, lo, p, port16, last, hrow.drewN _⟩, HREL.out.drewN _⟩
end Go.Proofs.YtmfdbcfpcifmcaaGreatDoor

namespace Go.Proofs.YtmfdbcfpcifmcaaGreatDoor
open Go.RowKit

set_option maxRecDepth 100000 in
set_option maxHeartbeats 4000000 in
theorem made4 (six : Bool) {addr : ByteArray} (ha : addrText six addr) (hs : addr.size ≤ maxLen) (port comp prio : Int) (found : ByteArray) (h0 : 0 ≤ port) (h1 : port ≤ 65535) (hc0 : 0 ≤ comp) (hc1 : comp ≤ 65535)
    (ad : Addr) (raddr : ByteArray) (rport : Int) (xp : Option Addr) (rc xc : Nat) (w : World) (p4 p6 : Addr) (hG : Glob w p4 p6)
    (r0 : w.cell? ad = some (.string raddr)) (r1 : w.cell? ⟨ad.block, ad.off + 1, none⟩ = some (.int .i64 rport)) :
    Calls Tryz.prog 36 #[.agg #[.int .i64 4, .int .i64 (netNum false six), .int .i64 0, .string found, .int .i64 comp, .int .u32 prio, .string addr, .int .i64 port, .slice (some ad) 1 rc, .slice xp 0 xc]] w fun e w' => ∃ g gr : Nat, e = .returned (.iface 108 (.pointer (some ⟨g, 0, none⟩))) ∧ Below w.heap.size w w' ∧ w.heap.size ≤ g ∧ w.heap.size ≤ gr ∧ g ≠ gr ∧
      CandAt w' 4 g { typ := 4, net := netNum false six, comp := comp, port := port, tcp := 0, prio := prio, relay := 3, addr := addr, found := found, exts := .slice none 0 0 } (some ⟨gr, 0, none⟩) ∧ Row w' gr 124 #[.string raddr, .int .i64 rport] := by
  have hb := below_al (Below.refl w.heap.size w) (Nat.le_refl _) (.cells #[.int .i64 4, .int .i64 (netNum false six), .int .i64 0, .string found, .int .i64 comp, .int .u32 prio, .string addr, .int .i64 port, .slice (some ad) 1 rc, .slice xp 0 xc] 26)
  have hbx := Row.new w 26 #[.int .i64 4, .int .i64 (netNum false six), .int .i64 0, .string found, .int .i64 comp, .int .u32 prio, .string addr, .int .i64 port, .slice (some ad) 1 rc, .slice xp 0 xc]
  have hGA := hG.below hb
  go_enter Tryz.func36, Tryz.ntmps36
  go_wp2_with fail
  have q0 : (w.alloc (.cells #[.int .i64 4, .int .i64 (netNum false six), .int .i64 0, .string found, .int .i64 comp, .int .u32 prio, .string addr, .int .i64 port, .slice (some ad) 1 rc, .slice xp 0 xc] 26)).cell? ad = some (.string raddr) := (World.cell?_alloc_lt w _ ad (World.block_lt_of_cell? _ _ r0)).trans r0
  have q1 : (w.alloc (.cells #[.int .i64 4, .int .i64 (netNum false six), .int .i64 0, .string found, .int .i64 comp, .int .u32 prio, .string addr, .int .i64 port, .slice (some ad) 1 rc, .slice xp 0 xc] 26)).cell? ⟨ad.block, ad.off + 1, none⟩ = some (.int .i64 rport) := (World.cell?_alloc_lt w _ ⟨ad.block, ad.off + 1, none⟩ (World.block_lt_of_cell? _ _ r1)).trans r1
  have hadl : ad.block < (w.alloc (.cells #[.int .i64 4, .int .i64 (netNum false six), .int .i64 0, .string found, .int .i64 comp, .int .u32 prio, .string addr, .int .i64 port, .slice (some ad) 1 rc, .slice xp 0 xc] 26)).heap.size := World.block_lt_of_cell? _ _ q0
  generalize w.alloc (.cells #[.int .i64 4, .int .i64 (netNum false six), .int .i64 0, .string found, .int .i64 comp, .int .u32 prio, .string addr, .int .i64 port, .slice (some ad) 1 rc, .slice xp 0 xc] 26) = W at *
  refine (netText false six _).mono ?_
  rintro e w' ⟨rfl, rfl⟩
  have hgl := hbx.lt
  have c0 : W.cell? ⟨w.heap.size, 0, none⟩ = some (.int .i64 4) := hbx.cell 0
  have c2 : W.cell? ⟨w.heap.size, 2, none⟩ = some (.int .i64 0) := hbx.cell 2
  have c3 : W.cell? ⟨w.heap.size, 3, none⟩ = some (.string found) := hbx.cell 3
  have c4 : W.cell? ⟨w.heap.size, 4, none⟩ = some (.int .i64 comp) := hbx.cell 4
  have c5 : W.cell? ⟨w.heap.size, 5, none⟩ = some (.int .u32 prio) := hbx.cell 5
  have c6 : W.cell? ⟨w.heap.size, 6, none⟩ = some (.string addr) := hbx.cell 6
  have c7 : W.cell? ⟨w.heap.size, 7, none⟩ = some (.int .i64 port) := hbx.cell 7
  have c8 : W.cell? ⟨w.heap.size, 8, none⟩ = some (.slice (some ad) 1 rc) := hbx.cell 8
  have hw16 : IntKind.u16.wrap comp = comp := IntWalk.u16_in _ ⟨hc0, hc1⟩
  have e1 : decide (comp < 0) = false := by simp; omega
  have e2 : decide (comp > 65535) = false := by simp; omega
  go_wp2_with fail
  clear c0 c2 c3 c4 c5 c6 c7 c8 q0 q1
  have hB2 : Below w.heap.size w ((W.alloc (.cells #[.string raddr, .int .i64 rport] 59)).alloc (.cells #[.string ⟨#[]⟩, .string (netStr false six), .string addr, .int .i64 port, .int .u16 comp, .int .u32 prio, .string found, .string raddr, .int .i64 rport, .string ⟨#[]⟩] 113)) := (hb.alloc (Nat.le_of_lt hgl) _).alloc (by simp only [World.size_alloc]; omega) _
  have hbx2 := (hbx.alloc (.cells #[.string raddr, .int .i64 rport] 59)).alloc (.cells #[.string ⟨#[]⟩, .string (netStr false six), .string addr, .int .i64 port, .int .u16 comp, .int .u32 prio, .string found, .string raddr, .int .i64 rport, .string ⟨#[]⟩] 113)
  have hcfg : Row ((W.alloc (.cells #[.string raddr, .int .i64 rport] 59)).alloc (.cells #[.string ⟨#[]⟩, .string (netStr false six), .string addr, .int .i64 port, .int .u16 comp, .int .u32 prio, .string found, .string raddr, .int .i64 rport, .string ⟨#[]⟩] 113)) (W.heap.size + 1) 113 #[.string ⟨#[]⟩, .string (netStr false six), .string addr, .int .i64 port, .int .u16 comp, .int .u32 prio, .string found, .string raddr, .int .i64 rport, .string ⟨#[]⟩] := by
    have h := Row.new (W.alloc (.cells #[.string raddr, .int .i64 rport] 59)) 113 #[.string ⟨#[]⟩, .string (netStr false six), .string addr, .int .i64 port, .int .u16 comp, .int .u32 prio, .string found, .string raddr, .int .i64 rport, .string ⟨#[]⟩]
    simpa using h
  have hG2 := hG.below hB2
  generalize (W.alloc (.cells #[.string raddr, .int .i64 rport] 59)).alloc (.cells #[.string ⟨#[]⟩, .string (netStr false six), .string addr, .int .i64 port, .int .u16 comp, .int .u32 prio, .string found, .string raddr, .int .i64 rport, .string ⟨#[]⟩] 113) = X at *
  clear hGA
  refine (newRelay (netStr_ok false six) ha hs port comp prio rport found raddr h0 h1 _ _ p4 p6 hG2 hcfg).mono ?_
  rintro e w1 ⟨g, gr, rfl, hb1, hg1, hg2, hgne, hat, hrel⟩
  have hgl2 := hbx2.lt
  have hbx3 := hbx2.below hb1 hgl2
  have hB3 := hB2.trans (hb1.mono (Nat.le_of_lt hgl2))
  have hle : w.heap.size ≤ X.heap.size := Nat.le_of_lt hgl2
  have hleg : w.heap.size ≤ g := by omega
  have hlegr : w.heap.size ≤ gr := by omega
  have HAT := Lib.hid hat
  have HREL := Lib.hid hrel
  clear hat hrel hb1 hbx2 hcfg hB2 hG2 hbx hb
  have c0 : w1.cell? ⟨w.heap.size, 0, none⟩ = some (.int .i64 4) := hbx3.cell 0
  have c2 : w1.cell? ⟨w.heap.size, 2, none⟩ = some (.int .i64 0) := hbx3.cell 2
  have c9 : w1.cell? ⟨w.heap.size, 9, none⟩ = some (.slice xp 0 xc) := hbx3.cell 9
  go_wp2_with fail
  go_quiet (fail)
  go_wp2_with fail
  refine wp_loop_rounds 1 ?_
  rw [rounds_succ]
  go_wp2_with fail
  go_ret
  obtain ⟨hi, lo, p, port16, last, hrow⟩ := HAT.out
  exact ⟨g, gr, rfl, below_drewN hB3 _, hleg, hlegr, hgne, ⟨hi, lo, p, port16, last, hrow.drewN _⟩, HREL.out.drewN _⟩
end Go.Proofs.YtmfdbcfpcifmcaaGreatDoor

namespace Go.Proofs.YtmfdbcfpcifmcaaGreatDoor
open Go.RowKit

theorem ok_ne {l : List UInt8} (h : Ip.Ok l) : 0 < l.length := by
  obtain ⟨v, m, hr⟩ := h
  exact (Ip.last hr).1
theorem addr_pos {six : Bool} {s : ByteArray} (h : addrText six s) : 0 < s.size := by
  cases six with
  | false =>
    have := ok_ne (show Ip.Ok s.data.toList from h)
    have e : s.data.toList.length = s.size := Array.length_toList
    omega
  | true => rcases h with rfl | rfl | rfl | rfl | rfl <;> decide
theorem addr_noCut {six : Bool} {s : ByteArray} (h : addrText six s) : ∀ i (h : i < s.size), (s[i]'h).toNat ≠ 37 := by
  cases six with
  | false =>
    intro i hi
    have e : s.data.toList.length = s.size := Array.length_toList
    have := Ip.letters (show Ip.Ok s.data.toList from h) i (by omega)
    have e2 : s.data.toList[i]'(by omega) = s[i]'hi := by simp; rfl
    rw [e2] at this
    omega
  | true => rcases h with rfl | rfl | rfl | rfl | rfl <;> decide

/-- What 'made' asks of a candidate's kind: no related address at a host, one at the others, which are of UDP. -/
def Shape (k : Nat) (tcpB : Bool) (tt : Int) (A8 : Option Addr) (n8 : Nat) (w : World) : Prop :=
  (k = 1 ∧ n8 = 0) ∨ ((k = 2 ∨ k = 3 ∨ k = 4) ∧ tcpB = false ∧ tt = 0 ∧ n8 = 1 ∧
    ∃ (ad : Addr) (ra : ByteArray) (rp : Nat), A8 = some ad ∧ w.cell? ad = some (.string ra) ∧ w.cell? ⟨ad.block, ad.off + 1, none⟩ = some (.int .i64 (rp : Int)) ∧ 0 < ra.size ∧ ra.size ≤ 4294967296 ∧ 1 ≤ rp ∧ rp ≤ 65535)
theorem Shape.below {k : Nat} {tcpB : Bool} {tt : Int} {A8 : Option Addr} {n8 : Nat} {a w : World} {B : Nat} (h : Shape k tcpB tt A8 n8 a) (hb : Below B a w) (hB : a.heap.size ≤ B) : Shape k tcpB tt A8 n8 w := by
  rcases h with h | ⟨hk, h1, h2, h3, ad, ra, rp, h4, r0, r1, h5⟩
  · exact .inl h
  · exact .inr ⟨hk, h1, h2, h3, ad, ra, rp, h4, (hb.cell (Nat.lt_of_lt_of_le (World.block_lt_of_cell? _ _ r0) hB)).trans r0, (hb.cell (p := ⟨ad.block, ad.off + 1, none⟩) (Nat.lt_of_lt_of_le (World.block_lt_of_cell? _ _ r1) hB)).trans r1, h5⟩

def candOf (k : Nat) (net tt comp prio port : Int) (found addr : ByteArray) : Cand :=
  { typ := k, net := net, comp := comp, port := port, tcp := tt, prio := prio, relay := if k = 4 then 3 else 0, addr := addr, found := found, exts := .slice none 0 0 }

theorem madeAny (k : Nat) (tcpB six : Bool) {addr : ByteArray} (ha : addrText six addr) (hs : addr.size ≤ maxLen) (port comp prio tt : Int) (found : ByteArray) (h0 : 0 ≤ port) (h1 : port ≤ 65535) (hc0 : 0 ≤ comp) (hc1 : comp ≤ 65535) (ht0 : 0 ≤ tt) (ht1 : tt ≤ 3)
    (A8 xp : Option Addr) (n8 rc xc : Nat) (w : World) (p4 p6 : Addr) (hG : Glob w p4 p6) (hS : Shape k tcpB tt A8 n8 w) :
    Calls Tryz.prog 36 #[.agg #[.int .i64 (k : Int), .int .i64 (netNum tcpB six), .int .i64 tt, .string found, .int .i64 comp, .int .u32 prio, .string addr, .int .i64 port, .slice A8 n8 rc, .slice xp 0 xc]] w fun e w' => ∃ (g : Nat) (rel : Option Addr), e = .returned (.iface (dynT k) (.pointer (some ⟨g, 0, none⟩))) ∧ Below w.heap.size w w' ∧ w.heap.size ≤ g ∧
      CCells w' g (candOf k (netNum tcpB six) tt comp prio port found addr) rel ∧ RelAt w' rel := by
  rcases hS with ⟨rfl, rfl⟩ | ⟨rfl | rfl | rfl, rfl, rfl, rfl, ad, ra, rp, rfl, r0, r1, q0, q1, q2, q3⟩
  · refine (madeHost tcpB six ha hs port comp prio tt found h0 h1 hc0 hc1 ht0 ht1 A8 xp rc xc w p4 p6 hG).mono ?_
    rintro e w' ⟨g, rfl, hb, hg, hi, lo, p, -, hr⟩
    exact ⟨g, none, rfl, hb, hg, ⟨hr.cell 1, hr.cell 2, hr.cell 3, hr.cell 4, hr.cell 5, hr.cell 6, hr.cell 7, hr.cell 12, hr.cell 13, hr.cell 14, hr.cell 16⟩, .inl rfl⟩
  · refine (made2 six ha hs port comp prio found h0 h1 hc0 hc1 ad ra rp xp rc xc w p4 p6 hG r0 r1).mono ?_
    rintro e w' ⟨g, gr, rfl, hb, hg, hgr, -, hat, hrel⟩
    exact ⟨g, some ⟨gr, 0, none⟩, rfl, hb, hg, hat.cells, .inr ⟨gr, ra, rp, rfl, hrel.cell 0, hrel.cell 1, q0, q1, q2, q3⟩⟩
  · refine (made3 six ha hs port comp prio found h0 h1 hc0 hc1 ad ra rp xp rc xc w p4 p6 hG r0 r1).mono ?_
    rintro e w' ⟨g, gr, rfl, hb, hg, hgr, -, hat, hrel⟩
    exact ⟨g, some ⟨gr, 0, none⟩, rfl, hb, hg, hat.cells, .inr ⟨gr, ra, rp, rfl, hrel.cell 0, hrel.cell 1, q0, q1, q2, q3⟩⟩
  · refine (made4 six ha hs port comp prio found h0 h1 hc0 hc1 ad ra rp xp rc xc w p4 p6 hG r0 r1).mono ?_
    rintro e w' ⟨g, gr, rfl, hb, hg, hgr, -, hat, hrel⟩
    exact ⟨g, some ⟨gr, 0, none⟩, rfl, hb, hg, hat.cells, .inr ⟨gr, ra, rp, rfl, hrel.cell 0, hrel.cell 1, q0, q1, q2, q3⟩⟩
end Go.Proofs.YtmfdbcfpcifmcaaGreatDoor

namespace Go.Proofs.YtmfdbcfpcifmcaaGreatDoor
open Go.RowKit

set_option maxRecDepth 100000 in
set_option maxHeartbeats 2000000 in
theorem prefsBody2 (k : Nat) (tcpB six : Bool) {addr : ByteArray} (ha : addrText six addr) (hs : addr.size ≤ maxLen) (port comp prio tt : Int) (found : ByteArray) (h0 : 0 ≤ port) (h1 : port ≤ 65535) (hc0 : 0 ≤ comp) (hc1 : comp ≤ 65535) (ht0 : 0 ≤ tt) (ht1 : tt ≤ 3)
    (rp xp : Option Addr) (n8 rc xc : Nat) (kp lp : Int) (hkp0 : 0 ≤ kp) (hkp1 : kp ≤ 126) (hlp0 : 0 ≤ lp) (hlp1 : lp ≤ 65535)
    (hK : ∀ W g rel, CCells W g (candOf k (netNum tcpB six) tt comp prio port found addr) rel → Calls Tryz.prog 163 #[.pointer (some ⟨g, 0, none⟩)] W fun e w' => e = .returned (.int .u16 kp) ∧ W = w')
    (hL : ∀ W g rel, CCells W g (candOf k (netNum tcpB six) tt comp prio port found addr) rel → Calls Tryz.prog 153 #[.pointer (some ⟨g, 0, none⟩)] W fun e w' => e = .returned (.int .u16 lp) ∧ Below W.heap.size W w')
    (B : Nat) (w : World) (p4 p6 : Addr) (hG : Glob w p4 p6) (gc g1 g2 gt : Nat) (hB1 : B ≤ g1) (hB2 : B ≤ g2) (hn12 : g1 ≠ g2) (hnt1 : gt ≠ g1) (hnt2 : gt ≠ g2)
    (hSh : Shape k tcpB tt rp n8 w) (rc0 : Row w gc 26 #[.int .i64 (k : Int), .int .i64 (netNum tcpB six), .int .i64 tt, .string found, .int .i64 comp, .int .u32 prio, .string addr, .int .i64 port, .slice rp n8 rc, .slice xp 0 xc])
    (r1 : Row w g1 3 #[.int .i64 0]) (r2 : Row w g2 3 #[.int .i64 0]) (rt : Row w gt 4 #[.bool false]) (hBw : B ≤ w.heap.size) :
    Calls Tryz.prog 35 #[.pointer (some ⟨gc, 0, none⟩), .pointer (some ⟨g1, 0, none⟩), .pointer (some ⟨g2, 0, none⟩)] w fun e w' =>
      ∃ q, e = .returned (.bool q) ∧ Row w' gt 4 #[.bool false] ∧ (q = true ∧ Row w' g1 3 #[.int .i64 kp] ∧ Row w' g2 3 #[.int .i64 lp] ∧ Below B w w') := by
  have hm1 := (meths k).mKind
  have hm2 := (meths k).mLocal
  have c0 : w.cell? ⟨gc, 0, none⟩ = some (.int .i64 (k : Int)) := rc0.cell 0
  have c1 : w.cell? ⟨gc, 1, none⟩ = some (.int .i64 (netNum tcpB six)) := rc0.cell 1
  have c2 : w.cell? ⟨gc, 2, none⟩ = some (.int .i64 tt) := rc0.cell 2
  have c3 : w.cell? ⟨gc, 3, none⟩ = some (.string found) := rc0.cell 3
  have c4 : w.cell? ⟨gc, 4, none⟩ = some (.int .i64 comp) := rc0.cell 4
  have c5 : w.cell? ⟨gc, 5, none⟩ = some (.int .u32 prio) := rc0.cell 5
  have c6 : w.cell? ⟨gc, 6, none⟩ = some (.string addr) := rc0.cell 6
  have c7 : w.cell? ⟨gc, 7, none⟩ = some (.int .i64 port) := rc0.cell 7
  have c8 : w.cell? ⟨gc, 8, none⟩ = some (.slice rp n8 rc) := rc0.cell 8
  have c9 : w.cell? ⟨gc, 9, none⟩ = some (.slice xp 0 xc) := rc0.cell 9
  have hl1 := r1.lt
  have hl2 := r2.lt
  have hlt := rt.lt
  go_enter Tryz.func35, Tryz.ntmps35
  go_wp2_with fail
  refine (madeAny k tcpB six ha hs port comp prio tt found h0 h1 hc0 hc1 ht0 ht1 rp xp n8 rc xc w p4 p6 hG hSh).mono ?_
  rintro e w1 ⟨g, rel, rfl, hb1, hg, hr, -⟩
  have s1 := r1.below hb1 hl1
  have s2 := r2.below hb1 hl2
  have st := rt.below hb1 hlt
  have hBx := hb1.mono hBw
  have hsz1 := hb1.size
  clear c0 c1 c2 c3 c4 c5 c6 c7 c8 c9 rc0 r1 r2 rt hb1
  go_wp2_with fail
  refine (hK w1 g rel hr).mono ?_
  rintro e w2 ⟨rfl, rfl⟩
  go_wp2_with fail
  refine (hL w1 g rel hr).mono ?_
  rintro e w3 ⟨rfl, hb3⟩
  have u1 := s1.below hb3 s1.lt
  have u2 := s2.below hb3 s2.lt
  have ut := st.below hb3 st.lt
  have hBy := hBx.trans (hb3.mono (by omega))
  have d1 : w3.cell? ⟨g1, 0, none⟩ = some (.int .i64 0) := u1.cell 0
  have f1 := u1.free 0
  have d2 : w3.cell? ⟨g2, 0, none⟩ = some (.int .i64 0) := u2.cell 0
  have f2 := u2.free 0
  have hw1 : wrap64 kp = kp := IntWalk.wrap64_in _ (by omega)
  have hw2 : wrap64 lp = lp := IntWalk.wrap64_in _ (by omega)
  clear s1 s2 st hr hb3 hBx
  have z1 := ((u1.set 0 (.int .i64 kp)).far (p := ⟨g2, 0, none⟩) hn12 (.int .i64 lp))
  have z2 := ((u2.far (p := ⟨g1, 0, none⟩) (Ne.symm hn12) (.int .i64 kp)).set 0 (.int .i64 lp))
  have zt := ((ut.far (p := ⟨g1, 0, none⟩) hnt1 (.int .i64 kp)).far (p := ⟨g2, 0, none⟩) hnt2 (.int .i64 lp))
  have zB := below_st (below_st hBy hB1 0 (.int .i64 kp)) hB2 0 (.int .i64 lp)
  have Z1 := Lib.hid z1
  have Z2 := Lib.hid z2
  have ZT := Lib.hid zt
  have ZB := Lib.hid zB
  clear z1 z2 zt zB u1 u2 ut hBy
  go_wp2_with fail
  go_ret
  exact ⟨true, rfl, ZT.out, rfl, Z1.out, Z2.out, ZB.out⟩

set_option maxRecDepth 100000 in
set_option maxHeartbeats 2000000 in
theorem preferences2 (k : Nat) (tcpB six : Bool) {addr : ByteArray} (ha : addrText six addr) (hs : addr.size ≤ maxLen) (port comp prio tt : Int) (found : ByteArray) (h0 : 0 ≤ port) (h1 : port ≤ 65535) (hc0 : 0 ≤ comp) (hc1 : comp ≤ 65535) (ht0 : 0 ≤ tt) (ht1 : tt ≤ 3)
    (rp xp : Option Addr) (n8 rc xc : Nat) (kp lp : Int) (hkp0 : 0 ≤ kp) (hkp1 : kp ≤ 126) (hlp0 : 0 ≤ lp) (hlp1 : lp ≤ 65535)
    (hK : ∀ W g rel, CCells W g (candOf k (netNum tcpB six) tt comp prio port found addr) rel → Calls Tryz.prog 163 #[.pointer (some ⟨g, 0, none⟩)] W fun e w' => e = .returned (.int .u16 kp) ∧ W = w')
    (hL : ∀ W g rel, CCells W g (candOf k (netNum tcpB six) tt comp prio port found addr) rel → Calls Tryz.prog 153 #[.pointer (some ⟨g, 0, none⟩)] W fun e w' => e = .returned (.int .u16 lp) ∧ Below W.heap.size W w')
    (w : World) (p4 p6 : Addr) (hG : Glob w p4 p6) (hSh : Shape k tcpB tt rp n8 w) :
    Calls Tryz.prog 16 #[candV k (netNum tcpB six) tt found comp prio addr port (.slice rp n8 rc) (.slice xp 0 xc)] w fun e w' =>
      e = .returned (.tuple #[.int .i64 kp, .int .i64 lp, .bool true]) ∧ Below w.heap.size w w' := by
  have hmf : ∀ (fn : Fn) (first cap : Array Value) (w : World), (Instr.makeFunc fn first cap).run Tryz.prog w = .ok (.func fn first cap) w := fun _ _ _ _ => rfl
  simp only [candV]
  go_enter Tryz.func16, Tryz.ntmps16
  go_wp2_with fail
  obtain ⟨W, hW⟩ : ∃ W, W = ((w.alloc (.cells #[.int .i64 (k : Int), .int .i64 (netNum tcpB six), .int .i64 tt, .string found, .int .i64 comp, .int .u32 prio, .string addr, .int .i64 port, .slice rp n8 rc, .slice xp 0 xc] 26)).alloc (.cells #[.int .i64 0] 3)).alloc (.cells #[.int .i64 0] 3) := ⟨_, rfl⟩
  have rc0 : Row W w.heap.size 26 #[.int .i64 (k : Int), .int .i64 (netNum tcpB six), .int .i64 tt, .string found, .int .i64 comp, .int .u32 prio, .string addr, .int .i64 port, .slice rp n8 rc, .slice xp 0 xc] := hW ▸ ((Row.new _ _ _).alloc _).alloc _
  have r1 : Row W (w.heap.size + 1) 3 #[.int .i64 0] := by
    have h := (Row.new (w.alloc (.cells #[.int .i64 (k : Int), .int .i64 (netNum tcpB six), .int .i64 tt, .string found, .int .i64 comp, .int .u32 prio, .string addr, .int .i64 port, .slice rp n8 rc, .slice xp 0 xc] 26)) 3 #[.int .i64 0]).alloc (.cells #[.int .i64 0] 3)
    rw [hW]
    simpa using h
  have r2 : Row W (w.heap.size + 1 + 1) 3 #[.int .i64 0] := by
    have h := Row.new ((w.alloc (.cells #[.int .i64 (k : Int), .int .i64 (netNum tcpB six), .int .i64 tt, .string found, .int .i64 comp, .int .u32 prio, .string addr, .int .i64 port, .slice rp n8 rc, .slice xp 0 xc] 26)).alloc (.cells #[.int .i64 0] 3)) 3 #[.int .i64 0]
    rw [hW]
    simpa using h
  have hsz : W.heap.size = w.heap.size + 3 := by rw [hW]; simp
  have hB : Below w.heap.size w W := by
    rw [hW]
    exact (((Below.refl _ _).alloc (Nat.le_refl _) _).alloc (by simp) _).alloc (by simp; omega) _
  rw [← hW]
  clear hW
  have hBt : Below w.heap.size w (W.alloc (.cells #[.bool false] 4)) := hB.alloc (by omega) _
  have hszt : (W.alloc (.cells #[.bool false] 4)).heap.size = w.heap.size + 4 := by simp [hsz]
  have hbody := prefsBody2 k tcpB six ha hs port comp prio tt found h0 h1 hc0 hc1 ht0 ht1 rp xp n8 rc xc kp lp hkp0 hkp1 hlp0 hlp1 hK hL w.heap.size (W.alloc (.cells #[.bool false] 4)) p4 p6 (hG.below hBt) w.heap.size (w.heap.size + 1) (w.heap.size + 1 + 1) W.heap.size (by omega) (by omega) (by omega) (by omega) (by omega) (hSh.below hBt (Nat.le_refl _)) (rc0.alloc _) (r1.alloc _) (r2.alloc _) (Row.new _ _ _) (by omega)
  refine (try_ok 35 _ (fun _ => by kernel_rfl) (fun q w' => q = true ∧ Row w' (w.heap.size + 1) 3 #[.int .i64 kp] ∧ Row w' (w.heap.size + 1 + 1) 3 #[.int .i64 lp] ∧ Below w.heap.size (W.alloc (.cells #[.bool false] 4)) w') W hbody).mono ?_
  rintro e w' ⟨q, w1, rfl, ⟨rfl, z1, z2, zB⟩, hw'⟩
  have u1 : Row w' (w.heap.size + 1) 3 #[.int .i64 kp] := hw' ▸ z1.far (p := ⟨W.heap.size, 0, none⟩) (by simp only; omega) (.bool true)
  have u2 : Row w' (w.heap.size + 1 + 1) 3 #[.int .i64 lp] := hw' ▸ z2.far (p := ⟨W.heap.size, 0, none⟩) (by simp only; omega) (.bool true)
  have hBf : Below w.heap.size w w' := hw' ▸ below_st (hBt.trans zB) (by omega) 0 (.bool true)
  have HBf := Lib.hid hBf
  clear hbody z1 z2 zB hw' hBf hBt hB rc0 r1 r2
  have d1 : w'.cell? ⟨w.heap.size + 1, 0, none⟩ = some (.int .i64 kp) := u1.cell 0
  have f1 := u1.free 0
  have d2 : w'.cell? ⟨w.heap.size + 1 + 1, 0, none⟩ = some (.int .i64 lp) := u2.cell 0
  have f2 := u2.free 0
  go_wp2_with fail
  have e1 : (((w'.setCell ⟨w.heap.size + 1, 0, none⟩ (.int .i64 kp)).setCell ⟨w.heap.size + 1 + 1, 0, none⟩ (.int .i64 lp)).drew).cell? ⟨w.heap.size + 1, 0, none⟩ = some (.int .i64 kp) := (((u1.set 0 (.int .i64 kp)).far (p := ⟨w.heap.size + 1 + 1, 0, none⟩) (by simp) (.int .i64 lp)).drew).cell 0
  have e2 : (((w'.setCell ⟨w.heap.size + 1, 0, none⟩ (.int .i64 kp)).setCell ⟨w.heap.size + 1 + 1, 0, none⟩ (.int .i64 lp)).drew).cell? ⟨w.heap.size + 1 + 1, 0, none⟩ = some (.int .i64 lp) := (((u2.far (p := ⟨w.heap.size + 1, 0, none⟩) (by simp) (.int .i64 kp)).set 0 (.int .i64 lp)).drew).cell 0
  have eB : Below w.heap.size w (((w'.setCell ⟨w.heap.size + 1, 0, none⟩ (.int .i64 kp)).setCell ⟨w.heap.size + 1 + 1, 0, none⟩ (.int .i64 lp)).drew) := (below_st (below_st HBf.out (by omega) 0 (.int .i64 kp)) (by omega) 0 (.int .i64 lp)).drew
  have E1 := Lib.hid e1
  have E2 := Lib.hid e2
  have EB := Lib.hid eB
  clear e1 e2 eB u1 u2
  go_region
  go_wp2_with fail
  refine bodyPost_ret (v := .tuple #[(.int .i64 kp), (.int .i64 lp), .bool true]) ?h1 rfl ⟨rfl, EB.out⟩
  case h1 =>
    have e1 := E1.out
    have e2 := E2.out
    simp [results, Tryz.results16, go_sem, e1, e2]
end Go.Proofs.YtmfdbcfpcifmcaaGreatDoor

namespace Go.Proofs.YtmfdbcfpcifmcaaGreatDoor
open Go.RowKit

theorem RelAt.below {a w : World} {B : Nat} {rel : Option Addr} (h : RelAt a rel) (hb : Below B a w) (hB : a.heap.size ≤ B) : RelAt w rel := by
  rcases h with h | ⟨gr, ra, rp, h, r0, r1, h2⟩
  · exact .inl h
  · exact .inr ⟨gr, ra, rp, h, (hb.cell (p := ⟨gr, 0, none⟩) (Nat.lt_of_lt_of_le (World.block_lt_of_cell? _ _ r0) hB)).trans r0, (hb.cell (p := ⟨gr, 1, none⟩) (Nat.lt_of_lt_of_le (World.block_lt_of_cell? _ _ r1) hB)).trans r1, h2⟩

/-- What is given of the candidate's foundation and priority. -/
structure Gives (C : Cand) (T : Nat → Nat) (F : ByteArray) (Pr : Nat) : Prop where
  hF : ∀ W g rel, CCells W g C rel → TabU W T → Calls Tryz.prog 150 #[.pointer (some ⟨g, 0, none⟩)] W fun e w' => e = .returned (.string F) ∧ Below W.heap.size W w'
  hFs : F.size ≤ 4294967296
  hsp : F ≠ ⟨#[32]⟩
  hP : ∀ W g rel, CCells W g C rel → Calls Tryz.prog 157 #[.pointer (some ⟨g, 0, none⟩)] W fun e w' => e = .returned (.int .u32 (Pr : Int)) ∧ Below W.heap.size W w'
  hP1 : Pr < 4294967296

set_option maxRecDepth 100000 in
set_option maxHeartbeats 4000000 in
theorem makeBody (k : Nat) (hk1 : 1 ≤ k) (hk4 : k ≤ 4) (tcpB six : Bool) {addr : ByteArray} (ha : addrText six addr) (hs : addr.size ≤ 4294967296) (port comp : Nat) (prio tt : Int) (found : ByteArray) (h1 : port ≤ 65535) (hc1 : comp ≤ 65535) (ht0 : 0 ≤ tt) (ht1 : tt ≤ 3)
    (A8 xp : Option Addr) (n8 rc xc : Nat) (T : Nat → Nat) (F : ByteArray) (Pr : Nat) (hGv : Gives (candOf k (netNum tcpB six) tt comp prio port found addr) T F Pr) (w : World) (p4 p6 : Addr) (hG : Glob w p4 p6) (hT : TabU w T) (hSh : Shape k tcpB tt A8 n8 w)
    (B gc g1 g2 gt : Nat) (hB1 : B ≤ g1) (hB2 : B ≤ g2) (hn12 : g1 ≠ g2) (hnt1 : gt ≠ g1) (hnt2 : gt ≠ g2) (rc0 : Row w gc 26 #[.int .i64 (k : Int), .int .i64 (netNum tcpB six), .int .i64 tt, .string found, .int .i64 (comp : Int), .int .u32 prio, .string addr, .int .i64 (port : Int), .slice A8 n8 rc, .slice xp 0 xc])
    (r1 : Row w g1 26 #[.int .i64 0, .int .i64 0, .int .i64 0, .string ⟨#[]⟩, .int .i64 0, .int .u32 0, .string ⟨#[]⟩, .int .i64 0, .slice none 0 0, .slice none 0 0]) (r2 : Row w g2 9 #[.string ⟨#[]⟩]) (rt : Row w gt 4 #[.bool false]) (hBw : B ≤ w.heap.size) :
    Calls Tryz.prog 41 #[.pointer (some ⟨gc, 0, none⟩), .pointer (some ⟨g1, 0, none⟩), .pointer (some ⟨g2, 0, none⟩)] w fun e w' =>
      ∃ q, e = .returned (.bool q) ∧ Row w' gt 4 #[.bool false] ∧ (q = true ∧ ∃ (rp : Option Addr) (rn rq : Nat) (text : ByteArray), Row w' g1 26 #[.int .i64 (k : Int), .int .i64 (netNum tcpB six), .int .i64 tt, .string F, .int .i64 (comp : Int), .int .u32 (Pr : Int), .string addr, .int .i64 (port : Int), .slice rp rn rq, .slice none 0 0] ∧ Row w' g2 9 #[.string text] ∧ Below B w w') := by
  have hM := meths k
  have mText := hM.mText
  have c0 : w.cell? ⟨gc, 0, none⟩ = some (.int .i64 (k : Int)) := rc0.cell 0
  have c1 : w.cell? ⟨gc, 1, none⟩ = some (.int .i64 (netNum tcpB six)) := rc0.cell 1
  have c2 : w.cell? ⟨gc, 2, none⟩ = some (.int .i64 tt) := rc0.cell 2
  have c3 : w.cell? ⟨gc, 3, none⟩ = some (.string found) := rc0.cell 3
  have c4 : w.cell? ⟨gc, 4, none⟩ = some (.int .i64 (comp : Int)) := rc0.cell 4
  have c5 : w.cell? ⟨gc, 5, none⟩ = some (.int .u32 prio) := rc0.cell 5
  have c6 : w.cell? ⟨gc, 6, none⟩ = some (.string addr) := rc0.cell 6
  have c7 : w.cell? ⟨gc, 7, none⟩ = some (.int .i64 (port : Int)) := rc0.cell 7
  have c8 : w.cell? ⟨gc, 8, none⟩ = some (.slice A8 n8 rc) := rc0.cell 8
  have c9 : w.cell? ⟨gc, 9, none⟩ = some (.slice xp 0 xc) := rc0.cell 9
  have hl1 := r1.lt
  have hl2 := r2.lt
  have hlt := rt.lt
  have hnn1 : 1 ≤ netNum tcpB six := by cases tcpB <;> cases six <;> decide
  have hnn4 : netNum tcpB six ≤ 4 := by cases tcpB <;> cases six <;> decide
  have hmx : maxLen = 9223372036854775807 := rfl
  go_enter Tryz.func41, Tryz.ntmps41
  go_wp2_with fail
  refine (madeAny k tcpB six ha (by omega) port comp prio tt found (by omega) (by omega) (by omega) (by omega) ht0 ht1 A8 xp n8 rc xc w p4 p6 hG hSh).mono ?_
  rintro e w1 ⟨g, rel, rfl, hb1, hg, hr, hrel⟩
  have s1 := r1.below hb1 hl1
  have s2 := r2.below hb1 hl2
  have st := rt.below hb1 hlt
  have hT1 := hT.below hb1 hT.lt
  have hBx := hb1.mono hBw
  have hsz1 := hb1.size
  clear c0 c1 c2 c3 c4 c5 c6 c7 c8 c9 rc0 r1 r2 rt hb1
  go_wp2_with fail
  refine (plainC (dynT k) hM hr ht0 ht1 rfl (by simp [candOf]; omega) (by simp [candOf]; omega) (by simp [candOf]) (by simp [candOf]; omega) F
    (fun W hb => hGv.hF W g rel (hr.below hb hr.lt) (hT1.below hb hT1.lt)) Pr (fun W hb => hGv.hP W g rel (hr.below hb hr.lt)) hrel).mono ?_
  rintro e w2 ⟨rp, rn, rq, rfl, hb2⟩
  have q1 := s1.below hb2 s1.lt
  have q2 := s2.below hb2 s2.lt
  have qt := st.below hb2 st.lt
  have hr2 := hr.below hb2 hr.lt
  have hT2 := hT1.below hb2 hT1.lt
  have hrel2 := hrel.below hb2 (Nat.le_refl _)
  have hBy := hBx.trans (hb2.mono (by omega))
  have hsz2 := hb2.size
  clear s1 s2 st hr hT1 hrel hb2 hBx
  go_wp2_with fail
  refine (marshal hr2 ht0 ht1 rfl hnn1 hnn4 (by simp [candOf]; omega) (by simp [candOf]; omega) comp port rfl rfl hc1 h1 hs (addr_noCut ha) F hGv.hFs hGv.hsp
    (fun W hb => hGv.hF W g rel (hr2.below hb hr2.lt) (hT2.below hb hT2.lt)) Pr hGv.hP1 (fun W hb => hGv.hP W g rel (hr2.below hb hr2.lt)) T hT2 hrel2).mono ?_
  rintro e w3 ⟨text, rfl, hb3⟩
  have u1 := q1.below hb3 q1.lt
  have u2 := q2.below hb3 q2.lt
  have ut := qt.below hb3 qt.lt
  have hBz := hBy.trans (hb3.mono (by omega))
  clear q1 q2 qt hr2 hT2 hrel2 hb3 hBy
  have d0 : w3.cell? ⟨g1, 0, none⟩ = some (.int .i64 0) := u1.cell 0
  have f0 : w3.frozen? ⟨g1, 0, none⟩ = false := u1.free 0
  have d1 : w3.cell? ⟨g1, 1, none⟩ = some (.int .i64 0) := u1.cell 1
  have f1 : w3.frozen? ⟨g1, 1, none⟩ = false := u1.free 1
  have d2 : w3.cell? ⟨g1, 2, none⟩ = some (.int .i64 0) := u1.cell 2
  have f2 : w3.frozen? ⟨g1, 2, none⟩ = false := u1.free 2
  have d3 : w3.cell? ⟨g1, 3, none⟩ = some (.string ⟨#[]⟩) := u1.cell 3
  have f3 : w3.frozen? ⟨g1, 3, none⟩ = false := u1.free 3
  have d4 : w3.cell? ⟨g1, 4, none⟩ = some (.int .i64 0) := u1.cell 4
  have f4 : w3.frozen? ⟨g1, 4, none⟩ = false := u1.free 4
  have d5 : w3.cell? ⟨g1, 5, none⟩ = some (.int .u32 0) := u1.cell 5
  have f5 : w3.frozen? ⟨g1, 5, none⟩ = false := u1.free 5
  have d6 : w3.cell? ⟨g1, 6, none⟩ = some (.string ⟨#[]⟩) := u1.cell 6
  have f6 : w3.frozen? ⟨g1, 6, none⟩ = false := u1.free 6
  have d7 : w3.cell? ⟨g1, 7, none⟩ = some (.int .i64 0) := u1.cell 7
  have f7 : w3.frozen? ⟨g1, 7, none⟩ = false := u1.free 7
  have d8 : w3.cell? ⟨g1, 8, none⟩ = some (.slice none 0 0) := u1.cell 8
  have f8 : w3.frozen? ⟨g1, 8, none⟩ = false := u1.free 8
  have d9 : w3.cell? ⟨g1, 9, none⟩ = some (.slice none 0 0) := u1.cell 9
  have f9 : w3.frozen? ⟨g1, 9, none⟩ = false := u1.free 9
  have x0 : w3.cell? ⟨g2, 0, none⟩ = some (.string ⟨#[]⟩) := u2.cell 0
  have y0 : w3.frozen? ⟨g2, 0, none⟩ = false := u2.free 0
  have z1 := (tenSet u1 (.int .i64 (k : Int)) (.int .i64 (netNum tcpB six)) (.int .i64 tt) (.string F) (.int .i64 (comp : Int)) (.int .u32 (Pr : Int)) (.string addr) (.int .i64 (port : Int)) (.slice rp rn rq) (.slice none 0 0)).far (p := ⟨g2, 0, none⟩) hn12 (.string text)
  have z2 := (((((((((((u2.far (p := ⟨g1, 0, none⟩) (Ne.symm hn12) (.int .i64 (k : Int))).far (p := ⟨g1, 1, none⟩) (Ne.symm hn12) (.int .i64 (netNum tcpB six))).far (p := ⟨g1, 2, none⟩) (Ne.symm hn12) (.int .i64 tt)).far (p := ⟨g1, 3, none⟩) (Ne.symm hn12) (.string F)).far (p := ⟨g1, 4, none⟩) (Ne.symm hn12) (.int .i64 (comp : Int))).far (p := ⟨g1, 5, none⟩) (Ne.symm hn12) (.int .u32 (Pr : Int))).far (p := ⟨g1, 6, none⟩) (Ne.symm hn12) (.string addr)).far (p := ⟨g1, 7, none⟩) (Ne.symm hn12) (.int .i64 (port : Int))).far (p := ⟨g1, 8, none⟩) (Ne.symm hn12) (.slice rp rn rq)).far (p := ⟨g1, 9, none⟩) (Ne.symm hn12) (.slice none 0 0))).set 0 (.string text)
  have zt := (((((((((((ut.far (p := ⟨g1, 0, none⟩) hnt1 (.int .i64 (k : Int))).far (p := ⟨g1, 1, none⟩) hnt1 (.int .i64 (netNum tcpB six))).far (p := ⟨g1, 2, none⟩) hnt1 (.int .i64 tt)).far (p := ⟨g1, 3, none⟩) hnt1 (.string F)).far (p := ⟨g1, 4, none⟩) hnt1 (.int .i64 (comp : Int))).far (p := ⟨g1, 5, none⟩) hnt1 (.int .u32 (Pr : Int))).far (p := ⟨g1, 6, none⟩) hnt1 (.string addr)).far (p := ⟨g1, 7, none⟩) hnt1 (.int .i64 (port : Int))).far (p := ⟨g1, 8, none⟩) hnt1 (.slice rp rn rq)).far (p := ⟨g1, 9, none⟩) hnt1 (.slice none 0 0))).far (p := ⟨g2, 0, none⟩) hnt2 (.string text)
  have zB := below_st (tenBelow hBz hB1 (.int .i64 (k : Int)) (.int .i64 (netNum tcpB six)) (.int .i64 tt) (.string F) (.int .i64 (comp : Int)) (.int .u32 (Pr : Int)) (.string addr) (.int .i64 (port : Int)) (.slice rp rn rq) (.slice none 0 0)) hB2 0 (.string text)
  have Z1 := Lib.hid z1
  have Z2 := Lib.hid z2
  have ZT := Lib.hid zt
  have ZB := Lib.hid zB
  clear z1 z2 zt zB u1 u2 ut hBz
  simp only [candOf]
  go_wp2_with fail
  go_ret
  exact ⟨true, rfl, ZT.out, rfl, rp, rn, rq, text, Z1.out, Z2.out, ZB.out⟩

set_option maxRecDepth 100000 in
set_option maxHeartbeats 4000000 in
theorem makeAll (k : Nat) (hk1 : 1 ≤ k) (hk4 : k ≤ 4) (tcpB six : Bool) {addr : ByteArray} (ha : addrText six addr) (hs : addr.size ≤ 4294967296) (port comp : Nat) (prio tt : Int) (found : ByteArray) (h1 : port ≤ 65535) (hc1 : comp ≤ 65535) (ht0 : 0 ≤ tt) (ht1 : tt ≤ 3)
    (A8 xp : Option Addr) (n8 rc xc : Nat) (T : Nat → Nat) (F : ByteArray) (Pr : Nat) (hGv : Gives (candOf k (netNum tcpB six) tt comp prio port found addr) T F Pr) (w : World) (p4 p6 : Addr) (hG : Glob w p4 p6) (hT : TabU w T) (hSh : Shape k tcpB tt A8 n8 w) :
    Calls Tryz.prog 20 #[.agg #[.int .i64 (k : Int), .int .i64 (netNum tcpB six), .int .i64 tt, .string found, .int .i64 (comp : Int), .int .u32 prio, .string addr, .int .i64 (port : Int), .slice A8 n8 rc, .slice xp 0 xc]] w fun e w' => ∃ (rp : Option Addr) (rn rq : Nat) (text : ByteArray), e = .returned (.tuple #[.agg #[.int .i64 (k : Int), .int .i64 (netNum tcpB six), .int .i64 tt, .string F, .int .i64 (comp : Int), .int .u32 (Pr : Int), .string addr, .int .i64 (port : Int), .slice rp rn rq, .slice none 0 0], .string text, .bool true]) ∧ Below w.heap.size w w' := by
  have hmf : ∀ (fn : Fn) (first cap : Array Value) (w : World), (Instr.makeFunc fn first cap).run Tryz.prog w = .ok (.func fn first cap) w := fun _ _ _ _ => rfl
  go_enter Tryz.func20, Tryz.ntmps20
  go_wp2_with fail
  obtain ⟨W, hW⟩ : ∃ W, W = ((w.alloc (.cells #[.int .i64 (k : Int), .int .i64 (netNum tcpB six), .int .i64 tt, .string found, .int .i64 (comp : Int), .int .u32 prio, .string addr, .int .i64 (port : Int), .slice A8 n8 rc, .slice xp 0 xc] 26)).alloc (.cells #[.int .i64 0, .int .i64 0, .int .i64 0, .string ⟨#[]⟩, .int .i64 0, .int .u32 0, .string ⟨#[]⟩, .int .i64 0, .slice none 0 0, .slice none 0 0] 26)).alloc (.cells #[.string ⟨#[]⟩] 9) := ⟨_, rfl⟩
  have rc0 : Row W w.heap.size 26 #[.int .i64 (k : Int), .int .i64 (netNum tcpB six), .int .i64 tt, .string found, .int .i64 (comp : Int), .int .u32 prio, .string addr, .int .i64 (port : Int), .slice A8 n8 rc, .slice xp 0 xc] := hW ▸ ((Row.new _ _ _).alloc _).alloc _
  have r1 : Row W (w.heap.size + 1) 26 #[.int .i64 0, .int .i64 0, .int .i64 0, .string ⟨#[]⟩, .int .i64 0, .int .u32 0, .string ⟨#[]⟩, .int .i64 0, .slice none 0 0, .slice none 0 0] := by
    have h := (Row.new (w.alloc (.cells #[.int .i64 (k : Int), .int .i64 (netNum tcpB six), .int .i64 tt, .string found, .int .i64 (comp : Int), .int .u32 prio, .string addr, .int .i64 (port : Int), .slice A8 n8 rc, .slice xp 0 xc] 26)) 26 #[.int .i64 0, .int .i64 0, .int .i64 0, .string ⟨#[]⟩, .int .i64 0, .int .u32 0, .string ⟨#[]⟩, .int .i64 0, .slice none 0 0, .slice none 0 0]).alloc (.cells #[.string ⟨#[]⟩] 9)
    rw [hW]
    simpa using h
  have r2 : Row W (w.heap.size + 1 + 1) 9 #[.string ⟨#[]⟩] := by
    have h := Row.new ((w.alloc (.cells #[.int .i64 (k : Int), .int .i64 (netNum tcpB six), .int .i64 tt, .string found, .int .i64 (comp : Int), .int .u32 prio, .string addr, .int .i64 (port : Int), .slice A8 n8 rc, .slice xp 0 xc] 26)).alloc (.cells #[.int .i64 0, .int .i64 0, .int .i64 0, .string ⟨#[]⟩, .int .i64 0, .int .u32 0, .string ⟨#[]⟩, .int .i64 0, .slice none 0 0, .slice none 0 0] 26)) 9 #[.string ⟨#[]⟩]
    rw [hW]
    simpa using h
  have hsz : W.heap.size = w.heap.size + 3 := by rw [hW]; simp
  have hB : Below w.heap.size w W := by
    rw [hW]
    exact (((Below.refl _ _).alloc (Nat.le_refl _) _).alloc (by simp) _).alloc (by simp; omega) _
  rw [← hW]
  clear hW
  have hBt : Below w.heap.size w (W.alloc (.cells #[.bool false] 4)) := hB.alloc (by omega) _
  have hszt : (W.alloc (.cells #[.bool false] 4)).heap.size = w.heap.size + 4 := by simp [hsz]
  have hbody := makeBody k hk1 hk4 tcpB six ha hs port comp prio tt found h1 hc1 ht0 ht1 A8 xp n8 rc xc T F Pr hGv (W.alloc (.cells #[.bool false] 4)) p4 p6 (hG.below hBt) (hT.below hBt hT.lt) (hSh.below hBt (Nat.le_refl _)) w.heap.size w.heap.size (w.heap.size + 1) (w.heap.size + 1 + 1) W.heap.size (by omega) (by omega) (by omega) (by omega) (by omega) (rc0.alloc _) (r1.alloc _) (r2.alloc _) (Row.new _ _ _) (by omega)
  refine (try_ok 41 _ (fun _ => by kernel_rfl) (fun q w' => q = true ∧ ∃ (rp : Option Addr) (rn rq : Nat) (text : ByteArray), Row w' (w.heap.size + 1) 26 #[.int .i64 (k : Int), .int .i64 (netNum tcpB six), .int .i64 tt, .string F, .int .i64 (comp : Int), .int .u32 (Pr : Int), .string addr, .int .i64 (port : Int), .slice rp rn rq, .slice none 0 0] ∧ Row w' (w.heap.size + 1 + 1) 9 #[.string text] ∧ Below w.heap.size (W.alloc (.cells #[.bool false] 4)) w') W hbody).mono ?_
  rintro e w' ⟨q, w1, rfl, ⟨rfl, rp, rn, rq, text, z1, z2, zB⟩, hw'⟩
  have u1 : Row w' (w.heap.size + 1) 26 #[.int .i64 (k : Int), .int .i64 (netNum tcpB six), .int .i64 tt, .string F, .int .i64 (comp : Int), .int .u32 (Pr : Int), .string addr, .int .i64 (port : Int), .slice rp rn rq, .slice none 0 0] := hw' ▸ z1.far (p := ⟨W.heap.size, 0, none⟩) (by simp only; omega) (.bool true)
  have u2 : Row w' (w.heap.size + 1 + 1) 9 #[.string text] := hw' ▸ z2.far (p := ⟨W.heap.size, 0, none⟩) (by simp only; omega) (.bool true)
  have hBf : Below w.heap.size w w' := hw' ▸ below_st (hBt.trans zB) (by omega) 0 (.bool true)
  have HBf := Lib.hid hBf
  clear hbody z1 z2 zB hw' hBf hBt hB rc0 r1 r2
  have d0 : w'.cell? ⟨w.heap.size + 1, 0, none⟩ = some (.int .i64 (k : Int)) := u1.cell 0
  have f0 : w'.frozen? ⟨w.heap.size + 1, 0, none⟩ = false := u1.free 0
  have d1 : w'.cell? ⟨w.heap.size + 1, 1, none⟩ = some (.int .i64 (netNum tcpB six)) := u1.cell 1
  have f1 : w'.frozen? ⟨w.heap.size + 1, 1, none⟩ = false := u1.free 1
  have d2 : w'.cell? ⟨w.heap.size + 1, 2, none⟩ = some (.int .i64 tt) := u1.cell 2
  have f2 : w'.frozen? ⟨w.heap.size + 1, 2, none⟩ = false := u1.free 2
  have d3 : w'.cell? ⟨w.heap.size + 1, 3, none⟩ = some (.string F) := u1.cell 3
  have f3 : w'.frozen? ⟨w.heap.size + 1, 3, none⟩ = false := u1.free 3
  have d4 : w'.cell? ⟨w.heap.size + 1, 4, none⟩ = some (.int .i64 (comp : Int)) := u1.cell 4
  have f4 : w'.frozen? ⟨w.heap.size + 1, 4, none⟩ = false := u1.free 4
  have d5 : w'.cell? ⟨w.heap.size + 1, 5, none⟩ = some (.int .u32 (Pr : Int)) := u1.cell 5
  have f5 : w'.frozen? ⟨w.heap.size + 1, 5, none⟩ = false := u1.free 5
  have d6 : w'.cell? ⟨w.heap.size + 1, 6, none⟩ = some (.string addr) := u1.cell 6
  have f6 : w'.frozen? ⟨w.heap.size + 1, 6, none⟩ = false := u1.free 6
  have d7 : w'.cell? ⟨w.heap.size + 1, 7, none⟩ = some (.int .i64 (port : Int)) := u1.cell 7
  have f7 : w'.frozen? ⟨w.heap.size + 1, 7, none⟩ = false := u1.free 7
  have d8 : w'.cell? ⟨w.heap.size + 1, 8, none⟩ = some (.slice rp rn rq) := u1.cell 8
  have f8 : w'.frozen? ⟨w.heap.size + 1, 8, none⟩ = false := u1.free 8
  have d9 : w'.cell? ⟨w.heap.size + 1, 9, none⟩ = some (.slice none 0 0) := u1.cell 9
  have f9 : w'.frozen? ⟨w.heap.size + 1, 9, none⟩ = false := u1.free 9
  have x0 : w'.cell? ⟨w.heap.size + 1 + 1, 0, none⟩ = some (.string text) := u2.cell 0
  have y0 : w'.frozen? ⟨w.heap.size + 1 + 1, 0, none⟩ = false := u2.free 0
  go_wp2_with fail
  have e1 := ((tenSet u1 (.int .i64 (k : Int)) (.int .i64 (netNum tcpB six)) (.int .i64 tt) (.string F) (.int .i64 (comp : Int)) (.int .u32 (Pr : Int)) (.string addr) (.int .i64 (port : Int)) (.slice rp rn rq) (.slice none 0 0)).far (p := ⟨w.heap.size + 1 + 1, 0, none⟩) (by simp) (.string text)).drew
  have e2 := ((((((((((((u2.far (p := ⟨w.heap.size + 1, 0, none⟩) (by simp) (.int .i64 (k : Int))).far (p := ⟨w.heap.size + 1, 1, none⟩) (by simp) (.int .i64 (netNum tcpB six))).far (p := ⟨w.heap.size + 1, 2, none⟩) (by simp) (.int .i64 tt)).far (p := ⟨w.heap.size + 1, 3, none⟩) (by simp) (.string F)).far (p := ⟨w.heap.size + 1, 4, none⟩) (by simp) (.int .i64 (comp : Int))).far (p := ⟨w.heap.size + 1, 5, none⟩) (by simp) (.int .u32 (Pr : Int))).far (p := ⟨w.heap.size + 1, 6, none⟩) (by simp) (.string addr)).far (p := ⟨w.heap.size + 1, 7, none⟩) (by simp) (.int .i64 (port : Int))).far (p := ⟨w.heap.size + 1, 8, none⟩) (by simp) (.slice rp rn rq)).far (p := ⟨w.heap.size + 1, 9, none⟩) (by simp) (.slice none 0 0))).set 0 (.string text)).drew
  have eB := (below_st (tenBelow HBf.out (by omega) (.int .i64 (k : Int)) (.int .i64 (netNum tcpB six)) (.int .i64 tt) (.string F) (.int .i64 (comp : Int)) (.int .u32 (Pr : Int)) (.string addr) (.int .i64 (port : Int)) (.slice rp rn rq) (.slice none 0 0)) (by omega) 0 (.string text) : Below w.heap.size w (((((((((((w'.setCell ⟨w.heap.size + 1, 0, none⟩ (.int .i64 (k : Int))).setCell ⟨w.heap.size + 1, 1, none⟩ (.int .i64 (netNum tcpB six))).setCell ⟨w.heap.size + 1, 2, none⟩ (.int .i64 tt)).setCell ⟨w.heap.size + 1, 3, none⟩ (.string F)).setCell ⟨w.heap.size + 1, 4, none⟩ (.int .i64 (comp : Int))).setCell ⟨w.heap.size + 1, 5, none⟩ (.int .u32 (Pr : Int))).setCell ⟨w.heap.size + 1, 6, none⟩ (.string addr)).setCell ⟨w.heap.size + 1, 7, none⟩ (.int .i64 (port : Int))).setCell ⟨w.heap.size + 1, 8, none⟩ (.slice rp rn rq)).setCell ⟨w.heap.size + 1, 9, none⟩ (.slice none 0 0)).setCell ⟨w.heap.size + 1 + 1, 0, none⟩ (.string text))).drew
  have E1 := Lib.hid e1
  have E2 := Lib.hid e2
  have EB := Lib.hid eB
  clear e1 e2 eB u1 u2
  go_region
  go_wp2_with fail
  obtain ⟨e1, e2, eB⟩ := (⟨E1.out, E2.out, EB.out⟩ : _ ∧ _ ∧ _)
  clear E1 E2 EB
  generalize (((((((((((w'.setCell ⟨w.heap.size + 1, 0, none⟩ (.int .i64 (k : Int))).setCell ⟨w.heap.size + 1, 1, none⟩ (.int .i64 (netNum tcpB six))).setCell ⟨w.heap.size + 1, 2, none⟩ (.int .i64 tt)).setCell ⟨w.heap.size + 1, 3, none⟩ (.string F)).setCell ⟨w.heap.size + 1, 4, none⟩ (.int .i64 (comp : Int))).setCell ⟨w.heap.size + 1, 5, none⟩ (.int .u32 (Pr : Int))).setCell ⟨w.heap.size + 1, 6, none⟩ (.string addr)).setCell ⟨w.heap.size + 1, 7, none⟩ (.int .i64 (port : Int))).setCell ⟨w.heap.size + 1, 8, none⟩ (.slice rp rn rq)).setCell ⟨w.heap.size + 1, 9, none⟩ (.slice none 0 0)).setCell ⟨w.heap.size + 1 + 1, 0, none⟩ (.string text)).drew = Z at e1 e2 eB ⊢
  have z0 : Z.cell? ⟨w.heap.size + 1, 0, none⟩ = some (.int .i64 (k : Int)) := e1.cell 0
  have z1 : Z.cell? ⟨w.heap.size + 1, 1, none⟩ = some (.int .i64 (netNum tcpB six)) := e1.cell 1
  have z2 : Z.cell? ⟨w.heap.size + 1, 2, none⟩ = some (.int .i64 tt) := e1.cell 2
  have z3 : Z.cell? ⟨w.heap.size + 1, 3, none⟩ = some (.string F) := e1.cell 3
  have z4 : Z.cell? ⟨w.heap.size + 1, 4, none⟩ = some (.int .i64 (comp : Int)) := e1.cell 4
  have z5 : Z.cell? ⟨w.heap.size + 1, 5, none⟩ = some (.int .u32 (Pr : Int)) := e1.cell 5
  have z6 : Z.cell? ⟨w.heap.size + 1, 6, none⟩ = some (.string addr) := e1.cell 6
  have z7 : Z.cell? ⟨w.heap.size + 1, 7, none⟩ = some (.int .i64 (port : Int)) := e1.cell 7
  have z8 : Z.cell? ⟨w.heap.size + 1, 8, none⟩ = some (.slice rp rn rq) := e1.cell 8
  have z9 : Z.cell? ⟨w.heap.size + 1, 9, none⟩ = some (.slice none 0 0) := e1.cell 9
  have zt : Z.cell? ⟨w.heap.size + 1 + 1, 0, none⟩ = some (.string text) := e2.cell 0
  refine bodyPost_ret (v := .tuple #[.agg #[.int .i64 (k : Int), .int .i64 (netNum tcpB six), .int .i64 tt, .string F, .int .i64 (comp : Int), .int .u32 (Pr : Int), .string addr, .int .i64 (port : Int), .slice rp rn rq, .slice none 0 0], .string text, .bool true]) ?h1 rfl ⟨rp, rn, rq, text, rfl, eB⟩
  case h1 => simp [results, Tryz.results20, go_sem, z0, z1, z2, z3, z4, z5, z6, z7, z8, z9, zt]

end Go.Proofs.YtmfdbcfpcifmcaaGreatDoor

namespace Go.Proofs.YtmfdbcfpcifmcaaGreatDoor
open Go.RowKit

set_option maxRecDepth 100000 in
set_option maxHeartbeats 1000000 in
theorem specPrio (kp lp comp : Int) (hk0 : 0 ≤ kp) (hk1 : kp ≤ 126) (hl0 : 0 ≤ lp) (hl1 : lp ≤ 65535) (hc0 : 1 ≤ comp) (hc1 : comp ≤ 256) (w : World) :
    Calls Tryz.prog 21 #[.int .i64 kp, .int .i64 lp, .int .i64 comp] w fun e w' => e = .returned (.int .u32 (prioOf kp lp comp)) ∧ w = w' := by
  go_enter Tryz.func21, Tryz.ntmps21
  go_wp2_with fail
  go_ret
  have e : prioOf kp lp comp = kp * 16777216 + lp * 256 + (256 - comp) := by unfold prioOf; omega
  exact ⟨by rw [e]; rfl, rfl⟩

def kindPref (k : Nat) : Int := if k = 1 then 126 else if k = 2 then 100 else if k = 3 then 110 else 0
set_option maxRecDepth 100000 in
set_option maxHeartbeats 1000000 in
theorem specKind (k : Nat) (h1 : 1 ≤ k) (h4 : k ≤ 4) (w : World) :
    Calls Tryz.prog 22 #[.int .i64 (k : Int)] w fun e w' => e = .returned (.int .i64 (kindPref k)) ∧ Below w.heap.size w w' := by
  have hk : k = 1 ∨ k = 2 ∨ k = 3 ∨ k = 4 := by omega
  rcases hk with rfl | rfl | rfl | rfl
  all_goals
    go_enter Tryz.func22, Tryz.ntmps22
    go_wp2
    go_ret
    exact ⟨rfl, below_al (Below.refl _ _) (Nat.le_refl _) _⟩

theorem kindAny (k : Nat) (h1 : 1 ≤ k) (h4 : k ≤ 4) (net tt comp prio port : Int) (found addr : ByteArray) (hn1 : 1 ≤ net) (hn4 : net ≤ 4) (w : World) (g : Nat) (rel : Option Addr) (h : CCells w g (candOf k net tt comp prio port found addr) rel) :
    Calls Tryz.prog 163 #[.pointer (some ⟨g, 0, none⟩)] w fun e w' => e = .returned (.int .u16 (typePrefOf k net)) ∧ w = w' :=
  typePref g k net (by omega) (by omega) hn1 hn4 w h.c1 h.c2

/-- The local preference of a candidate: TCP of a host alone. -/
def locOf (k : Nat) (net tt : Int) : Int := localPrefOf k net tt (if k = 4 then 3 else 0)
theorem localAny (k : Nat) (h1 : 1 ≤ k) (h4 : k ≤ 4) (net tt comp prio port : Int) (found addr : ByteArray) (hn1 : 1 ≤ net) (hn4 : net ≤ 4) (hT : net = 3 ∨ net = 4 → k = 1 ∧ 1 ≤ tt) (ht3 : tt ≤ 3) (w : World) (g : Nat) (rel : Option Addr) (h : CCells w g (candOf k net tt comp prio port found addr) rel) :
    Calls Tryz.prog 153 #[.pointer (some ⟨g, 0, none⟩)] w fun e w' => e = .returned (.int .u16 (locOf k net tt)) ∧ Below w.heap.size w w' := by
  by_cases hn : net = 3 ∨ net = 4
  · obtain ⟨rfl, ht1⟩ := hT hn
    exact localPrefTcp g 1 net tt 0 (by omega) (by omega) hn ht1 ht3 w h.c1 h.c2 h.c7
  · have hc := h.c14
    have e : ((if k = 4 then 3 else 0 : Int)) = (candOf k net tt comp prio port found addr).relay := rfl
    unfold locOf
    rw [e]
    exact localPrefUdp g k net tt _ (by omega) (by omega) (by omega) w h.c1 h.c2 hc
theorem typePref_range (k : Nat) (net : Int) : 0 ≤ typePrefOf k net ∧ typePrefOf k net ≤ 126 := by
  unfold typePrefOf
  simp only
  split <;> (try split) <;> (try split) <;> (try split) <;> (try split) <;> omega
theorem loc_range (k : Nat) (net tt : Int) : 0 ≤ locOf k net tt ∧ locOf k net tt ≤ 65535 := by
  unfold locOf localPrefOf dirOf
  split
  · split <;> omega
  · split
    · split <;> (split <;> (try split) <;> (try split) <;> omega)
    · omega
end Go.Proofs.YtmfdbcfpcifmcaaGreatDoor
