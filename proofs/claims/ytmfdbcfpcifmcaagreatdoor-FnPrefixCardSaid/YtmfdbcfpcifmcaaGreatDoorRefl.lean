/- newSrflx: a candidate of kind 2 at an address that the statements speak of. (Written by mkrefl.py.) | newPrflx: a candidate of kind 3 at an address that the statements speak of. (Written by mkrefl.py.) | newRelay: a candidate of kind 4 at an address that the statements speak of. (Written by mkrefl.py.) (Merged by merge2.py out of Refl2, Refl3, Refl4.) -/
import Derived.Test.YtmfdbcfpcifmcaaGreatDoorMc
namespace Go.Proofs.YtmfdbcfpcifmcaaGreatDoor
open Go.RowKit

set_option maxRecDepth 100000 in
set_option maxHeartbeats 2000000 in
theorem newSrflx {tcp six : Bool} {network addr : ByteArray} (hn : netName tcp network) (ha : addrText six addr) (hs : addr.size ≤ maxLen) (port comp prio rport : Int) (found raddr : ByteArray) (h0 : 0 ≤ port) (h1 : port ≤ 65535)
    (gc : Nat) (w : World) (p4 p6 : Addr) (hG : Glob w p4 p6)
    (hc : Row w gc 102 #[.string ⟨#[]⟩, .string network, .string addr, .int .i64 port, .int .u16 comp, .int .u32 prio, .string found, .string raddr, .int .i64 rport]) :
    Calls Tryz.prog 57 #[.pointer (some ⟨gc, 0, none⟩)] w fun e w' => NewCand 2 { typ := 2, net := netNum tcp six, comp := comp, port := port, tcp := 0, prio := prio, relay := 0, addr := addr, found := found, exts := .slice none 0 0 } raddr rport w e w' := by
  have c0 : w.cell? ⟨gc, 0, none⟩ = some (.string ⟨#[]⟩) := hc.cell 0
  have c2 : w.cell? ⟨gc, 2, none⟩ = some (.string addr) := hc.cell 2
  have hlt := hc.lt
  go_enter Tryz.func57, Tryz.ntmps57
  go_wp2_with fail
  refine (parseAddr_ok ha hs _ p4 p6 hG).mono ?_
  rintro e w1 ⟨⟨hi, lo, p, rfl, ho⟩, hb1⟩
  have hc1 := hc.below hb1 hlt
  have hlt1 : gc < w1.heap.size := hc1.lt
  have hsz1 := hb1.size
  have HO := Lib.hid ho
  clear ho c0 c2
  simp only [addrV]
  go_wp2_with fail
  have hbx : Row (w1.alloc (.cells #[.int .u64 hi, .int .u64 lo, .pointer (some p)] 154)) w1.heap.size 154 #[.int .u64 hi, .int .u64 lo, .pointer (some p)] := Row.new _ _ _
  have hbA : Below w.heap.size w (w1.alloc (.cells #[.int .u64 hi, .int .u64 lo, .pointer (some p)] 154)) := below_al hb1 (Nat.le_refl _) _
  have hcA := hc1.alloc (.cells #[.int .u64 hi, .int .u64 lo, .pointer (some p)] 154)
  have hszA : (w1.alloc (.cells #[.int .u64 hi, .int .u64 lo, .pointer (some p)] 154)).heap.size = w1.heap.size + 1 := by simp
  have hGA := hG.below hbA
  generalize w1.alloc (.cells #[.int .u64 hi, .int .u64 lo, .pointer (some p)] 154) = W at *
  have d1 : W.cell? ⟨gc, 1, none⟩ = some (.string network) := hcA.cell 1
  have b0 : W.cell? ⟨w1.heap.size, 0, none⟩ = some (.int .u64 hi) := hbx.cell 0
  have b1 : W.cell? ⟨w1.heap.size, 1, none⟩ = some (.int .u64 lo) := hbx.cell 1
  have b2 : W.cell? ⟨w1.heap.size, 2, none⟩ = some (.pointer (some p)) := hbx.cell 2
  have hGd : Glob W.drew p4 p6 := hGA.below (below_drewN (Below.refl _ _) 1)
  go_region_held3 (fun w' => w'.cell? ⟨gc, 1, none⟩ = some (.string network) ∧ w'.cell? ⟨w1.heap.size, 0, none⟩ = some (.int .u64 hi) ∧ w'.cell? ⟨w1.heap.size, 1, none⟩ = some (.int .u64 lo) ∧ w'.cell? ⟨w1.heap.size, 2, none⟩ = some (.pointer (some p)))
    (first | exact ⟨d1, b0, b1, b2⟩ | exact ⟨(hb2.cell (by simp only [World.size_drew]; omega)).trans d1, (hb2.cell (by simp only [World.size_drew]; omega)).trans b0, (hb2.cell (by simp only [World.size_drew]; omega)).trans b1, (hb2.cell (by simp only [World.size_drew]; omega)).trans b2⟩)
    (first | (go_at_call 78; refine (netType hn HO.out _ hGd).mono ?_; rintro e w2 ⟨rfl, hb2⟩))
  rename_i hHeld
  clear d1 b0 b1 b2 hHeld
  have hbB : Below W.heap.size W w2 := (below_drewN (Below.refl _ _) 1 : Below W.heap.size W W.drew).trans hb2
  have hc2 := hcA.below hbB hcA.lt
  have hbx2 := hbx.below hbB hbx.lt
  have hsz2 := hbB.size
  have hb02 : Below w.heap.size w w2 := hbA.trans (hbB.mono (by omega))
  have hltc2 := hc2.lt
  clear hc hc1 hcA hbx hbA hGA hGd hb2 hbB hb1
  have c0 : w2.cell? ⟨gc, 0, none⟩ = some (.string ⟨#[]⟩) := hc2.cell 0
  go_wp2_with fail
  clear c0
  have c2 : w2.cell? ⟨gc, 2, none⟩ = some (.string addr) := hc2.cell 2
  have c3 : w2.cell? ⟨gc, 3, none⟩ = some (.int .i64 port) := hc2.cell 3
  have c4 : w2.cell? ⟨gc, 4, none⟩ = some (.int .u16 comp) := hc2.cell 4
  have c5 : w2.cell? ⟨gc, 5, none⟩ = some (.int .u32 prio) := hc2.cell 5
  have c6 : w2.cell? ⟨gc, 6, none⟩ = some (.string found) := hc2.cell 6
  have c7 : w2.cell? ⟨gc, 7, none⟩ = some (.string raddr) := hc2.cell 7
  have c8 : w2.cell? ⟨gc, 8, none⟩ = some (.int .i64 rport) := hc2.cell 8
  have c2d : w2.drew.cell? ⟨gc, 2, none⟩ = some (.string addr) := c2
  have c3d : w2.drew.cell? ⟨gc, 3, none⟩ = some (.int .i64 port) := c3
  have c4d : w2.drew.cell? ⟨gc, 4, none⟩ = some (.int .u16 comp) := c4
  have c5d : w2.drew.cell? ⟨gc, 5, none⟩ = some (.int .u32 prio) := c5
  have c6d : w2.drew.cell? ⟨gc, 6, none⟩ = some (.string found) := c6
  have c7d : w2.drew.cell? ⟨gc, 7, none⟩ = some (.string raddr) := c7
  have c8d : w2.drew.cell? ⟨gc, 8, none⟩ = some (.int .i64 rport) := c8
  have hne : gc ≠ w2.heap.size := by omega
  have c2e : (w2.drew.alloc (.cells #[.string raddr, .int .i64 rport] 124)).cell? ⟨gc, 2, none⟩ = some (.string addr) := (World.cell?_alloc_lt w2.drew _ ⟨gc, 2, none⟩ hltc2).trans c2
  have c2g : ((w2.alloc (.cells #[.string raddr, .int .i64 rport] 124)).drew).cell? ⟨gc, 2, none⟩ = some (.string addr) := (World.cell?_alloc_lt w2 _ ⟨gc, 2, none⟩ hltc2).trans c2
  have c3e : (w2.drew.alloc (.cells #[.string raddr, .int .i64 rport] 124)).cell? ⟨gc, 3, none⟩ = some (.int .i64 port) := (World.cell?_alloc_lt w2.drew _ ⟨gc, 3, none⟩ hltc2).trans c3
  have c3g : ((w2.alloc (.cells #[.string raddr, .int .i64 rport] 124)).drew).cell? ⟨gc, 3, none⟩ = some (.int .i64 port) := (World.cell?_alloc_lt w2 _ ⟨gc, 3, none⟩ hltc2).trans c3
  have c4e : (w2.drew.alloc (.cells #[.string raddr, .int .i64 rport] 124)).cell? ⟨gc, 4, none⟩ = some (.int .u16 comp) := (World.cell?_alloc_lt w2.drew _ ⟨gc, 4, none⟩ hltc2).trans c4
  have c4g : ((w2.alloc (.cells #[.string raddr, .int .i64 rport] 124)).drew).cell? ⟨gc, 4, none⟩ = some (.int .u16 comp) := (World.cell?_alloc_lt w2 _ ⟨gc, 4, none⟩ hltc2).trans c4
  have c5e : (w2.drew.alloc (.cells #[.string raddr, .int .i64 rport] 124)).cell? ⟨gc, 5, none⟩ = some (.int .u32 prio) := (World.cell?_alloc_lt w2.drew _ ⟨gc, 5, none⟩ hltc2).trans c5
  have c5g : ((w2.alloc (.cells #[.string raddr, .int .i64 rport] 124)).drew).cell? ⟨gc, 5, none⟩ = some (.int .u32 prio) := (World.cell?_alloc_lt w2 _ ⟨gc, 5, none⟩ hltc2).trans c5
  have c6e : (w2.drew.alloc (.cells #[.string raddr, .int .i64 rport] 124)).cell? ⟨gc, 6, none⟩ = some (.string found) := (World.cell?_alloc_lt w2.drew _ ⟨gc, 6, none⟩ hltc2).trans c6
  have c6g : ((w2.alloc (.cells #[.string raddr, .int .i64 rport] 124)).drew).cell? ⟨gc, 6, none⟩ = some (.string found) := (World.cell?_alloc_lt w2 _ ⟨gc, 6, none⟩ hltc2).trans c6
  have c7e : (w2.drew.alloc (.cells #[.string raddr, .int .i64 rport] 124)).cell? ⟨gc, 7, none⟩ = some (.string raddr) := (World.cell?_alloc_lt w2.drew _ ⟨gc, 7, none⟩ hltc2).trans c7
  have c7g : ((w2.alloc (.cells #[.string raddr, .int .i64 rport] 124)).drew).cell? ⟨gc, 7, none⟩ = some (.string raddr) := (World.cell?_alloc_lt w2 _ ⟨gc, 7, none⟩ hltc2).trans c7
  have c8e : (w2.drew.alloc (.cells #[.string raddr, .int .i64 rport] 124)).cell? ⟨gc, 8, none⟩ = some (.int .i64 rport) := (World.cell?_alloc_lt w2.drew _ ⟨gc, 8, none⟩ hltc2).trans c8
  have c8g : ((w2.alloc (.cells #[.string raddr, .int .i64 rport] 124)).drew).cell? ⟨gc, 8, none⟩ = some (.int .i64 rport) := (World.cell?_alloc_lt w2 _ ⟨gc, 8, none⟩ hltc2).trans c8
  have c2h : (((w2.alloc (.cells #[.string raddr, .int .i64 rport] 124)).alloc (.cells #[.string ⟨#[]⟩, .int .i64 (netNum tcp six), .int .u8 2, .int .u16 comp, .string addr, .int .i64 port, .pointer (some ⟨w2.heap.size, 0, none⟩), .int .i64 0, .int .u64 0, .int .u64 0, .pointer none, .int .u16 0, .string found, .int .u32 prio, .int .u16 0, .bool false, .slice none 0 0] 162)).drew).cell? ⟨gc, 2, none⟩ = some (.string addr) := (World.cell?_alloc_lt _ _ ⟨gc, 2, none⟩ (by simp; omega)).trans c2g
  have c3h : (((w2.alloc (.cells #[.string raddr, .int .i64 rport] 124)).alloc (.cells #[.string ⟨#[]⟩, .int .i64 (netNum tcp six), .int .u8 2, .int .u16 comp, .string addr, .int .i64 port, .pointer (some ⟨w2.heap.size, 0, none⟩), .int .i64 0, .int .u64 0, .int .u64 0, .pointer none, .int .u16 0, .string found, .int .u32 prio, .int .u16 0, .bool false, .slice none 0 0] 162)).drew).cell? ⟨gc, 3, none⟩ = some (.int .i64 port) := (World.cell?_alloc_lt _ _ ⟨gc, 3, none⟩ (by simp; omega)).trans c3g
  have c4h : (((w2.alloc (.cells #[.string raddr, .int .i64 rport] 124)).alloc (.cells #[.string ⟨#[]⟩, .int .i64 (netNum tcp six), .int .u8 2, .int .u16 comp, .string addr, .int .i64 port, .pointer (some ⟨w2.heap.size, 0, none⟩), .int .i64 0, .int .u64 0, .int .u64 0, .pointer none, .int .u16 0, .string found, .int .u32 prio, .int .u16 0, .bool false, .slice none 0 0] 162)).drew).cell? ⟨gc, 4, none⟩ = some (.int .u16 comp) := (World.cell?_alloc_lt _ _ ⟨gc, 4, none⟩ (by simp; omega)).trans c4g
  have c5h : (((w2.alloc (.cells #[.string raddr, .int .i64 rport] 124)).alloc (.cells #[.string ⟨#[]⟩, .int .i64 (netNum tcp six), .int .u8 2, .int .u16 comp, .string addr, .int .i64 port, .pointer (some ⟨w2.heap.size, 0, none⟩), .int .i64 0, .int .u64 0, .int .u64 0, .pointer none, .int .u16 0, .string found, .int .u32 prio, .int .u16 0, .bool false, .slice none 0 0] 162)).drew).cell? ⟨gc, 5, none⟩ = some (.int .u32 prio) := (World.cell?_alloc_lt _ _ ⟨gc, 5, none⟩ (by simp; omega)).trans c5g
  have c6h : (((w2.alloc (.cells #[.string raddr, .int .i64 rport] 124)).alloc (.cells #[.string ⟨#[]⟩, .int .i64 (netNum tcp six), .int .u8 2, .int .u16 comp, .string addr, .int .i64 port, .pointer (some ⟨w2.heap.size, 0, none⟩), .int .i64 0, .int .u64 0, .int .u64 0, .pointer none, .int .u16 0, .string found, .int .u32 prio, .int .u16 0, .bool false, .slice none 0 0] 162)).drew).cell? ⟨gc, 6, none⟩ = some (.string found) := (World.cell?_alloc_lt _ _ ⟨gc, 6, none⟩ (by simp; omega)).trans c6g
  have c7h : (((w2.alloc (.cells #[.string raddr, .int .i64 rport] 124)).alloc (.cells #[.string ⟨#[]⟩, .int .i64 (netNum tcp six), .int .u8 2, .int .u16 comp, .string addr, .int .i64 port, .pointer (some ⟨w2.heap.size, 0, none⟩), .int .i64 0, .int .u64 0, .int .u64 0, .pointer none, .int .u16 0, .string found, .int .u32 prio, .int .u16 0, .bool false, .slice none 0 0] 162)).drew).cell? ⟨gc, 7, none⟩ = some (.string raddr) := (World.cell?_alloc_lt _ _ ⟨gc, 7, none⟩ (by simp; omega)).trans c7g
  have c8h : (((w2.alloc (.cells #[.string raddr, .int .i64 rport] 124)).alloc (.cells #[.string ⟨#[]⟩, .int .i64 (netNum tcp six), .int .u8 2, .int .u16 comp, .string addr, .int .i64 port, .pointer (some ⟨w2.heap.size, 0, none⟩), .int .i64 0, .int .u64 0, .int .u64 0, .pointer none, .int .u16 0, .string found, .int .u32 prio, .int .u16 0, .bool false, .slice none 0 0] 162)).drew).cell? ⟨gc, 8, none⟩ = some (.int .i64 rport) := (World.cell?_alloc_lt _ _ ⟨gc, 8, none⟩ (by simp; omega)).trans c8g
  go_region_held3 (fun w' => w'.cell? ⟨gc, 2, none⟩ = some (.string addr) ∧ w'.cell? ⟨gc, 3, none⟩ = some (.int .i64 port) ∧ w'.cell? ⟨gc, 4, none⟩ = some (.int .u16 comp) ∧ w'.cell? ⟨gc, 5, none⟩ = some (.int .u32 prio) ∧ w'.cell? ⟨gc, 6, none⟩ = some (.string found) ∧ w'.cell? ⟨gc, 7, none⟩ = some (.string raddr) ∧ w'.cell? ⟨gc, 8, none⟩ = some (.int .i64 rport))
    (first | (with_reducible exact ⟨c2, c3, c4, c5, c6, c7, c8⟩) | (with_reducible exact ⟨c2d, c3d, c4d, c5d, c6d, c7d, c8d⟩) | (with_reducible exact ⟨c2e, c3e, c4e, c5e, c6e, c7e, c8e⟩) | (with_reducible exact ⟨c2g, c3g, c4g, c5g, c6g, c7g, c8g⟩) | (with_reducible exact ⟨c2h, c3h, c4h, c5h, c6h, c7h, c8h⟩))
    (first | fail)
  rename_i hHeld
  clear hHeld c2 c2d c2e c2g c2h c3 c3d c3e c3g c3h c4 c4d c4e c4g c4h c5 c5d c5e c5g c5h c6 c6d c6e c6g c6h c7 c7d c7e c7g c7h c8 c8d c8e c8g c8h
  have rC : Row (((w2.alloc (.cells #[.string raddr, .int .i64 rport] 124)).alloc (.cells #[.string ⟨#[]⟩, .int .i64 (netNum tcp six), .int .u8 2, .int .u16 comp, .string addr, .int .i64 port, .pointer (some ⟨w2.heap.size, 0, none⟩), .int .i64 0, .int .u64 0, .int .u64 0, .pointer none, .int .u16 0, .string found, .int .u32 prio, .int .u16 0, .bool false, .slice none 0 0] 162)).drew) (w2.heap.size + 1) 162 #[.string ⟨#[]⟩, .int .i64 (netNum tcp six), .int .u8 2, .int .u16 comp, .string addr, .int .i64 port, .pointer (some ⟨w2.heap.size, 0, none⟩), .int .i64 0, .int .u64 0, .int .u64 0, .pointer none, .int .u16 0, .string found, .int .u32 prio, .int .u16 0, .bool false, .slice none 0 0] := by
    have h := (Row.new (w2.alloc (.cells #[.string raddr, .int .i64 rport] 124)) 162 #[.string ⟨#[]⟩, .int .i64 (netNum tcp six), .int .u8 2, .int .u16 comp, .string addr, .int .i64 port, .pointer (some ⟨w2.heap.size, 0, none⟩), .int .i64 0, .int .u64 0, .int .u64 0, .pointer none, .int .u16 0, .string found, .int .u32 prio, .int .u16 0, .bool false, .slice none 0 0]).drew
    simpa using h
  have rR : Row (((w2.alloc (.cells #[.string raddr, .int .i64 rport] 124)).alloc (.cells #[.string ⟨#[]⟩, .int .i64 (netNum tcp six), .int .u8 2, .int .u16 comp, .string addr, .int .i64 port, .pointer (some ⟨w2.heap.size, 0, none⟩), .int .i64 0, .int .u64 0, .int .u64 0, .pointer none, .int .u16 0, .string found, .int .u32 prio, .int .u16 0, .bool false, .slice none 0 0] 162)).drew) w2.heap.size 124 #[.string raddr, .int .i64 rport] := ((Row.new _ _ _).alloc _).drew
  have hc3 := ((hc2.alloc (.cells #[.string raddr, .int .i64 rport] 124)).alloc (.cells #[.string ⟨#[]⟩, .int .i64 (netNum tcp six), .int .u8 2, .int .u16 comp, .string addr, .int .i64 port, .pointer (some ⟨w2.heap.size, 0, none⟩), .int .i64 0, .int .u64 0, .int .u64 0, .pointer none, .int .u16 0, .string found, .int .u32 prio, .int .u16 0, .bool false, .slice none 0 0] 162)).drew
  have hbx3 := ((hbx2.alloc (.cells #[.string raddr, .int .i64 rport] 124)).alloc (.cells #[.string ⟨#[]⟩, .int .i64 (netNum tcp six), .int .u8 2, .int .u16 comp, .string addr, .int .i64 port, .pointer (some ⟨w2.heap.size, 0, none⟩), .int .i64 0, .int .u64 0, .int .u64 0, .pointer none, .int .u16 0, .string found, .int .u32 prio, .int .u16 0, .bool false, .slice none 0 0] 162)).drew
  have hbF : Below w.heap.size w (((w2.alloc (.cells #[.string raddr, .int .i64 rport] 124)).alloc (.cells #[.string ⟨#[]⟩, .int .i64 (netNum tcp six), .int .u8 2, .int .u16 comp, .string addr, .int .i64 port, .pointer (some ⟨w2.heap.size, 0, none⟩), .int .i64 0, .int .u64 0, .int .u64 0, .pointer none, .int .u16 0, .string found, .int .u32 prio, .int .u16 0, .bool false, .slice none 0 0] 162)).drew) := ((hb02.alloc hb02.size _).alloc (by simp; have := hb02.size; omega) _).drew
  have hszF : (((w2.alloc (.cells #[.string raddr, .int .i64 rport] 124)).alloc (.cells #[.string ⟨#[]⟩, .int .i64 (netNum tcp six), .int .u8 2, .int .u16 comp, .string addr, .int .i64 port, .pointer (some ⟨w2.heap.size, 0, none⟩), .int .i64 0, .int .u64 0, .int .u64 0, .pointer none, .int .u16 0, .string found, .int .u32 prio, .int .u16 0, .bool false, .slice none 0 0] 162)).drew).heap.size = w2.heap.size + 2 := by simp
  generalize ((w2.alloc (.cells #[.string raddr, .int .i64 rport] 124)).alloc (.cells #[.string ⟨#[]⟩, .int .i64 (netNum tcp six), .int .u8 2, .int .u16 comp, .string addr, .int .i64 port, .pointer (some ⟨w2.heap.size, 0, none⟩), .int .i64 0, .int .u64 0, .int .u64 0, .pointer none, .int .u16 0, .string found, .int .u32 prio, .int .u16 0, .bool false, .slice none 0 0] 162)).drew = V at *
  have hw16 : IntKind.u16.wrap port = port := IntWalk.u16_in _ ⟨h0, h1⟩
  have q3 : V.cell? ⟨gc, 3, none⟩ = some (.int .i64 port) := hc3.cell 3
  have b0 : V.cell? ⟨w1.heap.size, 0, none⟩ = some (.int .u64 hi) := hbx3.cell 0
  have b1 : V.cell? ⟨w1.heap.size, 1, none⟩ = some (.int .u64 lo) := hbx3.cell 1
  have b2 : V.cell? ⟨w1.heap.size, 2, none⟩ = some (.pointer (some p)) := hbx3.cell 2
  have q3d : V.drew.cell? ⟨gc, 3, none⟩ = some (.int .i64 port) := q3
  have b0d : V.drew.cell? ⟨w1.heap.size, 0, none⟩ = some (.int .u64 hi) := b0
  have b1d : V.drew.cell? ⟨w1.heap.size, 1, none⟩ = some (.int .u64 lo) := b1
  have b2d : V.drew.cell? ⟨w1.heap.size, 2, none⟩ = some (.pointer (some p)) := b2
  generalize hgg : w2.heap.size + 1 = g at *
  have hgV : g < V.heap.size := by omega
  have hgcV : gc < V.heap.size := by omega
  have h1V : w1.heap.size < V.heap.size := by omega
  have hne1 : w1.heap.size ≠ g := by omega
  have hne2 : gc ≠ g := by omega
  have q8 : V.cell? ⟨g, 8, none⟩ = some (.int .u64 0) := rC.cell 8
  have q9 : V.cell? ⟨g, 9, none⟩ = some (.int .u64 0) := rC.cell 9
  have q10 : V.cell? ⟨g, 10, none⟩ = some (.pointer none) := rC.cell 10
  have q11 : V.cell? ⟨g, 11, none⟩ = some (.int .u16 0) := rC.cell 11
  have f8 := rC.free 8
  have f9 := rC.free 9
  have f10 := rC.free 10
  have f11 := rC.free 11
  go_wp2_with fail
  go_region_held3 (fun w' => w'.cell? ⟨gc, 3, none⟩ = some (.int .i64 port) ∧ w'.cell? ⟨w1.heap.size, 0, none⟩ = some (.int .u64 hi) ∧ w'.cell? ⟨w1.heap.size, 1, none⟩ = some (.int .u64 lo) ∧ w'.cell? ⟨w1.heap.size, 2, none⟩ = some (.pointer (some p)))
    (first | (with_reducible exact ⟨q3, b0, b1, b2⟩) | (with_reducible exact ⟨q3d, b0d, b1d, b2d⟩) | (with_reducible exact ⟨k5, k0, k1, k2⟩) | exact ⟨cell_far (cell_far (cell_far (cell_far k5 hne2 _ _) hne2 _ _) hne2 _ _) hne2 _ _, cell_far (cell_far (cell_far (cell_far k0 hne1 _ _) hne1 _ _) hne1 _ _) hne1 _ _, cell_far (cell_far (cell_far (cell_far k1 hne1 _ _) hne1 _ _) hne1 _ _) hne1 _ _, cell_far (cell_far (cell_far (cell_far k2 hne1 _ _) hne1 _ _) hne1 _ _) hne1 _ _⟩)
    (first | (go_at_call 79; refine (addrPortFrom hi lo p port _).mono ?_; rintro e w3 ⟨rfl, hb1⟩; have d8 : w3.cell? ⟨g, 8, none⟩ = some (.int .u64 0) := (hb1.cell (by simp only [World.size_drew]; omega)).trans q8; have e8 : w3.frozen? ⟨g, 8, none⟩ = false := (hb1.frozen (by simp only [World.size_drew]; omega)).trans f8; have d9 : w3.cell? ⟨g, 9, none⟩ = some (.int .u64 0) := (hb1.cell (by simp only [World.size_drew]; omega)).trans q9; have e9 : w3.frozen? ⟨g, 9, none⟩ = false := (hb1.frozen (by simp only [World.size_drew]; omega)).trans f9; have d10 : w3.cell? ⟨g, 10, none⟩ = some (.pointer none) := (hb1.cell (by simp only [World.size_drew]; omega)).trans q10; have e10 : w3.frozen? ⟨g, 10, none⟩ = false := (hb1.frozen (by simp only [World.size_drew]; omega)).trans f10; have d11 : w3.cell? ⟨g, 11, none⟩ = some (.int .u16 0) := (hb1.cell (by simp only [World.size_drew]; omega)).trans q11; have e11 : w3.frozen? ⟨g, 11, none⟩ = false := (hb1.frozen (by simp only [World.size_drew]; omega)).trans f11; have k5 : w3.cell? ⟨gc, 3, none⟩ = some (.int .i64 port) := (hb1.cell (by simp only [World.size_drew]; omega)).trans q3; have k0 : w3.cell? ⟨w1.heap.size, 0, none⟩ = some (.int .u64 hi) := (hb1.cell (by simp only [World.size_drew]; omega)).trans b0; have k1 : w3.cell? ⟨w1.heap.size, 1, none⟩ = some (.int .u64 lo) := (hb1.cell (by simp only [World.size_drew]; omega)).trans b1; have k2 : w3.cell? ⟨w1.heap.size, 2, none⟩ = some (.pointer (some p)) := (hb1.cell (by simp only [World.size_drew]; omega)).trans b2; simp only [addrPortV]))
  have hb3 : Below V.heap.size V w3 := (below_drewN (Below.refl _ _) 1 : Below V.heap.size V V.drew).trans hb1
  have hrow := ((((rC.below hb3 hgV).set 8 (.int .u64 hi)).set 9 (.int .u64 lo)).set 10 (.pointer (some p))).set 11 (.int .u16 port)
  have hR3 : Row w3 w2.heap.size 124 #[.string raddr, .int .i64 rport] := rR.below hb3 rR.lt
  have hrel := (((hR3.far (p := ⟨g, 8, none⟩) (by simp only; omega) (.int .u64 hi)).far (p := ⟨g, 9, none⟩) (by simp only; omega) (.int .u64 lo)).far (p := ⟨g, 10, none⟩) (by simp only; omega) (.pointer (some p))).far (p := ⟨g, 11, none⟩) (by simp only; omega) (.int .u16 port)
  have hgw : w.heap.size ≤ g := by have := hb02.size; omega
  have hfin := below_st (below_st (below_st (below_st (hbF.trans (hb3.mono hbF.size)) hgw 8 (.int .u64 hi)) hgw 9 (.int .u64 lo)) hgw 10 (.pointer (some p))) hgw 11 (.int .u16 port)
  have HROW := Lib.hid hrow
  have HREL := Lib.hid hrel
  have HFIN := Lib.hid hfin
  have hgr : w.heap.size ≤ w2.heap.size := hb02.size
  rename_i hHeld
  clear hHeld q3 q8 q9 q10 q11 f8 f9 f10 f11 b0 b1 b2 d8 d9 d10 d11 e8 e9 e10 e11 k5 k0 k1 k2 q3d b0d b1d b2d hrow hrel hfin hR3 rC rR hc3 hbx3 hbF hb1 hb3
  go_wp2_with fail
  go_ret2
  exact ⟨g, w2.heap.size, rfl, HFIN.out, hgw, hgr, by omega, ⟨hi, lo, p, port, [], HROW.out⟩, HREL.out⟩
end Go.Proofs.YtmfdbcfpcifmcaaGreatDoor

namespace Go.Proofs.YtmfdbcfpcifmcaaGreatDoor
open Go.RowKit

set_option maxRecDepth 100000 in
set_option maxHeartbeats 2000000 in
theorem newPrflx {tcp six : Bool} {network addr : ByteArray} (hn : netName tcp network) (ha : addrText six addr) (hs : addr.size ≤ maxLen) (port comp prio rport : Int) (found raddr : ByteArray) (h0 : 0 ≤ port) (h1 : port ≤ 65535)
    (gc : Nat) (w : World) (p4 p6 : Addr) (hG : Glob w p4 p6)
    (hc : Row w gc 107 #[.string ⟨#[]⟩, .string network, .string addr, .int .i64 port, .int .u16 comp, .int .u32 prio, .string found, .string raddr, .int .i64 rport]) :
    Calls Tryz.prog 58 #[.pointer (some ⟨gc, 0, none⟩)] w fun e w' => NewCand 3 { typ := 3, net := netNum tcp six, comp := comp, port := port, tcp := 0, prio := prio, relay := 0, addr := addr, found := found, exts := .slice none 0 0 } raddr rport w e w' := by
  have c0 : w.cell? ⟨gc, 0, none⟩ = some (.string ⟨#[]⟩) := hc.cell 0
  have c2 : w.cell? ⟨gc, 2, none⟩ = some (.string addr) := hc.cell 2
  have hlt := hc.lt
  go_enter Tryz.func58, Tryz.ntmps58
  go_wp2_with fail
  refine (parseAddr_ok ha hs _ p4 p6 hG).mono ?_
  rintro e w1 ⟨⟨hi, lo, p, rfl, ho⟩, hb1⟩
  have hc1 := hc.below hb1 hlt
  have hlt1 : gc < w1.heap.size := hc1.lt
  have hsz1 := hb1.size
  have HO := Lib.hid ho
  clear ho c0 c2
  simp only [addrV]
  go_wp2_with fail
  have hbx : Row (w1.alloc (.cells #[.int .u64 hi, .int .u64 lo, .pointer (some p)] 154)) w1.heap.size 154 #[.int .u64 hi, .int .u64 lo, .pointer (some p)] := Row.new _ _ _
  have hbA : Below w.heap.size w (w1.alloc (.cells #[.int .u64 hi, .int .u64 lo, .pointer (some p)] 154)) := below_al hb1 (Nat.le_refl _) _
  have hcA := hc1.alloc (.cells #[.int .u64 hi, .int .u64 lo, .pointer (some p)] 154)
  have hszA : (w1.alloc (.cells #[.int .u64 hi, .int .u64 lo, .pointer (some p)] 154)).heap.size = w1.heap.size + 1 := by simp
  have hGA := hG.below hbA
  generalize w1.alloc (.cells #[.int .u64 hi, .int .u64 lo, .pointer (some p)] 154) = W at *
  have d1 : W.cell? ⟨gc, 1, none⟩ = some (.string network) := hcA.cell 1
  have b0 : W.cell? ⟨w1.heap.size, 0, none⟩ = some (.int .u64 hi) := hbx.cell 0
  have b1 : W.cell? ⟨w1.heap.size, 1, none⟩ = some (.int .u64 lo) := hbx.cell 1
  have b2 : W.cell? ⟨w1.heap.size, 2, none⟩ = some (.pointer (some p)) := hbx.cell 2
  have hGd : Glob W.drew p4 p6 := hGA.below (below_drewN (Below.refl _ _) 1)
  go_region_held3 (fun w' => w'.cell? ⟨gc, 1, none⟩ = some (.string network) ∧ w'.cell? ⟨w1.heap.size, 0, none⟩ = some (.int .u64 hi) ∧ w'.cell? ⟨w1.heap.size, 1, none⟩ = some (.int .u64 lo) ∧ w'.cell? ⟨w1.heap.size, 2, none⟩ = some (.pointer (some p)))
    (first | exact ⟨d1, b0, b1, b2⟩ | exact ⟨(hb2.cell (by simp only [World.size_drew]; omega)).trans d1, (hb2.cell (by simp only [World.size_drew]; omega)).trans b0, (hb2.cell (by simp only [World.size_drew]; omega)).trans b1, (hb2.cell (by simp only [World.size_drew]; omega)).trans b2⟩)
    (first | (go_at_call 78; refine (netType hn HO.out _ hGd).mono ?_; rintro e w2 ⟨rfl, hb2⟩))
  rename_i hHeld
  clear d1 b0 b1 b2 hHeld
  have hbB : Below W.heap.size W w2 := (below_drewN (Below.refl _ _) 1 : Below W.heap.size W W.drew).trans hb2
  have hc2 := hcA.below hbB hcA.lt
  have hbx2 := hbx.below hbB hbx.lt
  have hsz2 := hbB.size
  have hb02 : Below w.heap.size w w2 := hbA.trans (hbB.mono (by omega))
  have hltc2 := hc2.lt
  clear hc hc1 hcA hbx hbA hGA hGd hb2 hbB hb1
  have c0 : w2.cell? ⟨gc, 0, none⟩ = some (.string ⟨#[]⟩) := hc2.cell 0
  go_wp2_with fail
  clear c0
  have c2 : w2.cell? ⟨gc, 2, none⟩ = some (.string addr) := hc2.cell 2
  have c3 : w2.cell? ⟨gc, 3, none⟩ = some (.int .i64 port) := hc2.cell 3
  have c4 : w2.cell? ⟨gc, 4, none⟩ = some (.int .u16 comp) := hc2.cell 4
  have c5 : w2.cell? ⟨gc, 5, none⟩ = some (.int .u32 prio) := hc2.cell 5
  have c6 : w2.cell? ⟨gc, 6, none⟩ = some (.string found) := hc2.cell 6
  have c7 : w2.cell? ⟨gc, 7, none⟩ = some (.string raddr) := hc2.cell 7
  have c8 : w2.cell? ⟨gc, 8, none⟩ = some (.int .i64 rport) := hc2.cell 8
  have c2d : w2.drew.cell? ⟨gc, 2, none⟩ = some (.string addr) := c2
  have c3d : w2.drew.cell? ⟨gc, 3, none⟩ = some (.int .i64 port) := c3
  have c4d : w2.drew.cell? ⟨gc, 4, none⟩ = some (.int .u16 comp) := c4
  have c5d : w2.drew.cell? ⟨gc, 5, none⟩ = some (.int .u32 prio) := c5
  have c6d : w2.drew.cell? ⟨gc, 6, none⟩ = some (.string found) := c6
  have c7d : w2.drew.cell? ⟨gc, 7, none⟩ = some (.string raddr) := c7
  have c8d : w2.drew.cell? ⟨gc, 8, none⟩ = some (.int .i64 rport) := c8
  have hne : gc ≠ w2.heap.size := by omega
  have c2e : (w2.drew.alloc (.cells #[.string raddr, .int .i64 rport] 124)).cell? ⟨gc, 2, none⟩ = some (.string addr) := (World.cell?_alloc_lt w2.drew _ ⟨gc, 2, none⟩ hltc2).trans c2
  have c2g : ((w2.alloc (.cells #[.string raddr, .int .i64 rport] 124)).drew).cell? ⟨gc, 2, none⟩ = some (.string addr) := (World.cell?_alloc_lt w2 _ ⟨gc, 2, none⟩ hltc2).trans c2
  have c3e : (w2.drew.alloc (.cells #[.string raddr, .int .i64 rport] 124)).cell? ⟨gc, 3, none⟩ = some (.int .i64 port) := (World.cell?_alloc_lt w2.drew _ ⟨gc, 3, none⟩ hltc2).trans c3
  have c3g : ((w2.alloc (.cells #[.string raddr, .int .i64 rport] 124)).drew).cell? ⟨gc, 3, none⟩ = some (.int .i64 port) := (World.cell?_alloc_lt w2 _ ⟨gc, 3, none⟩ hltc2).trans c3
  have c4e : (w2.drew.alloc (.cells #[.string raddr, .int .i64 rport] 124)).cell? ⟨gc, 4, none⟩ = some (.int .u16 comp) := (World.cell?_alloc_lt w2.drew _ ⟨gc, 4, none⟩ hltc2).trans c4
  have c4g : ((w2.alloc (.cells #[.string raddr, .int .i64 rport] 124)).drew).cell? ⟨gc, 4, none⟩ = some (.int .u16 comp) := (World.cell?_alloc_lt w2 _ ⟨gc, 4, none⟩ hltc2).trans c4
  have c5e : (w2.drew.alloc (.cells #[.string raddr, .int .i64 rport] 124)).cell? ⟨gc, 5, none⟩ = some (.int .u32 prio) := (World.cell?_alloc_lt w2.drew _ ⟨gc, 5, none⟩ hltc2).trans c5
  have c5g : ((w2.alloc (.cells #[.string raddr, .int .i64 rport] 124)).drew).cell? ⟨gc, 5, none⟩ = some (.int .u32 prio) := (World.cell?_alloc_lt w2 _ ⟨gc, 5, none⟩ hltc2).trans c5
  have c6e : (w2.drew.alloc (.cells #[.string raddr, .int .i64 rport] 124)).cell? ⟨gc, 6, none⟩ = some (.string found) := (World.cell?_alloc_lt w2.drew _ ⟨gc, 6, none⟩ hltc2).trans c6
  have c6g : ((w2.alloc (.cells #[.string raddr, .int .i64 rport] 124)).drew).cell? ⟨gc, 6, none⟩ = some (.string found) := (World.cell?_alloc_lt w2 _ ⟨gc, 6, none⟩ hltc2).trans c6
  have c7e : (w2.drew.alloc (.cells #[.string raddr, .int .i64 rport] 124)).cell? ⟨gc, 7, none⟩ = some (.string raddr) := (World.cell?_alloc_lt w2.drew _ ⟨gc, 7, none⟩ hltc2).trans c7
  have c7g : ((w2.alloc (.cells #[.string raddr, .int .i64 rport] 124)).drew).cell? ⟨gc, 7, none⟩ = some (.string raddr) := (World.cell?_alloc_lt w2 _ ⟨gc, 7, none⟩ hltc2).trans c7
  have c8e : (w2.drew.alloc (.cells #[.string raddr, .int .i64 rport] 124)).cell? ⟨gc, 8, none⟩ = some (.int .i64 rport) := (World.cell?_alloc_lt w2.drew _ ⟨gc, 8, none⟩ hltc2).trans c8
  have c8g : ((w2.alloc (.cells #[.string raddr, .int .i64 rport] 124)).drew).cell? ⟨gc, 8, none⟩ = some (.int .i64 rport) := (World.cell?_alloc_lt w2 _ ⟨gc, 8, none⟩ hltc2).trans c8
  have c2h : (((w2.alloc (.cells #[.string raddr, .int .i64 rport] 124)).alloc (.cells #[.string ⟨#[]⟩, .int .i64 (netNum tcp six), .int .u8 3, .int .u16 comp, .string addr, .int .i64 port, .pointer (some ⟨w2.heap.size, 0, none⟩), .int .i64 0, .int .u64 0, .int .u64 0, .pointer none, .int .u16 0, .string found, .int .u32 prio, .int .u16 0, .bool false, .slice none 0 0] 163)).drew).cell? ⟨gc, 2, none⟩ = some (.string addr) := (World.cell?_alloc_lt _ _ ⟨gc, 2, none⟩ (by simp; omega)).trans c2g
  have c3h : (((w2.alloc (.cells #[.string raddr, .int .i64 rport] 124)).alloc (.cells #[.string ⟨#[]⟩, .int .i64 (netNum tcp six), .int .u8 3, .int .u16 comp, .string addr, .int .i64 port, .pointer (some ⟨w2.heap.size, 0, none⟩), .int .i64 0, .int .u64 0, .int .u64 0, .pointer none, .int .u16 0, .string found, .int .u32 prio, .int .u16 0, .bool false, .slice none 0 0] 163)).drew).cell? ⟨gc, 3, none⟩ = some (.int .i64 port) := (World.cell?_alloc_lt _ _ ⟨gc, 3, none⟩ (by simp; omega)).trans c3g
  have c4h : (((w2.alloc (.cells #[.string raddr, .int .i64 rport] 124)).alloc (.cells #[.string ⟨#[]⟩, .int .i64 (netNum tcp six), .int .u8 3, .int .u16 comp, .string addr, .int .i64 port, .pointer (some ⟨w2.heap.size, 0, none⟩), .int .i64 0, .int .u64 0, .int .u64 0, .pointer none, .int .u16 0, .string found, .int .u32 prio, .int .u16 0, .bool false, .slice none 0 0] 163)).drew).cell? ⟨gc, 4, none⟩ = some (.int .u16 comp) := (World.cell?_alloc_lt _ _ ⟨gc, 4, none⟩ (by simp; omega)).trans c4g
  have c5h : (((w2.alloc (.cells #[.string raddr, .int .i64 rport] 124)).alloc (.cells #[.string ⟨#[]⟩, .int .i64 (netNum tcp six), .int .u8 3, .int .u16 comp, .string addr, .int .i64 port, .pointer (some ⟨w2.heap.size, 0, none⟩), .int .i64 0, .int .u64 0, .int .u64 0, .pointer none, .int .u16 0, .string found, .int .u32 prio, .int .u16 0, .bool false, .slice none 0 0] 163)).drew).cell? ⟨gc, 5, none⟩ = some (.int .u32 prio) := (World.cell?_alloc_lt _ _ ⟨gc, 5, none⟩ (by simp; omega)).trans c5g
  have c6h : (((w2.alloc (.cells #[.string raddr, .int .i64 rport] 124)).alloc (.cells #[.string ⟨#[]⟩, .int .i64 (netNum tcp six), .int .u8 3, .int .u16 comp, .string addr, .int .i64 port, .pointer (some ⟨w2.heap.size, 0, none⟩), .int .i64 0, .int .u64 0, .int .u64 0, .pointer none, .int .u16 0, .string found, .int .u32 prio, .int .u16 0, .bool false, .slice none 0 0] 163)).drew).cell? ⟨gc, 6, none⟩ = some (.string found) := (World.cell?_alloc_lt _ _ ⟨gc, 6, none⟩ (by simp; omega)).trans c6g
  have c7h : (((w2.alloc (.cells #[.string raddr, .int .i64 rport] 124)).alloc (.cells #[.string ⟨#[]⟩, .int .i64 (netNum tcp six), .int .u8 3, .int .u16 comp, .string addr, .int .i64 port, .pointer (some ⟨w2.heap.size, 0, none⟩), .int .i64 0, .int .u64 0, .int .u64 0, .pointer none, .int .u16 0, .string found, .int .u32 prio, .int .u16 0, .bool false, .slice none 0 0] 163)).drew).cell? ⟨gc, 7, none⟩ = some (.string raddr) := (World.cell?_alloc_lt _ _ ⟨gc, 7, none⟩ (by simp; omega)).trans c7g
  have c8h : (((w2.alloc (.cells #[.string raddr, .int .i64 rport] 124)).alloc (.cells #[.string ⟨#[]⟩, .int .i64 (netNum tcp six), .int .u8 3, .int .u16 comp, .string addr, .int .i64 port, .pointer (some ⟨w2.heap.size, 0, none⟩), .int .i64 0, .int .u64 0, .int .u64 0, .pointer none, .int .u16 0, .string found, .int .u32 prio, .int .u16 0, .bool false, .slice none 0 0] 163)).drew).cell? ⟨gc, 8, none⟩ = some (.int .i64 rport) := (World.cell?_alloc_lt _ _ ⟨gc, 8, none⟩ (by simp; omega)).trans c8g
  go_region_held3 (fun w' => w'.cell? ⟨gc, 2, none⟩ = some (.string addr) ∧ w'.cell? ⟨gc, 3, none⟩ = some (.int .i64 port) ∧ w'.cell? ⟨gc, 4, none⟩ = some (.int .u16 comp) ∧ w'.cell? ⟨gc, 5, none⟩ = some (.int .u32 prio) ∧ w'.cell? ⟨gc, 6, none⟩ = some (.string found) ∧ w'.cell? ⟨gc, 7, none⟩ = some (.string raddr) ∧ w'.cell? ⟨gc, 8, none⟩ = some (.int .i64 rport))
    (first | (with_reducible exact ⟨c2, c3, c4, c5, c6, c7, c8⟩) | (with_reducible exact ⟨c2d, c3d, c4d, c5d, c6d, c7d, c8d⟩) | (with_reducible exact ⟨c2e, c3e, c4e, c5e, c6e, c7e, c8e⟩) | (with_reducible exact ⟨c2g, c3g, c4g, c5g, c6g, c7g, c8g⟩) | (with_reducible exact ⟨c2h, c3h, c4h, c5h, c6h, c7h, c8h⟩))
    (first | fail)
  rename_i hHeld
  clear hHeld c2 c2d c2e c2g c2h c3 c3d c3e c3g c3h c4 c4d c4e c4g c4h c5 c5d c5e c5g c5h c6 c6d c6e c6g c6h c7 c7d c7e c7g c7h c8 c8d c8e c8g c8h
  have rC : Row (((w2.alloc (.cells #[.string raddr, .int .i64 rport] 124)).alloc (.cells #[.string ⟨#[]⟩, .int .i64 (netNum tcp six), .int .u8 3, .int .u16 comp, .string addr, .int .i64 port, .pointer (some ⟨w2.heap.size, 0, none⟩), .int .i64 0, .int .u64 0, .int .u64 0, .pointer none, .int .u16 0, .string found, .int .u32 prio, .int .u16 0, .bool false, .slice none 0 0] 163)).drew) (w2.heap.size + 1) 163 #[.string ⟨#[]⟩, .int .i64 (netNum tcp six), .int .u8 3, .int .u16 comp, .string addr, .int .i64 port, .pointer (some ⟨w2.heap.size, 0, none⟩), .int .i64 0, .int .u64 0, .int .u64 0, .pointer none, .int .u16 0, .string found, .int .u32 prio, .int .u16 0, .bool false, .slice none 0 0] := by
    have h := (Row.new (w2.alloc (.cells #[.string raddr, .int .i64 rport] 124)) 163 #[.string ⟨#[]⟩, .int .i64 (netNum tcp six), .int .u8 3, .int .u16 comp, .string addr, .int .i64 port, .pointer (some ⟨w2.heap.size, 0, none⟩), .int .i64 0, .int .u64 0, .int .u64 0, .pointer none, .int .u16 0, .string found, .int .u32 prio, .int .u16 0, .bool false, .slice none 0 0]).drew
    simpa using h
  have rR : Row (((w2.alloc (.cells #[.string raddr, .int .i64 rport] 124)).alloc (.cells #[.string ⟨#[]⟩, .int .i64 (netNum tcp six), .int .u8 3, .int .u16 comp, .string addr, .int .i64 port, .pointer (some ⟨w2.heap.size, 0, none⟩), .int .i64 0, .int .u64 0, .int .u64 0, .pointer none, .int .u16 0, .string found, .int .u32 prio, .int .u16 0, .bool false, .slice none 0 0] 163)).drew) w2.heap.size 124 #[.string raddr, .int .i64 rport] := ((Row.new _ _ _).alloc _).drew
  have hc3 := ((hc2.alloc (.cells #[.string raddr, .int .i64 rport] 124)).alloc (.cells #[.string ⟨#[]⟩, .int .i64 (netNum tcp six), .int .u8 3, .int .u16 comp, .string addr, .int .i64 port, .pointer (some ⟨w2.heap.size, 0, none⟩), .int .i64 0, .int .u64 0, .int .u64 0, .pointer none, .int .u16 0, .string found, .int .u32 prio, .int .u16 0, .bool false, .slice none 0 0] 163)).drew
  have hbx3 := ((hbx2.alloc (.cells #[.string raddr, .int .i64 rport] 124)).alloc (.cells #[.string ⟨#[]⟩, .int .i64 (netNum tcp six), .int .u8 3, .int .u16 comp, .string addr, .int .i64 port, .pointer (some ⟨w2.heap.size, 0, none⟩), .int .i64 0, .int .u64 0, .int .u64 0, .pointer none, .int .u16 0, .string found, .int .u32 prio, .int .u16 0, .bool false, .slice none 0 0] 163)).drew
  have hbF : Below w.heap.size w (((w2.alloc (.cells #[.string raddr, .int .i64 rport] 124)).alloc (.cells #[.string ⟨#[]⟩, .int .i64 (netNum tcp six), .int .u8 3, .int .u16 comp, .string addr, .int .i64 port, .pointer (some ⟨w2.heap.size, 0, none⟩), .int .i64 0, .int .u64 0, .int .u64 0, .pointer none, .int .u16 0, .string found, .int .u32 prio, .int .u16 0, .bool false, .slice none 0 0] 163)).drew) := ((hb02.alloc hb02.size _).alloc (by simp; have := hb02.size; omega) _).drew
  have hszF : (((w2.alloc (.cells #[.string raddr, .int .i64 rport] 124)).alloc (.cells #[.string ⟨#[]⟩, .int .i64 (netNum tcp six), .int .u8 3, .int .u16 comp, .string addr, .int .i64 port, .pointer (some ⟨w2.heap.size, 0, none⟩), .int .i64 0, .int .u64 0, .int .u64 0, .pointer none, .int .u16 0, .string found, .int .u32 prio, .int .u16 0, .bool false, .slice none 0 0] 163)).drew).heap.size = w2.heap.size + 2 := by simp
  generalize ((w2.alloc (.cells #[.string raddr, .int .i64 rport] 124)).alloc (.cells #[.string ⟨#[]⟩, .int .i64 (netNum tcp six), .int .u8 3, .int .u16 comp, .string addr, .int .i64 port, .pointer (some ⟨w2.heap.size, 0, none⟩), .int .i64 0, .int .u64 0, .int .u64 0, .pointer none, .int .u16 0, .string found, .int .u32 prio, .int .u16 0, .bool false, .slice none 0 0] 163)).drew = V at *
  have hw16 : IntKind.u16.wrap port = port := IntWalk.u16_in _ ⟨h0, h1⟩
  have q3 : V.cell? ⟨gc, 3, none⟩ = some (.int .i64 port) := hc3.cell 3
  have b0 : V.cell? ⟨w1.heap.size, 0, none⟩ = some (.int .u64 hi) := hbx3.cell 0
  have b1 : V.cell? ⟨w1.heap.size, 1, none⟩ = some (.int .u64 lo) := hbx3.cell 1
  have b2 : V.cell? ⟨w1.heap.size, 2, none⟩ = some (.pointer (some p)) := hbx3.cell 2
  have q3d : V.drew.cell? ⟨gc, 3, none⟩ = some (.int .i64 port) := q3
  have b0d : V.drew.cell? ⟨w1.heap.size, 0, none⟩ = some (.int .u64 hi) := b0
  have b1d : V.drew.cell? ⟨w1.heap.size, 1, none⟩ = some (.int .u64 lo) := b1
  have b2d : V.drew.cell? ⟨w1.heap.size, 2, none⟩ = some (.pointer (some p)) := b2
  generalize hgg : w2.heap.size + 1 = g at *
  have hgV : g < V.heap.size := by omega
  have hgcV : gc < V.heap.size := by omega
  have h1V : w1.heap.size < V.heap.size := by omega
  have hne1 : w1.heap.size ≠ g := by omega
  have hne2 : gc ≠ g := by omega
  have q8 : V.cell? ⟨g, 8, none⟩ = some (.int .u64 0) := rC.cell 8
  have q9 : V.cell? ⟨g, 9, none⟩ = some (.int .u64 0) := rC.cell 9
  have q10 : V.cell? ⟨g, 10, none⟩ = some (.pointer none) := rC.cell 10
  have q11 : V.cell? ⟨g, 11, none⟩ = some (.int .u16 0) := rC.cell 11
  have f8 := rC.free 8
  have f9 := rC.free 9
  have f10 := rC.free 10
  have f11 := rC.free 11
  go_wp2_with fail
  go_region_held3 (fun w' => w'.cell? ⟨gc, 3, none⟩ = some (.int .i64 port) ∧ w'.cell? ⟨w1.heap.size, 0, none⟩ = some (.int .u64 hi) ∧ w'.cell? ⟨w1.heap.size, 1, none⟩ = some (.int .u64 lo) ∧ w'.cell? ⟨w1.heap.size, 2, none⟩ = some (.pointer (some p)))
    (first | (with_reducible exact ⟨q3, b0, b1, b2⟩) | (with_reducible exact ⟨q3d, b0d, b1d, b2d⟩) | (with_reducible exact ⟨k5, k0, k1, k2⟩) | exact ⟨cell_far (cell_far (cell_far (cell_far k5 hne2 _ _) hne2 _ _) hne2 _ _) hne2 _ _, cell_far (cell_far (cell_far (cell_far k0 hne1 _ _) hne1 _ _) hne1 _ _) hne1 _ _, cell_far (cell_far (cell_far (cell_far k1 hne1 _ _) hne1 _ _) hne1 _ _) hne1 _ _, cell_far (cell_far (cell_far (cell_far k2 hne1 _ _) hne1 _ _) hne1 _ _) hne1 _ _⟩)
    (first | (go_at_call 79; refine (addrPortFrom hi lo p port _).mono ?_; rintro e w3 ⟨rfl, hb1⟩; have d8 : w3.cell? ⟨g, 8, none⟩ = some (.int .u64 0) := (hb1.cell (by simp only [World.size_drew]; omega)).trans q8; have e8 : w3.frozen? ⟨g, 8, none⟩ = false := (hb1.frozen (by simp only [World.size_drew]; omega)).trans f8; have d9 : w3.cell? ⟨g, 9, none⟩ = some (.int .u64 0) := (hb1.cell (by simp only [World.size_drew]; omega)).trans q9; have e9 : w3.frozen? ⟨g, 9, none⟩ = false := (hb1.frozen (by simp only [World.size_drew]; omega)).trans f9; have d10 : w3.cell? ⟨g, 10, none⟩ = some (.pointer none) := (hb1.cell (by simp only [World.size_drew]; omega)).trans q10; have e10 : w3.frozen? ⟨g, 10, none⟩ = false := (hb1.frozen (by simp only [World.size_drew]; omega)).trans f10; have d11 : w3.cell? ⟨g, 11, none⟩ = some (.int .u16 0) := (hb1.cell (by simp only [World.size_drew]; omega)).trans q11; have e11 : w3.frozen? ⟨g, 11, none⟩ = false := (hb1.frozen (by simp only [World.size_drew]; omega)).trans f11; have k5 : w3.cell? ⟨gc, 3, none⟩ = some (.int .i64 port) := (hb1.cell (by simp only [World.size_drew]; omega)).trans q3; have k0 : w3.cell? ⟨w1.heap.size, 0, none⟩ = some (.int .u64 hi) := (hb1.cell (by simp only [World.size_drew]; omega)).trans b0; have k1 : w3.cell? ⟨w1.heap.size, 1, none⟩ = some (.int .u64 lo) := (hb1.cell (by simp only [World.size_drew]; omega)).trans b1; have k2 : w3.cell? ⟨w1.heap.size, 2, none⟩ = some (.pointer (some p)) := (hb1.cell (by simp only [World.size_drew]; omega)).trans b2; simp only [addrPortV]))
  have hb3 : Below V.heap.size V w3 := (below_drewN (Below.refl _ _) 1 : Below V.heap.size V V.drew).trans hb1
  have hrow := ((((rC.below hb3 hgV).set 8 (.int .u64 hi)).set 9 (.int .u64 lo)).set 10 (.pointer (some p))).set 11 (.int .u16 port)
  have hR3 : Row w3 w2.heap.size 124 #[.string raddr, .int .i64 rport] := rR.below hb3 rR.lt
  have hrel := (((hR3.far (p := ⟨g, 8, none⟩) (by simp only; omega) (.int .u64 hi)).far (p := ⟨g, 9, none⟩) (by simp only; omega) (.int .u64 lo)).far (p := ⟨g, 10, none⟩) (by simp only; omega) (.pointer (some p))).far (p := ⟨g, 11, none⟩) (by simp only; omega) (.int .u16 port)
  have hgw : w.heap.size ≤ g := by have := hb02.size; omega
  have hfin := below_st (below_st (below_st (below_st (hbF.trans (hb3.mono hbF.size)) hgw 8 (.int .u64 hi)) hgw 9 (.int .u64 lo)) hgw 10 (.pointer (some p))) hgw 11 (.int .u16 port)
  have HROW := Lib.hid hrow
  have HREL := Lib.hid hrel
  have HFIN := Lib.hid hfin
  have hgr : w.heap.size ≤ w2.heap.size := hb02.size
  rename_i hHeld
  clear hHeld q3 q8 q9 q10 q11 f8 f9 f10 f11 b0 b1 b2 d8 d9 d10 d11 e8 e9 e10 e11 k5 k0 k1 k2 q3d b0d b1d b2d hrow hrel hfin hR3 rC rR hc3 hbx3 hbF hb1 hb3
  go_wp2_with fail
  go_ret2
  exact ⟨g, w2.heap.size, rfl, HFIN.out, hgw, hgr, by omega, ⟨hi, lo, p, port, [], HROW.out⟩, HREL.out⟩
end Go.Proofs.YtmfdbcfpcifmcaaGreatDoor

namespace Go.Proofs.YtmfdbcfpcifmcaaGreatDoor
open Go.RowKit

set_option maxRecDepth 100000 in
set_option maxHeartbeats 2000000 in
theorem newRelay {tcp six : Bool} {network addr : ByteArray} (hn : netName tcp network) (ha : addrText six addr) (hs : addr.size ≤ maxLen) (port comp prio rport : Int) (found raddr : ByteArray) (h0 : 0 ≤ port) (h1 : port ≤ 65535)
    (gc : Nat) (w : World) (p4 p6 : Addr) (hG : Glob w p4 p6)
    (hc : Row w gc 113 #[.string ⟨#[]⟩, .string network, .string addr, .int .i64 port, .int .u16 comp, .int .u32 prio, .string found, .string raddr, .int .i64 rport, .string ⟨#[]⟩]) :
    Calls Tryz.prog 59 #[.pointer (some ⟨gc, 0, none⟩)] w fun e w' => NewCand 4 { typ := 4, net := netNum tcp six, comp := comp, port := port, tcp := 0, prio := prio, relay := 3, addr := addr, found := found, exts := .slice none 0 0 } raddr rport w e w' := by
  have c0 : w.cell? ⟨gc, 0, none⟩ = some (.string ⟨#[]⟩) := hc.cell 0
  have c2 : w.cell? ⟨gc, 2, none⟩ = some (.string addr) := hc.cell 2
  have hlt := hc.lt
  go_enter Tryz.func59, Tryz.ntmps59
  go_wp2_with fail
  refine (parseAddr_ok ha hs _ p4 p6 hG).mono ?_
  rintro e w1 ⟨⟨hi, lo, p, rfl, ho⟩, hb1⟩
  have hc1 := hc.below hb1 hlt
  have hlt1 : gc < w1.heap.size := hc1.lt
  have hsz1 := hb1.size
  have HO := Lib.hid ho
  clear ho c0 c2
  simp only [addrV]
  go_wp2_with fail
  have hbx : Row (w1.alloc (.cells #[.int .u64 hi, .int .u64 lo, .pointer (some p)] 154)) w1.heap.size 154 #[.int .u64 hi, .int .u64 lo, .pointer (some p)] := Row.new _ _ _
  have hbA : Below w.heap.size w (w1.alloc (.cells #[.int .u64 hi, .int .u64 lo, .pointer (some p)] 154)) := below_al hb1 (Nat.le_refl _) _
  have hcA := hc1.alloc (.cells #[.int .u64 hi, .int .u64 lo, .pointer (some p)] 154)
  have hszA : (w1.alloc (.cells #[.int .u64 hi, .int .u64 lo, .pointer (some p)] 154)).heap.size = w1.heap.size + 1 := by simp
  have hGA := hG.below hbA
  generalize w1.alloc (.cells #[.int .u64 hi, .int .u64 lo, .pointer (some p)] 154) = W at *
  have d1 : W.cell? ⟨gc, 1, none⟩ = some (.string network) := hcA.cell 1
  have b0 : W.cell? ⟨w1.heap.size, 0, none⟩ = some (.int .u64 hi) := hbx.cell 0
  have b1 : W.cell? ⟨w1.heap.size, 1, none⟩ = some (.int .u64 lo) := hbx.cell 1
  have b2 : W.cell? ⟨w1.heap.size, 2, none⟩ = some (.pointer (some p)) := hbx.cell 2
  have hGd : Glob W.drew p4 p6 := hGA.below (below_drewN (Below.refl _ _) 1)
  go_region_held3 (fun w' => w'.cell? ⟨gc, 1, none⟩ = some (.string network) ∧ w'.cell? ⟨w1.heap.size, 0, none⟩ = some (.int .u64 hi) ∧ w'.cell? ⟨w1.heap.size, 1, none⟩ = some (.int .u64 lo) ∧ w'.cell? ⟨w1.heap.size, 2, none⟩ = some (.pointer (some p)))
    (first | exact ⟨d1, b0, b1, b2⟩ | exact ⟨(hb2.cell (by simp only [World.size_drew]; omega)).trans d1, (hb2.cell (by simp only [World.size_drew]; omega)).trans b0, (hb2.cell (by simp only [World.size_drew]; omega)).trans b1, (hb2.cell (by simp only [World.size_drew]; omega)).trans b2⟩)
    (first | (go_at_call 78; refine (netType hn HO.out _ hGd).mono ?_; rintro e w2 ⟨rfl, hb2⟩))
  rename_i hHeld
  clear d1 b0 b1 b2 hHeld
  have hbB : Below W.heap.size W w2 := (below_drewN (Below.refl _ _) 1 : Below W.heap.size W W.drew).trans hb2
  have hc2 := hcA.below hbB hcA.lt
  have hbx2 := hbx.below hbB hbx.lt
  have hsz2 := hbB.size
  have hb02 : Below w.heap.size w w2 := hbA.trans (hbB.mono (by omega))
  have hltc2 := hc2.lt
  clear hc hc1 hcA hbx hbA hGA hGd hb2 hbB hb1
  have c0 : w2.cell? ⟨gc, 0, none⟩ = some (.string ⟨#[]⟩) := hc2.cell 0
  go_wp2_with fail
  clear c0
  have c2 : w2.cell? ⟨gc, 2, none⟩ = some (.string addr) := hc2.cell 2
  have c3 : w2.cell? ⟨gc, 3, none⟩ = some (.int .i64 port) := hc2.cell 3
  have c4 : w2.cell? ⟨gc, 4, none⟩ = some (.int .u16 comp) := hc2.cell 4
  have c5 : w2.cell? ⟨gc, 5, none⟩ = some (.int .u32 prio) := hc2.cell 5
  have c6 : w2.cell? ⟨gc, 6, none⟩ = some (.string found) := hc2.cell 6
  have c7 : w2.cell? ⟨gc, 7, none⟩ = some (.string raddr) := hc2.cell 7
  have c8 : w2.cell? ⟨gc, 8, none⟩ = some (.int .i64 rport) := hc2.cell 8
  have c9 : w2.cell? ⟨gc, 9, none⟩ = some (.string ⟨#[]⟩) := hc2.cell 9
  have c2d : w2.drew.cell? ⟨gc, 2, none⟩ = some (.string addr) := c2
  have c3d : w2.drew.cell? ⟨gc, 3, none⟩ = some (.int .i64 port) := c3
  have c4d : w2.drew.cell? ⟨gc, 4, none⟩ = some (.int .u16 comp) := c4
  have c5d : w2.drew.cell? ⟨gc, 5, none⟩ = some (.int .u32 prio) := c5
  have c6d : w2.drew.cell? ⟨gc, 6, none⟩ = some (.string found) := c6
  have c7d : w2.drew.cell? ⟨gc, 7, none⟩ = some (.string raddr) := c7
  have c8d : w2.drew.cell? ⟨gc, 8, none⟩ = some (.int .i64 rport) := c8
  have c9d : w2.drew.cell? ⟨gc, 9, none⟩ = some (.string ⟨#[]⟩) := c9
  have hne : gc ≠ w2.heap.size := by omega
  have c2e : (w2.drew.alloc (.cells #[.string raddr, .int .i64 rport] 124)).cell? ⟨gc, 2, none⟩ = some (.string addr) := (World.cell?_alloc_lt w2.drew _ ⟨gc, 2, none⟩ hltc2).trans c2
  have c2g : ((w2.alloc (.cells #[.string raddr, .int .i64 rport] 124)).drew).cell? ⟨gc, 2, none⟩ = some (.string addr) := (World.cell?_alloc_lt w2 _ ⟨gc, 2, none⟩ hltc2).trans c2
  have c3e : (w2.drew.alloc (.cells #[.string raddr, .int .i64 rport] 124)).cell? ⟨gc, 3, none⟩ = some (.int .i64 port) := (World.cell?_alloc_lt w2.drew _ ⟨gc, 3, none⟩ hltc2).trans c3
  have c3g : ((w2.alloc (.cells #[.string raddr, .int .i64 rport] 124)).drew).cell? ⟨gc, 3, none⟩ = some (.int .i64 port) := (World.cell?_alloc_lt w2 _ ⟨gc, 3, none⟩ hltc2).trans c3
  have c4e : (w2.drew.alloc (.cells #[.string raddr, .int .i64 rport] 124)).cell? ⟨gc, 4, none⟩ = some (.int .u16 comp) := (World.cell?_alloc_lt w2.drew _ ⟨gc, 4, none⟩ hltc2).trans c4
  have c4g : ((w2.alloc (.cells #[.string raddr, .int .i64 rport] 124)).drew).cell? ⟨gc, 4, none⟩ = some (.int .u16 comp) := (World.cell?_alloc_lt w2 _ ⟨gc, 4, none⟩ hltc2).trans c4
  have c5e : (w2.drew.alloc (.cells #[.string raddr, .int .i64 rport] 124)).cell? ⟨gc, 5, none⟩ = some (.int .u32 prio) := (World.cell?_alloc_lt w2.drew _ ⟨gc, 5, none⟩ hltc2).trans c5
  have c5g : ((w2.alloc (.cells #[.string raddr, .int .i64 rport] 124)).drew).cell? ⟨gc, 5, none⟩ = some (.int .u32 prio) := (World.cell?_alloc_lt w2 _ ⟨gc, 5, none⟩ hltc2).trans c5
  have c6e : (w2.drew.alloc (.cells #[.string raddr, .int .i64 rport] 124)).cell? ⟨gc, 6, none⟩ = some (.string found) := (World.cell?_alloc_lt w2.drew _ ⟨gc, 6, none⟩ hltc2).trans c6
  have c6g : ((w2.alloc (.cells #[.string raddr, .int .i64 rport] 124)).drew).cell? ⟨gc, 6, none⟩ = some (.string found) := (World.cell?_alloc_lt w2 _ ⟨gc, 6, none⟩ hltc2).trans c6
  have c7e : (w2.drew.alloc (.cells #[.string raddr, .int .i64 rport] 124)).cell? ⟨gc, 7, none⟩ = some (.string raddr) := (World.cell?_alloc_lt w2.drew _ ⟨gc, 7, none⟩ hltc2).trans c7
  have c7g : ((w2.alloc (.cells #[.string raddr, .int .i64 rport] 124)).drew).cell? ⟨gc, 7, none⟩ = some (.string raddr) := (World.cell?_alloc_lt w2 _ ⟨gc, 7, none⟩ hltc2).trans c7
  have c8e : (w2.drew.alloc (.cells #[.string raddr, .int .i64 rport] 124)).cell? ⟨gc, 8, none⟩ = some (.int .i64 rport) := (World.cell?_alloc_lt w2.drew _ ⟨gc, 8, none⟩ hltc2).trans c8
  have c8g : ((w2.alloc (.cells #[.string raddr, .int .i64 rport] 124)).drew).cell? ⟨gc, 8, none⟩ = some (.int .i64 rport) := (World.cell?_alloc_lt w2 _ ⟨gc, 8, none⟩ hltc2).trans c8
  have c9e : (w2.drew.alloc (.cells #[.string raddr, .int .i64 rport] 124)).cell? ⟨gc, 9, none⟩ = some (.string ⟨#[]⟩) := (World.cell?_alloc_lt w2.drew _ ⟨gc, 9, none⟩ hltc2).trans c9
  have c9g : ((w2.alloc (.cells #[.string raddr, .int .i64 rport] 124)).drew).cell? ⟨gc, 9, none⟩ = some (.string ⟨#[]⟩) := (World.cell?_alloc_lt w2 _ ⟨gc, 9, none⟩ hltc2).trans c9
  have c2h : (((w2.alloc (.cells #[.string raddr, .int .i64 rport] 124)).alloc (.cells #[.string ⟨#[]⟩, .int .i64 (netNum tcp six), .int .u8 4, .int .u16 comp, .string addr, .int .i64 port, .pointer (some ⟨w2.heap.size, 0, none⟩), .int .i64 0, .int .u64 0, .int .u64 0, .pointer none, .int .u16 0, .string found, .int .u32 prio, .int .u16 3, .bool false, .slice none 0 0, .string ⟨#[]⟩] 165)).drew).cell? ⟨gc, 2, none⟩ = some (.string addr) := (World.cell?_alloc_lt _ _ ⟨gc, 2, none⟩ (by simp; omega)).trans c2g
  have c3h : (((w2.alloc (.cells #[.string raddr, .int .i64 rport] 124)).alloc (.cells #[.string ⟨#[]⟩, .int .i64 (netNum tcp six), .int .u8 4, .int .u16 comp, .string addr, .int .i64 port, .pointer (some ⟨w2.heap.size, 0, none⟩), .int .i64 0, .int .u64 0, .int .u64 0, .pointer none, .int .u16 0, .string found, .int .u32 prio, .int .u16 3, .bool false, .slice none 0 0, .string ⟨#[]⟩] 165)).drew).cell? ⟨gc, 3, none⟩ = some (.int .i64 port) := (World.cell?_alloc_lt _ _ ⟨gc, 3, none⟩ (by simp; omega)).trans c3g
  have c4h : (((w2.alloc (.cells #[.string raddr, .int .i64 rport] 124)).alloc (.cells #[.string ⟨#[]⟩, .int .i64 (netNum tcp six), .int .u8 4, .int .u16 comp, .string addr, .int .i64 port, .pointer (some ⟨w2.heap.size, 0, none⟩), .int .i64 0, .int .u64 0, .int .u64 0, .pointer none, .int .u16 0, .string found, .int .u32 prio, .int .u16 3, .bool false, .slice none 0 0, .string ⟨#[]⟩] 165)).drew).cell? ⟨gc, 4, none⟩ = some (.int .u16 comp) := (World.cell?_alloc_lt _ _ ⟨gc, 4, none⟩ (by simp; omega)).trans c4g
  have c5h : (((w2.alloc (.cells #[.string raddr, .int .i64 rport] 124)).alloc (.cells #[.string ⟨#[]⟩, .int .i64 (netNum tcp six), .int .u8 4, .int .u16 comp, .string addr, .int .i64 port, .pointer (some ⟨w2.heap.size, 0, none⟩), .int .i64 0, .int .u64 0, .int .u64 0, .pointer none, .int .u16 0, .string found, .int .u32 prio, .int .u16 3, .bool false, .slice none 0 0, .string ⟨#[]⟩] 165)).drew).cell? ⟨gc, 5, none⟩ = some (.int .u32 prio) := (World.cell?_alloc_lt _ _ ⟨gc, 5, none⟩ (by simp; omega)).trans c5g
  have c6h : (((w2.alloc (.cells #[.string raddr, .int .i64 rport] 124)).alloc (.cells #[.string ⟨#[]⟩, .int .i64 (netNum tcp six), .int .u8 4, .int .u16 comp, .string addr, .int .i64 port, .pointer (some ⟨w2.heap.size, 0, none⟩), .int .i64 0, .int .u64 0, .int .u64 0, .pointer none, .int .u16 0, .string found, .int .u32 prio, .int .u16 3, .bool false, .slice none 0 0, .string ⟨#[]⟩] 165)).drew).cell? ⟨gc, 6, none⟩ = some (.string found) := (World.cell?_alloc_lt _ _ ⟨gc, 6, none⟩ (by simp; omega)).trans c6g
  have c7h : (((w2.alloc (.cells #[.string raddr, .int .i64 rport] 124)).alloc (.cells #[.string ⟨#[]⟩, .int .i64 (netNum tcp six), .int .u8 4, .int .u16 comp, .string addr, .int .i64 port, .pointer (some ⟨w2.heap.size, 0, none⟩), .int .i64 0, .int .u64 0, .int .u64 0, .pointer none, .int .u16 0, .string found, .int .u32 prio, .int .u16 3, .bool false, .slice none 0 0, .string ⟨#[]⟩] 165)).drew).cell? ⟨gc, 7, none⟩ = some (.string raddr) := (World.cell?_alloc_lt _ _ ⟨gc, 7, none⟩ (by simp; omega)).trans c7g
  have c8h : (((w2.alloc (.cells #[.string raddr, .int .i64 rport] 124)).alloc (.cells #[.string ⟨#[]⟩, .int .i64 (netNum tcp six), .int .u8 4, .int .u16 comp, .string addr, .int .i64 port, .pointer (some ⟨w2.heap.size, 0, none⟩), .int .i64 0, .int .u64 0, .int .u64 0, .pointer none, .int .u16 0, .string found, .int .u32 prio, .int .u16 3, .bool false, .slice none 0 0, .string ⟨#[]⟩] 165)).drew).cell? ⟨gc, 8, none⟩ = some (.int .i64 rport) := (World.cell?_alloc_lt _ _ ⟨gc, 8, none⟩ (by simp; omega)).trans c8g
  have c9h : (((w2.alloc (.cells #[.string raddr, .int .i64 rport] 124)).alloc (.cells #[.string ⟨#[]⟩, .int .i64 (netNum tcp six), .int .u8 4, .int .u16 comp, .string addr, .int .i64 port, .pointer (some ⟨w2.heap.size, 0, none⟩), .int .i64 0, .int .u64 0, .int .u64 0, .pointer none, .int .u16 0, .string found, .int .u32 prio, .int .u16 3, .bool false, .slice none 0 0, .string ⟨#[]⟩] 165)).drew).cell? ⟨gc, 9, none⟩ = some (.string ⟨#[]⟩) := (World.cell?_alloc_lt _ _ ⟨gc, 9, none⟩ (by simp; omega)).trans c9g
  go_region_held3 (fun w' => w'.cell? ⟨gc, 2, none⟩ = some (.string addr) ∧ w'.cell? ⟨gc, 3, none⟩ = some (.int .i64 port) ∧ w'.cell? ⟨gc, 4, none⟩ = some (.int .u16 comp) ∧ w'.cell? ⟨gc, 5, none⟩ = some (.int .u32 prio) ∧ w'.cell? ⟨gc, 6, none⟩ = some (.string found) ∧ w'.cell? ⟨gc, 7, none⟩ = some (.string raddr) ∧ w'.cell? ⟨gc, 8, none⟩ = some (.int .i64 rport) ∧ w'.cell? ⟨gc, 9, none⟩ = some (.string ⟨#[]⟩))
    (first | (with_reducible exact ⟨c2, c3, c4, c5, c6, c7, c8, c9⟩) | (with_reducible exact ⟨c2d, c3d, c4d, c5d, c6d, c7d, c8d, c9d⟩) | (with_reducible exact ⟨c2e, c3e, c4e, c5e, c6e, c7e, c8e, c9e⟩) | (with_reducible exact ⟨c2g, c3g, c4g, c5g, c6g, c7g, c8g, c9g⟩) | (with_reducible exact ⟨c2h, c3h, c4h, c5h, c6h, c7h, c8h, c9h⟩))
    (first | (go_at_call 80; refine (relayPref _).mono ?_; rintro e w' ⟨rfl, rfl⟩))
  all_goals
    rename_i hHeld
    clear hHeld c2 c2d c2e c2g c2h c3 c3d c3e c3g c3h c4 c4d c4e c4g c4h c5 c5d c5e c5g c5h c6 c6d c6e c6g c6h c7 c7d c7e c7g c7h c8 c8d c8e c8g c8h c9 c9d c9e c9g c9h
    have rC : Row (((w2.alloc (.cells #[.string raddr, .int .i64 rport] 124)).alloc (.cells #[.string ⟨#[]⟩, .int .i64 (netNum tcp six), .int .u8 4, .int .u16 comp, .string addr, .int .i64 port, .pointer (some ⟨w2.heap.size, 0, none⟩), .int .i64 0, .int .u64 0, .int .u64 0, .pointer none, .int .u16 0, .string found, .int .u32 prio, .int .u16 3, .bool false, .slice none 0 0, .string ⟨#[]⟩] 165)).drew) (w2.heap.size + 1) 165 #[.string ⟨#[]⟩, .int .i64 (netNum tcp six), .int .u8 4, .int .u16 comp, .string addr, .int .i64 port, .pointer (some ⟨w2.heap.size, 0, none⟩), .int .i64 0, .int .u64 0, .int .u64 0, .pointer none, .int .u16 0, .string found, .int .u32 prio, .int .u16 3, .bool false, .slice none 0 0, .string ⟨#[]⟩] := by
      have h := (Row.new (w2.alloc (.cells #[.string raddr, .int .i64 rport] 124)) 165 #[.string ⟨#[]⟩, .int .i64 (netNum tcp six), .int .u8 4, .int .u16 comp, .string addr, .int .i64 port, .pointer (some ⟨w2.heap.size, 0, none⟩), .int .i64 0, .int .u64 0, .int .u64 0, .pointer none, .int .u16 0, .string found, .int .u32 prio, .int .u16 3, .bool false, .slice none 0 0, .string ⟨#[]⟩]).drew
      simpa using h
    have rR : Row (((w2.alloc (.cells #[.string raddr, .int .i64 rport] 124)).alloc (.cells #[.string ⟨#[]⟩, .int .i64 (netNum tcp six), .int .u8 4, .int .u16 comp, .string addr, .int .i64 port, .pointer (some ⟨w2.heap.size, 0, none⟩), .int .i64 0, .int .u64 0, .int .u64 0, .pointer none, .int .u16 0, .string found, .int .u32 prio, .int .u16 3, .bool false, .slice none 0 0, .string ⟨#[]⟩] 165)).drew) w2.heap.size 124 #[.string raddr, .int .i64 rport] := ((Row.new _ _ _).alloc _).drew
    have hc3 := ((hc2.alloc (.cells #[.string raddr, .int .i64 rport] 124)).alloc (.cells #[.string ⟨#[]⟩, .int .i64 (netNum tcp six), .int .u8 4, .int .u16 comp, .string addr, .int .i64 port, .pointer (some ⟨w2.heap.size, 0, none⟩), .int .i64 0, .int .u64 0, .int .u64 0, .pointer none, .int .u16 0, .string found, .int .u32 prio, .int .u16 3, .bool false, .slice none 0 0, .string ⟨#[]⟩] 165)).drew
    have hbx3 := ((hbx2.alloc (.cells #[.string raddr, .int .i64 rport] 124)).alloc (.cells #[.string ⟨#[]⟩, .int .i64 (netNum tcp six), .int .u8 4, .int .u16 comp, .string addr, .int .i64 port, .pointer (some ⟨w2.heap.size, 0, none⟩), .int .i64 0, .int .u64 0, .int .u64 0, .pointer none, .int .u16 0, .string found, .int .u32 prio, .int .u16 3, .bool false, .slice none 0 0, .string ⟨#[]⟩] 165)).drew
    have hbF : Below w.heap.size w (((w2.alloc (.cells #[.string raddr, .int .i64 rport] 124)).alloc (.cells #[.string ⟨#[]⟩, .int .i64 (netNum tcp six), .int .u8 4, .int .u16 comp, .string addr, .int .i64 port, .pointer (some ⟨w2.heap.size, 0, none⟩), .int .i64 0, .int .u64 0, .int .u64 0, .pointer none, .int .u16 0, .string found, .int .u32 prio, .int .u16 3, .bool false, .slice none 0 0, .string ⟨#[]⟩] 165)).drew) := ((hb02.alloc hb02.size _).alloc (by simp; have := hb02.size; omega) _).drew
    have hszF : (((w2.alloc (.cells #[.string raddr, .int .i64 rport] 124)).alloc (.cells #[.string ⟨#[]⟩, .int .i64 (netNum tcp six), .int .u8 4, .int .u16 comp, .string addr, .int .i64 port, .pointer (some ⟨w2.heap.size, 0, none⟩), .int .i64 0, .int .u64 0, .int .u64 0, .pointer none, .int .u16 0, .string found, .int .u32 prio, .int .u16 3, .bool false, .slice none 0 0, .string ⟨#[]⟩] 165)).drew).heap.size = w2.heap.size + 2 := by simp
    generalize ((w2.alloc (.cells #[.string raddr, .int .i64 rport] 124)).alloc (.cells #[.string ⟨#[]⟩, .int .i64 (netNum tcp six), .int .u8 4, .int .u16 comp, .string addr, .int .i64 port, .pointer (some ⟨w2.heap.size, 0, none⟩), .int .i64 0, .int .u64 0, .int .u64 0, .pointer none, .int .u16 0, .string found, .int .u32 prio, .int .u16 3, .bool false, .slice none 0 0, .string ⟨#[]⟩] 165)).drew = V at *
    have hw16 : IntKind.u16.wrap port = port := IntWalk.u16_in _ ⟨h0, h1⟩
    have q3 : V.cell? ⟨gc, 3, none⟩ = some (.int .i64 port) := hc3.cell 3
    have b0 : V.cell? ⟨w1.heap.size, 0, none⟩ = some (.int .u64 hi) := hbx3.cell 0
    have b1 : V.cell? ⟨w1.heap.size, 1, none⟩ = some (.int .u64 lo) := hbx3.cell 1
    have b2 : V.cell? ⟨w1.heap.size, 2, none⟩ = some (.pointer (some p)) := hbx3.cell 2
    have q3d : V.drew.cell? ⟨gc, 3, none⟩ = some (.int .i64 port) := q3
    have b0d : V.drew.cell? ⟨w1.heap.size, 0, none⟩ = some (.int .u64 hi) := b0
    have b1d : V.drew.cell? ⟨w1.heap.size, 1, none⟩ = some (.int .u64 lo) := b1
    have b2d : V.drew.cell? ⟨w1.heap.size, 2, none⟩ = some (.pointer (some p)) := b2
    generalize hgg : w2.heap.size + 1 = g at *
    have hgV : g < V.heap.size := by omega
    have hgcV : gc < V.heap.size := by omega
    have h1V : w1.heap.size < V.heap.size := by omega
    have hne1 : w1.heap.size ≠ g := by omega
    have hne2 : gc ≠ g := by omega
    have q8 : V.cell? ⟨g, 8, none⟩ = some (.int .u64 0) := rC.cell 8
    have q9 : V.cell? ⟨g, 9, none⟩ = some (.int .u64 0) := rC.cell 9
    have q10 : V.cell? ⟨g, 10, none⟩ = some (.pointer none) := rC.cell 10
    have q11 : V.cell? ⟨g, 11, none⟩ = some (.int .u16 0) := rC.cell 11
    have f8 := rC.free 8
    have f9 := rC.free 9
    have f10 := rC.free 10
    have f11 := rC.free 11
    go_wp2_with fail
    go_region_held3 (fun w' => w'.cell? ⟨gc, 3, none⟩ = some (.int .i64 port) ∧ w'.cell? ⟨w1.heap.size, 0, none⟩ = some (.int .u64 hi) ∧ w'.cell? ⟨w1.heap.size, 1, none⟩ = some (.int .u64 lo) ∧ w'.cell? ⟨w1.heap.size, 2, none⟩ = some (.pointer (some p)))
      (first | (with_reducible exact ⟨q3, b0, b1, b2⟩) | (with_reducible exact ⟨q3d, b0d, b1d, b2d⟩) | (with_reducible exact ⟨k5, k0, k1, k2⟩) | exact ⟨cell_far (cell_far (cell_far (cell_far k5 hne2 _ _) hne2 _ _) hne2 _ _) hne2 _ _, cell_far (cell_far (cell_far (cell_far k0 hne1 _ _) hne1 _ _) hne1 _ _) hne1 _ _, cell_far (cell_far (cell_far (cell_far k1 hne1 _ _) hne1 _ _) hne1 _ _) hne1 _ _, cell_far (cell_far (cell_far (cell_far k2 hne1 _ _) hne1 _ _) hne1 _ _) hne1 _ _⟩)
      (first | (go_at_call 79; refine (addrPortFrom hi lo p port _).mono ?_; rintro e w3 ⟨rfl, hb1⟩; have d8 : w3.cell? ⟨g, 8, none⟩ = some (.int .u64 0) := (hb1.cell (by simp only [World.size_drew]; omega)).trans q8; have e8 : w3.frozen? ⟨g, 8, none⟩ = false := (hb1.frozen (by simp only [World.size_drew]; omega)).trans f8; have d9 : w3.cell? ⟨g, 9, none⟩ = some (.int .u64 0) := (hb1.cell (by simp only [World.size_drew]; omega)).trans q9; have e9 : w3.frozen? ⟨g, 9, none⟩ = false := (hb1.frozen (by simp only [World.size_drew]; omega)).trans f9; have d10 : w3.cell? ⟨g, 10, none⟩ = some (.pointer none) := (hb1.cell (by simp only [World.size_drew]; omega)).trans q10; have e10 : w3.frozen? ⟨g, 10, none⟩ = false := (hb1.frozen (by simp only [World.size_drew]; omega)).trans f10; have d11 : w3.cell? ⟨g, 11, none⟩ = some (.int .u16 0) := (hb1.cell (by simp only [World.size_drew]; omega)).trans q11; have e11 : w3.frozen? ⟨g, 11, none⟩ = false := (hb1.frozen (by simp only [World.size_drew]; omega)).trans f11; have k5 : w3.cell? ⟨gc, 3, none⟩ = some (.int .i64 port) := (hb1.cell (by simp only [World.size_drew]; omega)).trans q3; have k0 : w3.cell? ⟨w1.heap.size, 0, none⟩ = some (.int .u64 hi) := (hb1.cell (by simp only [World.size_drew]; omega)).trans b0; have k1 : w3.cell? ⟨w1.heap.size, 1, none⟩ = some (.int .u64 lo) := (hb1.cell (by simp only [World.size_drew]; omega)).trans b1; have k2 : w3.cell? ⟨w1.heap.size, 2, none⟩ = some (.pointer (some p)) := (hb1.cell (by simp only [World.size_drew]; omega)).trans b2; simp only [addrPortV]))
    have hb3 : Below V.heap.size V w3 := (below_drewN (Below.refl _ _) 1 : Below V.heap.size V V.drew).trans hb1
    have hrow := ((((rC.below hb3 hgV).set 8 (.int .u64 hi)).set 9 (.int .u64 lo)).set 10 (.pointer (some p))).set 11 (.int .u16 port)
    have hR3 : Row w3 w2.heap.size 124 #[.string raddr, .int .i64 rport] := rR.below hb3 rR.lt
    have hrel := (((hR3.far (p := ⟨g, 8, none⟩) (by simp only; omega) (.int .u64 hi)).far (p := ⟨g, 9, none⟩) (by simp only; omega) (.int .u64 lo)).far (p := ⟨g, 10, none⟩) (by simp only; omega) (.pointer (some p))).far (p := ⟨g, 11, none⟩) (by simp only; omega) (.int .u16 port)
    have hgw : w.heap.size ≤ g := by have := hb02.size; omega
    have hfin := below_st (below_st (below_st (below_st (hbF.trans (hb3.mono hbF.size)) hgw 8 (.int .u64 hi)) hgw 9 (.int .u64 lo)) hgw 10 (.pointer (some p))) hgw 11 (.int .u16 port)
    have HROW := Lib.hid hrow
    have HREL := Lib.hid hrel
    have HFIN := Lib.hid hfin
    have hgr : w.heap.size ≤ w2.heap.size := hb02.size
    rename_i hHeld
    clear hHeld q3 q8 q9 q10 q11 f8 f9 f10 f11 b0 b1 b2 d8 d9 d10 d11 e8 e9 e10 e11 k5 k0 k1 k2 q3d b0d b1d b2d hrow hrel hfin hR3 rC rR hc3 hbx3 hbF hb1 hb3
    go_wp2_with fail
    go_ret2
    exact ⟨g, w2.heap.size, rfl, HFIN.out, hgw, hgr, by omega, ⟨hi, lo, p, port, [.string ⟨#[]⟩], HROW.out⟩, HREL.out⟩
end Go.Proofs.YtmfdbcfpcifmcaaGreatDoor
