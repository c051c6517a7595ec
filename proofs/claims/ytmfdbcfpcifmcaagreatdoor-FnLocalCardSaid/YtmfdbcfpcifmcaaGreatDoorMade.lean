/- impl.made: a host candidate. -/
import Derived.Test.YtmfdbcfpcifmcaaGreatDoorHost
import Derived.Deep.RegionHeld3
import Derived.Deep.QuietTactic
import Derived.BigQuiet
namespace Go.Proofs.YtmfdbcfpcifmcaaGreatDoor
open Go.RowKit

def netStr (tcp six : Bool) : ByteArray := match tcp, six with
  | false, false => ⟨#[117, 100, 112, 52]⟩ | false, true => ⟨#[117, 100, 112, 54]⟩ | true, false => ⟨#[116, 99, 112, 52]⟩ | true, true => ⟨#[116, 99, 112, 54]⟩
theorem netStr_ok (tcp six : Bool) : netName tcp (netStr tcp six) := by
  cases tcp <;> cases six <;> simp [netName, netStr]
set_option maxRecDepth 100000 in
set_option maxHeartbeats 400000 in
theorem netText (tcp six : Bool) (w : World) : Calls Tryz.prog 55 #[.int .i64 (netNum tcp six)] w fun e w' => e = .returned (.string (netStr tcp six)) ∧ w = w' := by
  cases tcp <;> cases six <;> simp only [netNum, netStr]
  all_goals
    go_enter Tryz.func55, Tryz.ntmps55
    go_wp2
    go_ret
    exact ⟨rfl, rfl⟩

/-- A candidate of package impl, as a value. -/
def candV (kind net tcp : Int) (found : ByteArray) (comp prio : Int) (addr : ByteArray) (port : Int) (rel ext : Value) : Value :=
  .agg #[.int .i64 kind, .int .i64 net, .int .i64 tcp, .string found, .int .i64 comp, .int .u32 prio, .string addr, .int .i64 port, rel, ext]

set_option maxRecDepth 100000 in
set_option maxHeartbeats 2000000 in
theorem madeHost (tcp six : Bool) {addr : ByteArray} (ha : addrText six addr) (hs : addr.size ≤ maxLen) (port comp prio tt : Int) (found : ByteArray) (h0 : 0 ≤ port) (h1 : port ≤ 65535) (hc0 : 0 ≤ comp) (hc1 : comp ≤ 65535) (ht0 : 0 ≤ tt) (ht1 : tt ≤ 3)
    (rp xp : Option Addr) (rc xc : Nat) (w : World) (p4 p6 : Addr) (hG : Glob w p4 p6) :
    Calls Tryz.prog 36 #[candV 1 (netNum tcp six) tt found comp prio addr port (.slice rp 0 rc) (.slice xp 0 xc)] w fun e w' => ∃ g : Nat, e = .returned (.iface 90 (.pointer (some ⟨g, 0, none⟩))) ∧ Below w.heap.size w w' ∧ w.heap.size ≤ g ∧
      ∃ (hi lo : Int) (p : Addr), Own six p4 p6 hi lo p ∧ Row w' g 160 (hostCells (netNum tcp six) comp port tt hi lo prio (some p) port addr found (netStr tcp six) (.slice none 0 0)) := by
  have hb := below_al (Below.refl w.heap.size w) (Nat.le_refl _) (.cells #[.int .i64 1, .int .i64 (netNum tcp six), .int .i64 tt, .string found, .int .i64 comp, .int .u32 prio, .string addr, .int .i64 port, .slice rp 0 rc, .slice xp 0 xc] 26)
  have hbx := Row.new w 26 #[.int .i64 1, .int .i64 (netNum tcp six), .int .i64 tt, .string found, .int .i64 comp, .int .u32 prio, .string addr, .int .i64 port, .slice rp 0 rc, .slice xp 0 xc]
  have hGA := hG.below hb
  simp only [candV]
  go_enter Tryz.func36, Tryz.ntmps36
  go_wp2_with fail
  generalize w.alloc (.cells #[.int .i64 1, .int .i64 (netNum tcp six), .int .i64 tt, .string found, .int .i64 comp, .int .u32 prio, .string addr, .int .i64 port, .slice rp 0 rc, .slice xp 0 xc] 26) = W at *
  refine (netText tcp six _).mono ?_
  rintro e w' ⟨rfl, rfl⟩
  have hgl := hbx.lt
  have c0 : W.cell? ⟨w.heap.size, 0, none⟩ = some (.int .i64 1) := hbx.cell 0
  have c2 : W.cell? ⟨w.heap.size, 2, none⟩ = some (.int .i64 tt) := hbx.cell 2
  have c3 : W.cell? ⟨w.heap.size, 3, none⟩ = some (.string found) := hbx.cell 3
  have c4 : W.cell? ⟨w.heap.size, 4, none⟩ = some (.int .i64 comp) := hbx.cell 4
  have c5 : W.cell? ⟨w.heap.size, 5, none⟩ = some (.int .u32 prio) := hbx.cell 5
  have c6 : W.cell? ⟨w.heap.size, 6, none⟩ = some (.string addr) := hbx.cell 6
  have c7 : W.cell? ⟨w.heap.size, 7, none⟩ = some (.int .i64 port) := hbx.cell 7
  have c8 : W.cell? ⟨w.heap.size, 8, none⟩ = some (.slice rp 0 rc) := hbx.cell 8
  have hw16 : IntKind.u16.wrap comp = comp := IntWalk.u16_in _ ⟨hc0, hc1⟩
  have e1 : decide (comp < 0) = false := by simp; omega
  have e2 : decide (comp > 65535) = false := by simp; omega
  have e3 : decide (tt < 0) = false := by simp; omega
  have e4 : decide (tt > 3) = false := by simp; omega
  go_wp2_with fail
  clear c0 c2 c3 c4 c5 c6 c7 c8
  have hB2 : Below w.heap.size w ((W.alloc (.cells #[.string ⟨#[]⟩, .int .i64 0] 59)).alloc (.cells #[.string ⟨#[]⟩, .string (netStr tcp six), .string addr, .int .i64 port, .int .u16 comp, .int .u32 prio, .string found, .int .i64 tt, .bool false] 96)) :=
    (hb.alloc (Nat.le_of_lt hgl) _).alloc (by simp only [World.size_alloc]; omega) _
  have hbx2 := (hbx.alloc (.cells #[.string ⟨#[]⟩, .int .i64 0] 59)).alloc (.cells #[.string ⟨#[]⟩, .string (netStr tcp six), .string addr, .int .i64 port, .int .u16 comp, .int .u32 prio, .string found, .int .i64 tt, .bool false] 96)
  have hcfg : Row ((W.alloc (.cells #[.string ⟨#[]⟩, .int .i64 0] 59)).alloc (.cells #[.string ⟨#[]⟩, .string (netStr tcp six), .string addr, .int .i64 port, .int .u16 comp, .int .u32 prio, .string found, .int .i64 tt, .bool false] 96)) (W.heap.size + 1) 96 #[.string ⟨#[]⟩, .string (netStr tcp six), .string addr, .int .i64 port, .int .u16 comp, .int .u32 prio, .string found, .int .i64 tt, .bool false] := by
    have h := Row.new (W.alloc (.cells #[.string ⟨#[]⟩, .int .i64 0] 59)) 96 #[.string ⟨#[]⟩, .string (netStr tcp six), .string addr, .int .i64 port, .int .u16 comp, .int .u32 prio, .string found, .int .i64 tt, .bool false]
    simpa using h
  have hG2 := hG.below hB2
  generalize (W.alloc (.cells #[.string ⟨#[]⟩, .int .i64 0] 59)).alloc (.cells #[.string ⟨#[]⟩, .string (netStr tcp six), .string addr, .int .i64 port, .int .u16 comp, .int .u32 prio, .string found, .int .i64 tt, .bool false] 96) = V at *
  clear hGA
  refine (newHost (netStr_ok tcp six) ha hs port comp prio tt found h0 h1 _ _ p4 p6 hG2 hcfg).mono ?_
  rintro e w1 ⟨rfl, hb1, hi, lo, p, ho, hr⟩
  have hgl2 := hbx2.lt
  have hbx3 := hbx2.below hb1 hgl2
  have hB3 := hB2.trans (hb1.mono (Nat.le_of_lt hgl2))
  have hle : w.heap.size ≤ V.heap.size := Nat.le_of_lt hgl2
  have HO := Lib.hid ho
  have HR := Lib.hid hr
  clear ho hr hb1 hbx2 hcfg hB2 hG2 hbx hb
  have c0 : w1.cell? ⟨w.heap.size, 0, none⟩ = some (.int .i64 1) := hbx3.cell 0
  have c2 : w1.cell? ⟨w.heap.size, 2, none⟩ = some (.int .i64 tt) := hbx3.cell 2
  have c9 : w1.cell? ⟨w.heap.size, 9, none⟩ = some (.slice xp 0 xc) := hbx3.cell 9
  go_wp2_with fail
  have e6 : decide (tt > 0) = true ∨ decide (tt > 0) = false := by cases decide (tt > 0) <;> simp
  rcases e6 with e6 | e6
  all_goals
    go_quiet (fail)
    go_wp2_with fail
    refine wp_loop_rounds 1 ?_
    rw [rounds_succ]
    go_wp2_with fail
    go_ret
    exact ⟨_, rfl, below_drewN hB3 _, hle, hi, lo, p, HO.out, HR.out.drewN _⟩
end Go.Proofs.YtmfdbcfpcifmcaaGreatDoor
