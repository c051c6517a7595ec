/- A candidate's preferences: its methods, impl.Preferences, and the reference's LocalTCP. -/
import Derived.Test.YtmfdbcfpcifmcaaGreatDoorMc
namespace Go.Proofs.YtmfdbcfpcifmcaaGreatDoor
open Go.RowKit

/-- The preference of a type, less where the network is one of TCP. -/
def typePrefOf (typ net : Int) : Int :=
  let p : Int := if typ = 1 then 126 else if typ = 3 then 110 else if typ = 2 then 100 else 0
  if p = 0 then 0 else if net = 3 ∨ net = 4 then p - 27 else p
def dirOf (typ tt : Int) : Int :=
  if typ = 2 ∨ typ = 3 then (if tt = 1 then 4 else if tt = 2 then 2 else if tt = 3 then 6 else 0) else (if tt = 1 then 6 else if tt = 2 then 4 else if tt = 3 then 2 else 0)
def localPrefOf (typ net tt relay : Int) : Int := if typ = 4 then relay else if net = 3 ∨ net = 4 then dirOf typ tt * 8192 + 8191 else 65535

set_option maxRecDepth 100000 in
set_option maxHeartbeats 2000000 in
theorem typePref (g : Nat) (typ net : Int) (ht1 : 1 ≤ typ) (ht4 : typ ≤ 4) (hn1 : 1 ≤ net) (hn4 : net ≤ 4) (w : World) (c1 : w.cell? ⟨g, 1, none⟩ = some (.int .i64 net)) (c2 : w.cell? ⟨g, 2, none⟩ = some (.int .u8 typ)) :
    Calls Tryz.prog 163 #[.pointer (some ⟨g, 0, none⟩)] w fun e w' => e = .returned (.int .u16 (typePrefOf typ net)) ∧ w = w' := by
  have ht : typ = 1 ∨ typ = 2 ∨ typ = 3 ∨ typ = 4 := by omega
  have hn : net = 1 ∨ net = 2 ∨ net = 3 ∨ net = 4 := by omega
  rcases ht with rfl | rfl | rfl | rfl <;> rcases hn with rfl | rfl | rfl | rfl
  all_goals
    go_enter Tryz.func163, Tryz.ntmps163
    go_wp2
    go_ret
    exact ⟨rfl, rfl⟩

set_option maxRecDepth 100000 in
set_option maxHeartbeats 2000000 in
theorem localPrefTcp (g : Nat) (typ net tt relay : Int) (ht1 : 1 ≤ typ) (ht4 : typ ≤ 3) (hn : net = 3 ∨ net = 4) (htt1 : 1 ≤ tt) (htt3 : tt ≤ 3) (w : World) (c1 : w.cell? ⟨g, 1, none⟩ = some (.int .i64 net)) (c2 : w.cell? ⟨g, 2, none⟩ = some (.int .u8 typ)) (c7 : w.cell? ⟨g, 7, none⟩ = some (.int .i64 tt)) :
    Calls Tryz.prog 153 #[.pointer (some ⟨g, 0, none⟩)] w fun e w' => e = .returned (.int .u16 (localPrefOf typ net tt relay)) ∧ Below w.heap.size w w' := by
  have hmf : ∀ (fn : Fn) (first cap : Array Value) (w : World), (Instr.makeFunc fn first cap).run Tryz.prog w = .ok (.func fn first cap) w := fun _ _ _ _ => rfl
  have hlt : g < w.heap.size := World.block_lt_of_cell? _ _ c1
  have hb := below_al (Below.refl w.heap.size w) (Nat.le_refl _) (.cells #[.pointer (some ⟨g, 0, none⟩)] 183)
  have ht : typ = 1 ∨ typ = 2 ∨ typ = 3 := by omega
  have hs : tt = 1 ∨ tt = 2 ∨ tt = 3 := by omega
  rcases ht with rfl | rfl | rfl <;> rcases hs with rfl | rfl | rfl <;> rcases hn with rfl | rfl
  all_goals
    go_enter Tryz.func153, Tryz.ntmps153
    go_wp2
    go_ret
    exact ⟨rfl, hb⟩

set_option maxRecDepth 100000 in
set_option maxHeartbeats 2000000 in
theorem localPrefUdp (g : Nat) (typ net tt relay : Int) (ht1 : 1 ≤ typ) (ht4 : typ ≤ 4) (hn : net = 1 ∨ net = 2) (w : World) (c1 : w.cell? ⟨g, 1, none⟩ = some (.int .i64 net)) (c2 : w.cell? ⟨g, 2, none⟩ = some (.int .u8 typ)) (c11 : w.cell? ⟨g, 14, none⟩ = some (.int .u16 relay)) :
    Calls Tryz.prog 153 #[.pointer (some ⟨g, 0, none⟩)] w fun e w' => e = .returned (.int .u16 (localPrefOf typ net tt relay)) ∧ Below w.heap.size w w' := by
  have hlt : g < w.heap.size := World.block_lt_of_cell? _ _ c1
  have hb := below_al (Below.refl w.heap.size w) (Nat.le_refl _) (.cells #[.pointer (some ⟨g, 0, none⟩)] 183)
  have ht : typ = 1 ∨ typ = 2 ∨ typ = 3 ∨ typ = 4 := by omega
  rcases ht with rfl | rfl | rfl | rfl <;> rcases hn with rfl | rfl
  all_goals
    go_enter Tryz.func153, Tryz.ntmps153
    go_wp2
    go_ret
    exact ⟨rfl, hb⟩

set_option maxRecDepth 100000 in
set_option maxHeartbeats 2000000 in
theorem specLocal (kind tt : Int) (hk1 : 1 ≤ kind) (hk4 : kind ≤ 3) (ht1 : 1 ≤ tt) (ht3 : tt ≤ 3) (w : World) :
    Calls Tryz.prog 17 #[.int .i64 kind, .int .i64 tt] w fun e w' => e = .returned (.int .i64 (dirOf kind tt * 8192 + 8191)) ∧ Below w.heap.size w w' := by
  have ht : kind = 1 ∨ kind = 2 ∨ kind = 3 := by omega
  have hs : tt = 1 ∨ tt = 2 ∨ tt = 3 := by omega
  rcases ht with rfl | rfl | rfl <;> rcases hs with rfl | rfl | rfl
  all_goals
    go_enter Tryz.func17, Tryz.ntmps17
    go_wp2
    go_ret
    exact ⟨rfl, by first | exact (Below.refl _ _).alloc (Nat.le_refl _) _ | exact ((Below.refl _ _).alloc (Nat.le_refl _) _).alloc (by simp) _⟩
end Go.Proofs.YtmfdbcfpcifmcaaGreatDoor
