/- spec.Proper: what holds where it says yes. -/
import Derived.Test.YtmfdbcfpcifmcaaGreatDoorFour
import Derived.Test.YtmfdbcfpcifmcaaGreatDoorPFnFormatx0
import Derived.Deep.RegionHeld3
import Derived.Deep.QuietTactic
import Derived.BigQuiet
import Derived.Deep.Cut
import Derived.Deep.LoopGhost
namespace Go.Proofs.YtmfdbcfpcifmcaaGreatDoor
open Go.RowKit Go.Proofs.YtmfdbcfpcifmcaaGreatDoorW.PrintWords Go.Proofs.YtmfdbcfpcifmcaaGreatDoor.PFnFormat

set_option maxRecDepth 100000 in
set_option maxHeartbeats 2000000 in
theorem specAddress (s : ByteArray) (hs : s.size ≤ 2147483647) (net : Int) (w : World) : Calls Tryz.prog 32 #[.string s, .int .i64 net] w fun e w' => Says (addrText (decide (¬ (net = 1 ∨ net = 3))) s) e ∧ Below w.heap.size w w' := by
  by_cases h : net = 1 ∨ net = 3
  · have e0 : decide (¬ (net = 1 ∨ net = 3)) = false := by simp [h]
    rw [e0]
    have hv : (net == 1) = true ∨ ((net == 1) = false ∧ (net == 3) = true) := by
      rcases h with rfl | rfl <;> simp
    rcases hv with h1 | ⟨h1, h2⟩
    all_goals
      go_enter Tryz.func32, Tryz.ntmps32
      go_wp2_with fail
      refine (specFour s hs w).mono ?_
      rintro e w' ⟨⟨b, rfl, hb⟩, hbel⟩
      go_wp2_with fail
      go_ret
      exact ⟨⟨b, rfl, hb⟩, hbel⟩
  · have e0 : decide (¬ (net = 1 ∨ net = 3)) = true := by simp [h]
    rw [e0]
    have h1 : (net == 1) = false := by simp; omega
    have h2 : (net == 3) = false := by simp; omega
    go_enter Tryz.func32, Tryz.ntmps32
    go_wp2_with fail
    refine (specSix s w).mono ?_
    rintro e w' ⟨⟨b, rfl, hb⟩, rfl⟩
    go_wp2_with fail
    go_ret
    exact ⟨⟨b, rfl, hb⟩, Below.refl _ _⟩

def keyBad (k : ByteArray) : Prop := k = ⟨#[114, 97, 100, 100, 114]⟩ ∨ k = ⟨#[114, 112, 111, 114, 116]⟩ ∨ k = ⟨#[116, 99, 112, 116, 121, 112, 101]⟩
/-- What Proper's yes stands for. -/
structure IsProper (kind net tcp : Int) (found : ByteArray) (comp prio : Int) (addr : ByteArray) (port : Int) (rels : List S60) (exts : List S63) : Prop where
  kind1 : 1 ≤ kind
  kind4 : kind ≤ 4
  net1 : 1 ≤ net
  net4 : net ≤ 4
  found_ : Word found 32
  comp1 : 1 ≤ comp
  comp256 : comp ≤ 256
  prio0 : prio ≠ 0
  addr_ : addrText (decide (¬ (net = 1 ∨ net = 3))) addr
  port0 : 0 ≤ port
  port1 : port ≤ 65535
  rels1 : rels.length ≤ 1
  exts5 : exts.length ≤ 5
  host : kind = 1 ↔ rels.length = 0
  tcp0 : 0 ≤ tcp
  tcp3 : tcp ≤ 3
  net_tcp : (net = 3 ∨ net = 4) ↔ 0 < tcp
  tcp_host : (net = 3 ∨ net = 4) → kind = 1
  rel_ : ∀ x ∈ rels, addrText (decide (¬ (net = 1 ∨ net = 3))) x.f0 ∧ 1 ≤ x.f1 ∧ x.f1 ≤ 65535
  ext_ : ∀ x ∈ exts, Word x.f0 20 ∧ Word x.f1 20 ∧ ¬ keyBad x.f0
  keys : ∀ i j (hi : i < exts.length) (_ : j < i), exts[j].f0 ≠ exts[i].f0

end Go.Proofs.YtmfdbcfpcifmcaaGreatDoor
