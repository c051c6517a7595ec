/- strings.ToLower, HasPrefix and HasSuffix at the texts that this program hands them, and the type of a network by its name and an address. (Written by mkdet.py.) | net/netip.ParseAddr at every text of an address that the statements speak of; strings.HasSuffix at the same. (Written by mkaddr.py.) | NewCandidateHost: a host candidate at an address that the statements speak of. | impl.made: a host candidate. | impl.try: a closure that returns. (Merged by merge.py out of Texts, ParseAddr, Host, Made, Try.) -/
import Derived.Test.YtmfdbcfpcifmcaaGreatDoorMa
import Derived.Test.YtmfdbcfpcifmcaaGreatDoorSixA
import Derived.Test.YtmfdbcfpcifmcaaGreatDoorSixB
import Derived.Test.YtmfdbcfpcifmcaaGreatDoorSixC
import Derived.Lib.IndexBytes
import Derived.StillTailTactics
import Derived.BigRegion
import Derived.Deep.RegionHeld3
import Derived.Deep.QuietTactic
import Derived.BigQuiet
import Derived.Defers
import Derived.Recover
import Derived.Laws.Pointers
namespace Go.Proofs.YtmfdbcfpcifmcaaGreatDoor
open Go.RowKit

/-- All letters of a text are ASCII and none is a capital. -/
def Low (s : ByteArray) : Prop := ∀ (k : Nat) (h : k < s.size), s[k].toNat < 128 ∧ (s[k].toNat < 65 ∨ 90 < s[k].toNat)

set_option maxRecDepth 100000 in
set_option maxHeartbeats 400000 in
theorem toLower_low (s : ByteArray) (w : World) (hs : s.size ≤ maxLen) (hl : Low s) :
    Calls Tryz.prog 87 #[.string s] w fun e w' => e = .returned (.string s) ∧ w = w' := by
  unfold maxLen at hs
  go_enter Tryz.func87, Tryz.ntmps87
  go_wp2
  go_loop [3, 4, 5] (fun a b i => ∃ k : Nat, k ≤ s.size ∧ a = .bool true ∧ b = .bool false ∧ i = .int .i64 k) (fun _ _ i => s.size - (intOf i).toNat)
  case atStart => exact ⟨0, Nat.zero_le _, rfl, rfl, rfl⟩
  case round =>
    obtain ⟨k, hk, rfl, rfl, rfl⟩ := hrel
    by_cases hlt : k < s.size
    · have h1 := hl k hlt
      obtain ⟨h1, h2⟩ := h1
      have h1' : (s[k].toNat : Int) < 128 := by omega
      rcases h2 with h2 | h2
      · have h3 : (s[k].toNat : Int) < 65 := by omega
        clear hl
        go_wp2
        go_round
        case rel => exact ⟨k + 1, by omega, rfl, rfl, by go_num⟩
        case measure => simp [intOf]; omega
      · have h3 : decide ((s[k].toNat : Int) ≤ 90) = false := by simp; omega
        clear hl
        go_wp2
        go_round
        case rel => exact ⟨k + 1, by omega, rfl, rfl, by go_num⟩
        case measure => simp [intOf]; omega
    · go_wp2
      go_ret
      exact ⟨rfl, rfl⟩

theorem low_of (s : ByteArray) (h : s.data.toList.all (fun c => decide (c.toNat < 128) && (decide (c.toNat < 65) || decide (90 < c.toNat))) = true) : Low s := by
  intro k hk
  have := List.all_eq_true.1 h (s[k]) (by simp [ByteArray.getElem_eq_getElem_data])
  simpa using this

/-- The names of networks that the program knows. -/
def netName (tcp : Bool) (s : ByteArray) : Prop :=
  match tcp with
  | false => s = ⟨#[117, 100, 112]⟩ ∨ s = ⟨#[117, 100, 112, 52]⟩ ∨ s = ⟨#[117, 100, 112, 54]⟩
  | true => s = ⟨#[116, 99, 112]⟩ ∨ s = ⟨#[116, 99, 112, 52]⟩ ∨ s = ⟨#[116, 99, 112, 54]⟩
theorem netName_low {tcp : Bool} {s : ByteArray} (h : netName tcp s) : Low s ∧ s.size ≤ maxLen := by
  cases tcp <;> rcases h with rfl | rfl | rfl
  all_goals exact ⟨low_of _ (by decide), Nat.le_of_lt (by decide)⟩


set_option maxRecDepth 100000 in
set_option maxHeartbeats 400000 in
theorem prefix_udp {tcp : Bool} {s : ByteArray} (h : netName tcp s) (w : World) :
    Calls Tryz.prog 92 #[.string s, .string ⟨#[117, 100, 112]⟩] w fun e w' => e = .returned (.bool !tcp) ∧ w = w' := by
  cases tcp <;> rcases h with rfl | rfl | rfl
  · go_enter Tryz.func92, Tryz.ntmps92
    have e0 : (ByteArray.mk #[117, 100, 112]).extract 0 3 = ⟨#[117, 100, 112]⟩ := by rfl
    go_wp2
    go_ret
    exact ⟨rfl, rfl⟩
  · go_enter Tryz.func92, Tryz.ntmps92
    have e0 : (ByteArray.mk #[117, 100, 112, 52]).extract 0 3 = ⟨#[117, 100, 112]⟩ := by rfl
    go_wp2
    go_ret
    exact ⟨rfl, rfl⟩
  · go_enter Tryz.func92, Tryz.ntmps92
    have e0 : (ByteArray.mk #[117, 100, 112, 54]).extract 0 3 = ⟨#[117, 100, 112]⟩ := by rfl
    go_wp2
    go_ret
    exact ⟨rfl, rfl⟩
  · go_enter Tryz.func92, Tryz.ntmps92
    have e0 : (ByteArray.mk #[116, 99, 112]).extract 0 3 = ⟨#[116, 99, 112]⟩ := by rfl
    go_wp2
    go_ret
    exact ⟨rfl, rfl⟩
  · go_enter Tryz.func92, Tryz.ntmps92
    have e0 : (ByteArray.mk #[116, 99, 112, 52]).extract 0 3 = ⟨#[116, 99, 112]⟩ := by rfl
    go_wp2
    go_ret
    exact ⟨rfl, rfl⟩
  · go_enter Tryz.func92, Tryz.ntmps92
    have e0 : (ByteArray.mk #[116, 99, 112, 54]).extract 0 3 = ⟨#[116, 99, 112]⟩ := by rfl
    go_wp2
    go_ret
    exact ⟨rfl, rfl⟩

set_option maxRecDepth 100000 in
set_option maxHeartbeats 400000 in
theorem prefix_tcp {s : ByteArray} (h : netName true s) (w : World) :
    Calls Tryz.prog 92 #[.string s, .string ⟨#[116, 99, 112]⟩] w fun e w' => e = .returned (.bool true) ∧ w = w' := by
  rcases h with rfl | rfl | rfl
  · go_enter Tryz.func92, Tryz.ntmps92
    have e0 : (ByteArray.mk #[116, 99, 112]).extract 0 3 = ⟨#[116, 99, 112]⟩ := by rfl
    go_wp2
    go_ret
    exact ⟨rfl, rfl⟩
  · go_enter Tryz.func92, Tryz.ntmps92
    have e0 : (ByteArray.mk #[116, 99, 112, 52]).extract 0 3 = ⟨#[116, 99, 112]⟩ := by rfl
    go_wp2
    go_ret
    exact ⟨rfl, rfl⟩
  · go_enter Tryz.func92, Tryz.ntmps92
    have e0 : (ByteArray.mk #[116, 99, 112, 54]).extract 0 3 = ⟨#[116, 99, 112]⟩ := by rfl
    go_wp2
    go_ret
    exact ⟨rfl, rfl⟩

/-- Which address it is: of IPv4 by its handle, or one of IPv6. -/
def Own (six : Bool) (p4 p6 : Addr) (hi lo : Int) (p : Addr) : Prop :=
  match six with
  | false => p = p4
  | true => p = p6 ∧ Own6 hi lo
theorem Own.unmap {six : Bool} {p4 p6 : Addr} {hi lo : Int} {p : Addr} (ho : Own six p4 p6 hi lo p) (w : World) (hG : Glob w p4 p6) : Calls Tryz.prog 91 #[addrV hi lo p] w fun e w' => e = .returned (addrV hi lo p) ∧ Below w.heap.size w w' := by
  cases six
  · obtain rfl : p = p4 := ho
    exact unmap4 hi lo w p p6 hG
  · obtain ⟨rfl, ho⟩ := ho
    exact unmap6 hi lo ho w p4 p hG
theorem Own.is4 {six : Bool} {p4 p6 : Addr} {hi lo : Int} {p : Addr} (ho : Own six p4 p6 hi lo p) (w : World) (hG : Glob w p4 p6) : Calls Tryz.prog 93 #[addrV hi lo p] w fun e w' => e = .returned (.bool !six) ∧ Below w.heap.size w w' := by
  cases six
  · obtain rfl : p = p4 := ho
    exact is4_4 hi lo w p p6 hG
  · obtain ⟨rfl, ho⟩ := ho
    exact is4_6 hi lo w p4 p hG

def netNum (tcp six : Bool) : Int := match tcp, six with | false, false => 1 | false, true => 2 | true, false => 3 | true, true => 4

set_option maxRecDepth 100000 in
set_option maxHeartbeats 400000 in
theorem netType {tcp six : Bool} {s : ByteArray} (hn : netName tcp s) {p4 p6 : Addr} {hi lo : Int} {p : Addr} (ho : Own six p4 p6 hi lo p) (w : World) (hG : Glob w p4 p6) :
    Calls Tryz.prog 78 #[.string s, addrV hi lo p] w fun e w' => e = .returned (.tuple #[.int .i64 (netNum tcp six), .nilIface]) ∧ Below w.heap.size w w' := by
  obtain ⟨hlow, hsz⟩ := netName_low hn
  have hb := below_al (Below.refl w.heap.size w) (Nat.le_refl _) (.cells #[.int .u64 hi, .int .u64 lo, .pointer (some p)] 154)
  have hA := hG.below hb
  show Calls Tryz.prog 78 #[.string s, .agg #[.int .u64 hi, .int .u64 lo, .pointer (some p)]] w _
  have HLow := Lib.hid (fun W => toLower_low s W hsz hlow)
  clear hlow hsz
  go_enter Tryz.func78, Tryz.ntmps78
  go_wp2_with fail
  refine (ho.unmap _ hA).mono ?_
  rintro e w1 ⟨rfl, hb1⟩
  have hr : Row w1 w.heap.size 154 #[.int .u64 hi, .int .u64 lo, .pointer (some p)] := (Row.new w 154 _).below hb1 (by simp)
  have hb01 := below_next hb hb1 (by simp)
  have h1G := hG.below hb01
  have r0 := hr.cell 0
  have r1 := hr.cell 1
  have r2 := hr.cell 2
  have s0 := hr.free 0
  have s1 := hr.free 1
  have s2 := hr.free 2
  simp only [addrV]
  go_wp2_with fail
  refine (HLow.out _).mono ?_
  rintro e w' ⟨rfl, rfl⟩
  have hb2 : Below w.heap.size w (((w1.setCell ⟨w.heap.size, 0, none⟩ (.int .u64 hi)).setCell ⟨w.heap.size, 1, none⟩ (.int .u64 lo)).setCell ⟨w.heap.size, 2, none⟩ (.pointer (some p))) := below_st (below_st (below_st hb01 (Nat.le_refl _) _ _) (Nat.le_refl _) _ _) (Nat.le_refl _) _ _
  have hr2 : Row (((w1.setCell ⟨w.heap.size, 0, none⟩ (.int .u64 hi)).setCell ⟨w.heap.size, 1, none⟩ (.int .u64 lo)).setCell ⟨w.heap.size, 2, none⟩ (.pointer (some p))) w.heap.size 154 #[.int .u64 hi, .int .u64 lo, .pointer (some p)] := ((hr.set 0 _).set 1 _).set 2 _
  have h2G := hG.below hb2
  generalize ((w1.setCell ⟨w.heap.size, 0, none⟩ (.int .u64 hi)).setCell ⟨w.heap.size, 1, none⟩ (.int .u64 lo)).setCell ⟨w.heap.size, 2, none⟩ (.pointer (some p)) = W at *
  clear r0 r1 r2 s0 s1 s2 hr h1G hb01 hb1
  have q0 := hr2.cell 0
  have q1 := hr2.cell 1
  have q2 := hr2.cell 2
  have hsz2 := hb2.size
  go_wp2_with fail
  refine (prefix_udp hn _).mono ?_
  rintro e w' ⟨rfl, rfl⟩
  cases tcp
  · go_wp2_with fail
    refine (ho.is4 _ h2G).mono ?_
    rintro e w3 ⟨rfl, hb3⟩
    cases six
    · go_wp2_with fail
      go_ret2
      exact ⟨rfl, below_next hb2 hb3 hsz2⟩
    · go_wp2_with fail
      go_ret2
      exact ⟨rfl, below_next hb2 hb3 hsz2⟩
  · go_wp2_with fail
    refine (HLow.out _).mono ?_
    rintro e w' ⟨rfl, rfl⟩
    go_wp2_with fail
    refine (prefix_tcp hn _).mono ?_
    rintro e w' ⟨rfl, rfl⟩
    go_wp2_with fail
    refine (ho.is4 _ h2G).mono ?_
    rintro e w3 ⟨rfl, hb3⟩
    cases six
    · go_wp2_with fail
      go_ret2
      exact ⟨rfl, below_next hb2 hb3 hsz2⟩
    · go_wp2_with fail
      go_ret2
      exact ⟨rfl, below_next hb2 hb3 hsz2⟩
end Go.Proofs.YtmfdbcfpcifmcaaGreatDoor

namespace Go.Proofs.YtmfdbcfpcifmcaaGreatDoor
open Go.RowKit
attribute [local go_sem] byte_mk

/-- A text of an address: four numbers, or one of five texts of IPv6. -/
def addrText (six : Bool) (s : ByteArray) : Prop :=
  match six with
  | false => Ip.Ok s.data.toList
  | true => s = ⟨#[50, 48, 48, 49, 58, 100, 98, 56, 58, 58, 49]⟩ ∨ s = ⟨#[102, 100, 48, 48, 58, 58, 50]⟩ ∨ s = ⟨#[58, 58, 49]⟩ ∨ s = ⟨#[102, 101, 56, 48, 58, 58, 49, 50, 51, 52]⟩ ∨ s = ⟨#[50, 48, 48, 49, 58, 100, 98, 56, 58, 48, 58, 49, 58, 50, 58, 51, 58, 52, 58, 53]⟩

def IsAddr (six : Bool) (p4 p6 : Addr) (e : Ending) : Prop := ∃ (hi lo : Int) (p : Addr), e = .returned (.tuple #[addrV hi lo p, .nilIface]) ∧ Own six p4 p6 hi lo p

set_option maxRecDepth 100000 in
set_option maxHeartbeats 1000000 in
theorem parseAddr6_0 (w : World) (p4 p6 : Addr) (hG : Glob w p4 p6) : Calls Tryz.prog 76 #[.string ⟨#[50, 48, 48, 49, 58, 100, 98, 56, 58, 58, 49]⟩] w fun e w' => IsAddr6 p6 e ∧ Below w.heap.size w w' := by
  have hb := below_al (Below.refl w.heap.size w) (Nat.le_refl _) (.cells #[.int .u64 0, .int .u64 0, .pointer none] 154)
  go_enter Tryz.func76, Tryz.ntmps76
  go_wp2_with fail
  refine wp_loop_rounds 5 ?_
  rw [rounds_succ]
  go_wp2_with fail
  rw [rounds_succ]
  go_wp2_with fail
  rw [rounds_succ]
  go_wp2_with fail
  rw [rounds_succ]
  go_wp2_with fail
  rw [rounds_succ]
  go_wp2_with fail
  refine (six0 _ p4 p6 (hG.below hb)).mono ?_
  rintro e w1 ⟨⟨hi, lo, rfl, ho⟩, hb1⟩
  have hr : Row w1 w.heap.size 154 #[.int .u64 0, .int .u64 0, .pointer none] := (Row.new w 154 _).below hb1 (by simp)
  have q0 := hr.cell 0
  have q1 := hr.cell 1
  have q2 := hr.cell 2
  have f0 := hr.free 0
  have f1 := hr.free 1
  have f2 := hr.free 2
  clear hr
  have HO := Lib.hid ho
  clear ho
  simp only [addrV]
  go_wp2_with fail
  refine bodyPost_ret (v := .tuple #[addrV hi lo p6, .nilIface]) ?h1 rfl ⟨⟨hi, lo, rfl, HO.out⟩, ?h2⟩
  case h1 => simp [results, Tryz.results76, go_sem, q0, q1, q2, addrV]
  case h2 => exact below_st (below_st (below_st (below_next hb hb1 (by simp)) (Nat.le_refl _) _ _) (Nat.le_refl _) _ _) (Nat.le_refl _) _ _

set_option maxRecDepth 100000 in
set_option maxHeartbeats 1000000 in
theorem parseAddr6_1 (w : World) (p4 p6 : Addr) (hG : Glob w p4 p6) : Calls Tryz.prog 76 #[.string ⟨#[102, 100, 48, 48, 58, 58, 50]⟩] w fun e w' => IsAddr6 p6 e ∧ Below w.heap.size w w' := by
  have hb := below_al (Below.refl w.heap.size w) (Nat.le_refl _) (.cells #[.int .u64 0, .int .u64 0, .pointer none] 154)
  go_enter Tryz.func76, Tryz.ntmps76
  go_wp2_with fail
  refine wp_loop_rounds 5 ?_
  rw [rounds_succ]
  go_wp2_with fail
  rw [rounds_succ]
  go_wp2_with fail
  rw [rounds_succ]
  go_wp2_with fail
  rw [rounds_succ]
  go_wp2_with fail
  rw [rounds_succ]
  go_wp2_with fail
  refine (six1 _ p4 p6 (hG.below hb)).mono ?_
  rintro e w1 ⟨⟨hi, lo, rfl, ho⟩, hb1⟩
  have hr : Row w1 w.heap.size 154 #[.int .u64 0, .int .u64 0, .pointer none] := (Row.new w 154 _).below hb1 (by simp)
  have q0 := hr.cell 0
  have q1 := hr.cell 1
  have q2 := hr.cell 2
  have f0 := hr.free 0
  have f1 := hr.free 1
  have f2 := hr.free 2
  clear hr
  have HO := Lib.hid ho
  clear ho
  simp only [addrV]
  go_wp2_with fail
  refine bodyPost_ret (v := .tuple #[addrV hi lo p6, .nilIface]) ?h1 rfl ⟨⟨hi, lo, rfl, HO.out⟩, ?h2⟩
  case h1 => simp [results, Tryz.results76, go_sem, q0, q1, q2, addrV]
  case h2 => exact below_st (below_st (below_st (below_next hb hb1 (by simp)) (Nat.le_refl _) _ _) (Nat.le_refl _) _ _) (Nat.le_refl _) _ _

set_option maxRecDepth 100000 in
set_option maxHeartbeats 1000000 in
theorem parseAddr6_2 (w : World) (p4 p6 : Addr) (hG : Glob w p4 p6) : Calls Tryz.prog 76 #[.string ⟨#[58, 58, 49]⟩] w fun e w' => IsAddr6 p6 e ∧ Below w.heap.size w w' := by
  have hb := below_al (Below.refl w.heap.size w) (Nat.le_refl _) (.cells #[.int .u64 0, .int .u64 0, .pointer none] 154)
  go_enter Tryz.func76, Tryz.ntmps76
  go_wp2_with fail
  refine wp_loop_rounds 1 ?_
  rw [rounds_succ]
  go_wp2_with fail
  refine (six2 _ p4 p6 (hG.below hb)).mono ?_
  rintro e w1 ⟨⟨hi, lo, rfl, ho⟩, hb1⟩
  have hr : Row w1 w.heap.size 154 #[.int .u64 0, .int .u64 0, .pointer none] := (Row.new w 154 _).below hb1 (by simp)
  have q0 := hr.cell 0
  have q1 := hr.cell 1
  have q2 := hr.cell 2
  have f0 := hr.free 0
  have f1 := hr.free 1
  have f2 := hr.free 2
  clear hr
  have HO := Lib.hid ho
  clear ho
  simp only [addrV]
  go_wp2_with fail
  refine bodyPost_ret (v := .tuple #[addrV hi lo p6, .nilIface]) ?h1 rfl ⟨⟨hi, lo, rfl, HO.out⟩, ?h2⟩
  case h1 => simp [results, Tryz.results76, go_sem, q0, q1, q2, addrV]
  case h2 => exact below_st (below_st (below_st (below_next hb hb1 (by simp)) (Nat.le_refl _) _ _) (Nat.le_refl _) _ _) (Nat.le_refl _) _ _

set_option maxRecDepth 100000 in
set_option maxHeartbeats 1000000 in
theorem parseAddr6_3 (w : World) (p4 p6 : Addr) (hG : Glob w p4 p6) : Calls Tryz.prog 76 #[.string ⟨#[102, 101, 56, 48, 58, 58, 49, 50, 51, 52]⟩] w fun e w' => IsAddr6 p6 e ∧ Below w.heap.size w w' := by
  have hb := below_al (Below.refl w.heap.size w) (Nat.le_refl _) (.cells #[.int .u64 0, .int .u64 0, .pointer none] 154)
  go_enter Tryz.func76, Tryz.ntmps76
  go_wp2_with fail
  refine wp_loop_rounds 5 ?_
  rw [rounds_succ]
  go_wp2_with fail
  rw [rounds_succ]
  go_wp2_with fail
  rw [rounds_succ]
  go_wp2_with fail
  rw [rounds_succ]
  go_wp2_with fail
  rw [rounds_succ]
  go_wp2_with fail
  refine (six3 _ p4 p6 (hG.below hb)).mono ?_
  rintro e w1 ⟨⟨hi, lo, rfl, ho⟩, hb1⟩
  have hr : Row w1 w.heap.size 154 #[.int .u64 0, .int .u64 0, .pointer none] := (Row.new w 154 _).below hb1 (by simp)
  have q0 := hr.cell 0
  have q1 := hr.cell 1
  have q2 := hr.cell 2
  have f0 := hr.free 0
  have f1 := hr.free 1
  have f2 := hr.free 2
  clear hr
  have HO := Lib.hid ho
  clear ho
  simp only [addrV]
  go_wp2_with fail
  refine bodyPost_ret (v := .tuple #[addrV hi lo p6, .nilIface]) ?h1 rfl ⟨⟨hi, lo, rfl, HO.out⟩, ?h2⟩
  case h1 => simp [results, Tryz.results76, go_sem, q0, q1, q2, addrV]
  case h2 => exact below_st (below_st (below_st (below_next hb hb1 (by simp)) (Nat.le_refl _) _ _) (Nat.le_refl _) _ _) (Nat.le_refl _) _ _

set_option maxRecDepth 100000 in
set_option maxHeartbeats 1000000 in
theorem parseAddr6_4 (w : World) (p4 p6 : Addr) (hG : Glob w p4 p6) : Calls Tryz.prog 76 #[.string ⟨#[50, 48, 48, 49, 58, 100, 98, 56, 58, 48, 58, 49, 58, 50, 58, 51, 58, 52, 58, 53]⟩] w fun e w' => IsAddr6 p6 e ∧ Below w.heap.size w w' := by
  have hb := below_al (Below.refl w.heap.size w) (Nat.le_refl _) (.cells #[.int .u64 0, .int .u64 0, .pointer none] 154)
  go_enter Tryz.func76, Tryz.ntmps76
  go_wp2_with fail
  refine wp_loop_rounds 5 ?_
  rw [rounds_succ]
  go_wp2_with fail
  rw [rounds_succ]
  go_wp2_with fail
  rw [rounds_succ]
  go_wp2_with fail
  rw [rounds_succ]
  go_wp2_with fail
  rw [rounds_succ]
  go_wp2_with fail
  refine (six4 _ p4 p6 (hG.below hb)).mono ?_
  rintro e w1 ⟨⟨hi, lo, rfl, ho⟩, hb1⟩
  have hr : Row w1 w.heap.size 154 #[.int .u64 0, .int .u64 0, .pointer none] := (Row.new w 154 _).below hb1 (by simp)
  have q0 := hr.cell 0
  have q1 := hr.cell 1
  have q2 := hr.cell 2
  have f0 := hr.free 0
  have f1 := hr.free 1
  have f2 := hr.free 2
  clear hr
  have HO := Lib.hid ho
  clear ho
  simp only [addrV]
  go_wp2_with fail
  refine bodyPost_ret (v := .tuple #[addrV hi lo p6, .nilIface]) ?h1 rfl ⟨⟨hi, lo, rfl, HO.out⟩, ?h2⟩
  case h1 => simp [results, Tryz.results76, go_sem, q0, q1, q2, addrV]
  case h2 => exact below_st (below_st (below_st (below_next hb hb1 (by simp)) (Nat.le_refl _) _ _) (Nat.le_refl _) _ _) (Nat.le_refl _) _ _

theorem addr6_is {p4 p6 : Addr} {P : World → Prop} {e : Ending} {w : World} (h : IsAddr6 p6 e ∧ P w) : IsAddr true p4 p6 e ∧ P w := by
  obtain ⟨⟨hi, lo, he, ho⟩, hp⟩ := h
  exact ⟨⟨hi, lo, p6, he, rfl, ho⟩, hp⟩
theorem addr4_is {p4 p6 : Addr} {P : World → Prop} {e : Ending} {w : World} (h : IsAddr4Ok p4 e ∧ P w) : IsAddr false p4 p6 e ∧ P w := by
  obtain ⟨⟨lo, he⟩, hp⟩ := h
  exact ⟨⟨0, lo, p4, he, rfl⟩, hp⟩
theorem parseAddr_ok {six : Bool} {s : ByteArray} (h : addrText six s) (hs : s.size ≤ maxLen) (w : World) (p4 p6 : Addr) (hG : Glob w p4 p6) :
    Calls Tryz.prog 76 #[.string s] w fun e w' => IsAddr six p4 p6 e ∧ Below w.heap.size w w' := by
  cases six
  · exact (parseAddr4 s hs h w p4 p6 hG).mono fun e w' h => addr4_is (P := fun w' => Below w.heap.size w w') h
  · rcases h with rfl | rfl | rfl | rfl | rfl
    · exact (parseAddr6_0 w p4 p6 hG).mono fun e w' h => addr6_is (P := fun w' => Below w.heap.size w w') h
    · exact (parseAddr6_1 w p4 p6 hG).mono fun e w' h => addr6_is (P := fun w' => Below w.heap.size w w') h
    · exact (parseAddr6_2 w p4 p6 hG).mono fun e w' h => addr6_is (P := fun w' => Below w.heap.size w w') h
    · exact (parseAddr6_3 w p4 p6 hG).mono fun e w' h => addr6_is (P := fun w' => Below w.heap.size w w') h
    · exact (parseAddr6_4 w p4 p6 hG).mono fun e w' h => addr6_is (P := fun w' => Below w.heap.size w w') h

theorem drop_list (s : ByteArray) (a : Nat) : (s.extract a s.size).toList = s.data.toList.drop a := by
  rw [Lib.toList_data, Lib.extract_to_end]

/-- No letter of such a text is an 'l'. -/
theorem addr_no_l {six : Bool} {s : ByteArray} (h : addrText six s) : ∀ c ∈ s.data.toList, c ≠ 108 := by
  cases six
  · intro c hc e
    obtain ⟨k, hk, rfl⟩ := List.mem_iff_getElem.1 hc
    have := Ip.letters h k hk
    rw [e] at this
    simp at this
  · rcases h with rfl | rfl | rfl | rfl | rfl
    all_goals decide

theorem no_tail {six : Bool} {s : ByteArray} (h : addrText six s) (a : Nat) (l : List UInt8) (hl : (108 : UInt8) ∈ l) : ((s.extract a s.size).toList == l) = false := by
  rw [drop_list]
  simp only [beq_eq_false_iff_ne, ne_eq]
  intro e
  have h1 : (108 : UInt8) ∈ s.data.toList.drop a := by rw [e]; exact hl
  exact addr_no_l h _ (List.mem_of_mem_drop h1) rfl

set_option maxRecDepth 100000 in
set_option maxHeartbeats 400000 in
theorem noLocal {six : Bool} {s : ByteArray} (h : addrText six s) (hs : s.size ≤ maxLen) (w : World) : Calls Tryz.prog 75 #[.string s, .string ⟨#[46, 108, 111, 99, 97, 108]⟩] w fun e w' => e = .returned (.bool false) ∧ w = w' := by
  unfold maxLen at hs
  have hn := no_tail h (s.size - 6) [46, 108, 111, 99, 97, 108] (by decide)
  clear h
  by_cases hk : 6 ≤ s.size
  · go_enter Tryz.func75, Tryz.ntmps75
    go_wp2
    go_ret
    exact ⟨rfl, rfl⟩
  · go_enter Tryz.func75, Tryz.ntmps75
    go_wp2
    go_ret
    exact ⟨rfl, rfl⟩

set_option maxRecDepth 100000 in
set_option maxHeartbeats 400000 in
theorem noInvalid {six : Bool} {s : ByteArray} (h : addrText six s) (hs : s.size ≤ maxLen) (w : World) : Calls Tryz.prog 75 #[.string s, .string ⟨#[46, 105, 110, 118, 97, 108, 105, 100]⟩] w fun e w' => e = .returned (.bool false) ∧ w = w' := by
  unfold maxLen at hs
  have hn := no_tail h (s.size - 8) [46, 105, 110, 118, 97, 108, 105, 100] (by decide)
  clear h
  by_cases hk : 8 ≤ s.size
  · go_enter Tryz.func75, Tryz.ntmps75
    go_wp2
    go_ret
    exact ⟨rfl, rfl⟩
  · go_enter Tryz.func75, Tryz.ntmps75
    go_wp2
    go_ret
    exact ⟨rfl, rfl⟩

end Go.Proofs.YtmfdbcfpcifmcaaGreatDoor

namespace Go.Proofs.YtmfdbcfpcifmcaaGreatDoor
open Go.RowKit

/-- The cells of a host candidate that is made of such a configuration. -/
def hostCells (net comp port tcp hi lo prio : Int) (p : Option Addr) (port16 : Int) (addr found network : ByteArray) (exts : Value) : Array Value :=
  #[.string ⟨#[]⟩, .int .i64 net, .int .u8 1, .int .u16 comp, .string addr, .int .i64 port, .pointer none, .int .i64 tcp, .int .u64 hi, .int .u64 lo, .pointer p, .int .u16 port16, .string found, .int .u32 prio, .int .u16 0, .bool false, exts, .string network]

set_option maxRecDepth 100000 in
set_option maxHeartbeats 1000000 in
theorem setIP {tcp six : Bool} {network addr : ByteArray} (hn : netName tcp network) {hi lo : Int} {p : Addr} (port comp prio tt : Int) (found : ByteArray) (h0 : 0 ≤ port) (h1 : port ≤ 65535)
    (g : Nat) (w : World) (p4 p6 : Addr) (ho : Own six p4 p6 hi lo p) (hG : Glob w p4 p6)
    (hc : Row w g 160 (hostCells 0 comp port tt 0 0 prio none 0 addr found network (.slice none 0 0))) :
    Calls Tryz.prog 77 #[.pointer (some ⟨g, 0, none⟩), addrV hi lo p] w fun e w' => e = .returned .nilIface ∧ w.grownBy w' (some g) ∧
      Row w' g 160 (hostCells (netNum tcp six) comp port tt hi lo prio (some p) port addr found network (.slice none 0 0)) := by
  have hgl := hc.lt
  have hb : Below w.heap.size w (w.alloc (.cells #[.int .u64 hi, .int .u64 lo, .pointer (some p)] 154)) := below_al (Below.refl _ _) (Nat.le_refl _) _
  have hcA := hc.below hb hgl
  have hGA := hG.below hb
  have hbox := Row.new w 154 #[.int .u64 hi, .int .u64 lo, .pointer (some p)]
  have hszA : (w.alloc (.cells #[.int .u64 hi, .int .u64 lo, .pointer (some p)] 154)).heap.size = w.heap.size + 1 := by simp
  show Calls Tryz.prog 77 #[.pointer (some ⟨g, 0, none⟩), .agg #[.int .u64 hi, .int .u64 lo, .pointer (some p)]] w _
  go_enter Tryz.func77, Tryz.ntmps77
  go_wp2_with fail
  generalize w.alloc (.cells #[.int .u64 hi, .int .u64 lo, .pointer (some p)] 154) = W at *
  have c17 : W.cell? ⟨g, 17, none⟩ = some (.string network) := hcA.cell 17
  have b0 := hbox.cell 0
  have b1 := hbox.cell 1
  have b2 := hbox.cell 2
  have hGd : Glob W.drew p4 p6 := hGA.below (below_drewN (Below.refl _ _) 1)
  go_region_held3 (fun w' => w'.cell? ⟨g, 17, none⟩ = some (.string network) ∧ w'.cell? ⟨w.heap.size, 0, none⟩ = some (.int .u64 hi) ∧ w'.cell? ⟨w.heap.size, 1, none⟩ = some (.int .u64 lo) ∧ w'.cell? ⟨w.heap.size, 2, none⟩ = some (.pointer (some p)))
    (first | exact ⟨c17, b0, b1, b2⟩ | exact ⟨(hb1.cell (by simp only [World.size_drew]; omega)).trans c17, (hb1.cell (by simp only [World.size_drew]; omega)).trans b0, (hb1.cell (by simp only [World.size_drew]; omega)).trans b1, (hb1.cell (by simp only [World.size_drew]; omega)).trans b2⟩)
    (first | (go_at_call 78; refine (netType hn ho _ hGd).mono ?_; rintro e w1 ⟨rfl, hb1⟩))
  rename_i hHeld
  clear c17 b0 b1 b2 hHeld
  have hb01 : Below W.heap.size W w1 := (below_drewN (Below.refl _ _) 1 : Below W.heap.size W W.drew).trans hb1
  have hc1 := hcA.below hb01 hcA.lt
  have hbox1 := hbox.below hb01 (by omega)
  have hsz1 := hb01.size
  have hgrow1 : w.grownBy w1 (some g) := by
    have h := hb.trans (hb01.mono (by omega))
    exact ⟨h.os, h.tape, h.output, h.size, fun i hi _ => h.block i hi⟩
  clear hb hcA hGA hbox hGd hb1
  have c1 : w1.cell? ⟨g, 1, none⟩ = some (.int .i64 0) := hc1.cell 1
  have f1 := hc1.free 1
  go_wp2_with fail
  have hc2 := hc1.set 1 (.int .i64 (netNum tcp six))
  have hbox2 := hbox1.far (p := ⟨g, 1, none⟩) (by simp only; omega) (.int .i64 (netNum tcp six))
  have hgrow2 := only_set hgrow1 1 (.int .i64 (netNum tcp six))
  have hsz2 : w.heap.size < (w1.setCell ⟨g, 1, none⟩ (.int .i64 (netNum tcp six))).heap.size := hbox2.lt
  generalize w1.setCell ⟨g, 1, none⟩ (.int .i64 (netNum tcp six)) = W2 at *
  clear c1 f1 hb01 hc1 hbox1 hsz1 hgrow1
  have c5 : W2.cell? ⟨g, 5, none⟩ = some (.int .i64 port) := hc2.cell 5
  have c8 : W2.cell? ⟨g, 8, none⟩ = some (.int .u64 0) := hc2.cell 8
  have c9 : W2.cell? ⟨g, 9, none⟩ = some (.int .u64 0) := hc2.cell 9
  have c10 : W2.cell? ⟨g, 10, none⟩ = some (.pointer none) := hc2.cell 10
  have c11 : W2.cell? ⟨g, 11, none⟩ = some (.int .u16 0) := hc2.cell 11
  have f8 := hc2.free 8
  have f9 := hc2.free 9
  have f10 := hc2.free 10
  have f11 := hc2.free 11
  have b0 : W2.cell? ⟨w.heap.size, 0, none⟩ = some (.int .u64 hi) := hbox2.cell 0
  have b1 : W2.cell? ⟨w.heap.size, 1, none⟩ = some (.int .u64 lo) := hbox2.cell 1
  have b2 : W2.cell? ⟨w.heap.size, 2, none⟩ = some (.pointer (some p)) := hbox2.cell 2
  have hgl2 : g < W2.heap.size := by omega
  have hgne : w.heap.size ≠ g := by omega
  have hw16 : IntKind.u16.wrap port = port := IntWalk.u16_in _ ⟨h0, h1⟩
  have c5d : W2.drew.cell? ⟨g, 5, none⟩ = some (.int .i64 port) := c5
  have b0d : W2.drew.cell? ⟨w.heap.size, 0, none⟩ = some (.int .u64 hi) := b0
  have b1d : W2.drew.cell? ⟨w.heap.size, 1, none⟩ = some (.int .u64 lo) := b1
  have b2d : W2.drew.cell? ⟨w.heap.size, 2, none⟩ = some (.pointer (some p)) := b2
  go_region_held3 (fun w' => w'.cell? ⟨g, 5, none⟩ = some (.int .i64 port) ∧ w'.cell? ⟨w.heap.size, 0, none⟩ = some (.int .u64 hi) ∧ w'.cell? ⟨w.heap.size, 1, none⟩ = some (.int .u64 lo) ∧ w'.cell? ⟨w.heap.size, 2, none⟩ = some (.pointer (some p)))
    (first | (with_reducible exact ⟨c5, b0, b1, b2⟩) | (with_reducible exact ⟨c5d, b0d, b1d, b2d⟩) | (with_reducible exact ⟨k5, k0, k1, k2⟩) | exact ⟨cell_other (cell_other (cell_other (cell_other k5 (by simp) _) (by simp) _) (by simp) _) (by simp) _, cell_far (cell_far (cell_far (cell_far k0 hgne _ _) hgne _ _) hgne _ _) hgne _ _, cell_far (cell_far (cell_far (cell_far k1 hgne _ _) hgne _ _) hgne _ _) hgne _ _, cell_far (cell_far (cell_far (cell_far k2 hgne _ _) hgne _ _) hgne _ _) hgne _ _⟩)
    (first | (go_at_call 79; refine (addrPortFrom hi lo p port _).mono ?_; rintro e w3 ⟨rfl, hb1⟩; have d8 : w3.cell? ⟨g, 8, none⟩ = some (.int .u64 0) := (hb1.cell (by simp only [World.size_drew]; omega)).trans c8; have e8 : w3.frozen? ⟨g, 8, none⟩ = false := (hb1.frozen (by simp only [World.size_drew]; omega)).trans f8; have d9 : w3.cell? ⟨g, 9, none⟩ = some (.int .u64 0) := (hb1.cell (by simp only [World.size_drew]; omega)).trans c9; have e9 : w3.frozen? ⟨g, 9, none⟩ = false := (hb1.frozen (by simp only [World.size_drew]; omega)).trans f9; have d10 : w3.cell? ⟨g, 10, none⟩ = some (.pointer none) := (hb1.cell (by simp only [World.size_drew]; omega)).trans c10; have e10 : w3.frozen? ⟨g, 10, none⟩ = false := (hb1.frozen (by simp only [World.size_drew]; omega)).trans f10; have d11 : w3.cell? ⟨g, 11, none⟩ = some (.int .u16 0) := (hb1.cell (by simp only [World.size_drew]; omega)).trans c11; have e11 : w3.frozen? ⟨g, 11, none⟩ = false := (hb1.frozen (by simp only [World.size_drew]; omega)).trans f11; have k5 : w3.cell? ⟨g, 5, none⟩ = some (.int .i64 port) := (hb1.cell (by simp only [World.size_drew]; omega)).trans c5; have k0 : w3.cell? ⟨w.heap.size, 0, none⟩ = some (.int .u64 hi) := (hb1.cell (by simp only [World.size_drew]; omega)).trans b0; have k1 : w3.cell? ⟨w.heap.size, 1, none⟩ = some (.int .u64 lo) := (hb1.cell (by simp only [World.size_drew]; omega)).trans b1; have k2 : w3.cell? ⟨w.heap.size, 2, none⟩ = some (.pointer (some p)) := (hb1.cell (by simp only [World.size_drew]; omega)).trans b2; simp only [addrPortV]))
  have hb3 : Below W2.heap.size W2 w3 := (below_drewN (Below.refl _ _) 1 : Below W2.heap.size W2 W2.drew).trans hb1
  have hrow := ((((hc2.below hb3 hgl2).set 8 (.int .u64 hi)).set 9 (.int .u64 lo)).set 10 (.pointer (some p))).set 11 (.int .u16 port)
  have hgrow := only_set (only_set (only_set (only_set (only_below hgrow2 hb3) 8 (.int .u64 hi)) 9 (.int .u64 lo)) 10 (.pointer (some p))) 11 (.int .u16 port)
  rename_i hHeld
  clear hHeld c5 c8 c9 c10 c11 f8 f9 f10 f11 b0 b1 b2 d8 d9 d10 d11 e8 e9 e10 e11 k5 k0 k1 k2 c5d b0d b1d b2d
  have HROW := Lib.hid hrow
  have HGROW := Lib.hid hgrow
  clear hrow hgrow hc2 hbox2 hgrow2 hb1 hb3
  go_wp2_with fail
  go_ret
  exact ⟨rfl, HGROW.out, HROW.out⟩

set_option maxRecDepth 100000 in
set_option maxHeartbeats 1000000 in
theorem newHost {tcp six : Bool} {network addr : ByteArray} (hn : netName tcp network) (ha : addrText six addr) (hs : addr.size ≤ maxLen) (port comp prio tt : Int) (found : ByteArray) (h0 : 0 ≤ port) (h1 : port ≤ 65535)
    (gc : Nat) (w : World) (p4 p6 : Addr) (hG : Glob w p4 p6)
    (hc : Row w gc 96 #[.string ⟨#[]⟩, .string network, .string addr, .int .i64 port, .int .u16 comp, .int .u32 prio, .string found, .int .i64 tt, .bool false]) :
    Calls Tryz.prog 56 #[.pointer (some ⟨gc, 0, none⟩)] w fun e w' => e = .returned (.tuple #[.pointer (some ⟨w.heap.size, 0, none⟩), .nilIface]) ∧ Below w.heap.size w w' ∧
      ∃ (hi lo : Int) (p : Addr), Own six p4 p6 hi lo p ∧ Row w' w.heap.size 160 (hostCells (netNum tcp six) comp port tt hi lo prio (some p) port addr found network (.slice none 0 0)) := by
  have c0 := hc.cell 0
  have c1 := hc.cell 1
  have c2 := hc.cell 2
  have c3 := hc.cell 3
  have c4 := hc.cell 4
  have c5 := hc.cell 5
  have c6 := hc.cell 6
  have c7 := hc.cell 7
  have c8 := hc.cell 8
  have hlt := hc.lt
  go_enter Tryz.func56, Tryz.ntmps56
  go_wp2_with fail
  go_still_tail 35, (by kernel_rfl)
  change wpList _ _ _ _ _ w.drew
  go_wp2_with fail
  refine (noLocal ha hs _).mono ?_
  rintro e w' ⟨rfl, rfl⟩
  go_wp2_with fail
  refine (noInvalid ha hs _).mono ?_
  rintro e w' ⟨rfl, rfl⟩
  go_wp2_with fail
  refine (parseAddr_ok ha hs _ p4 p6 ?hG0).mono ?_
  case hG0 => exact hG.below (below_al (Below.refl _ _) (Nat.le_refl _) _).drew
  rintro e w1 ⟨⟨hi, lo, p, rfl, ho⟩, hb1⟩
  have hr1 : Row w1 w.heap.size 160 (hostCells 0 comp port tt 0 0 prio none 0 addr found network (.slice none 0 0)) := ((Row.new w 160 _).drew).below hb1 (by simp)
  have hb01 : Below w.heap.size w w1 := (below_al (Below.refl w.heap.size w) (Nat.le_refl _) _).drew.trans (hb1.mono (by simp))
  have HO := Lib.hid ho
  have hlt1 := hr1.lt
  clear ho c0 c1 c2 c3 c4 c5 c6 c7 c8 hb1
  simp only [addrV]
  go_wp2_with fail
  have hr2 : Row (w1.alloc (.cells #[.int .u64 hi, .int .u64 lo, .pointer (some p)] 154)) w.heap.size 160 (hostCells 0 comp port tt 0 0 prio none 0 addr found network (.slice none 0 0)) := hr1.alloc _
  have hb2 : Below w.heap.size w (w1.alloc (.cells #[.int .u64 hi, .int .u64 lo, .pointer (some p)] 154)) := below_al hb01 (Nat.le_refl _) _
  refine (setIP hn port comp prio tt found h0 h1 w.heap.size _ p4 p6 HO.out (hG.below hb2) hr2).mono ?_
  rintro e w3 ⟨rfl, hg3, hr3⟩
  have hb3 : Below w.heap.size w w3 := hb2.grown hg3 (by simp; omega) (some_ge (Nat.le_refl _))
  have HR := Lib.hid hr3
  clear hr3 hr2 hr1 hg3 hb2
  go_wp2_with fail
  go_ret2
  exact ⟨rfl, hb3, hi, lo, p, HO.out, HR.out⟩
end Go.Proofs.YtmfdbcfpcifmcaaGreatDoor

namespace Go.Proofs.YtmfdbcfpcifmcaaGreatDoor
open Go.RowKit

def netStr (tcp six : Bool) : ByteArray := match tcp, six with
  | false, false => ⟨#[117, 100, 112, 52]⟩ | false, true => ⟨#[117, 100, 112, 54]⟩ | true, false => ⟨#[116, 99, 112, 52]⟩ | true, true => ⟨#[116, 99, 112, 54]⟩
theorem netStr_ok (tcp six : Bool) : netName tcp (netStr tcp six) := by
  cases tcp <;> cases six <;> simp [netName, netStr]
set_option maxRecDepth 100000 in
set_option maxHeartbeats 400000 in
theorem netText (tcp six : Bool) (w : World) : Calls Tryz.prog 55 #[.int .i64 (netNum tcp six)] w fun e w' => e = .returned (.string (netStr tcp six)) ∧ w = w' := by
  cases tcp <;> cases six <;> simp only [netNum, netStr]
  all_goals
    go_enter Tryz.func55, Tryz.ntmps55
    go_wp2
    go_ret
    exact ⟨rfl, rfl⟩

/-- A candidate of package impl, as a value. -/
def candV (kind net tcp : Int) (found : ByteArray) (comp prio : Int) (addr : ByteArray) (port : Int) (rel ext : Value) : Value :=
  .agg #[.int .i64 kind, .int .i64 net, .int .i64 tcp, .string found, .int .i64 comp, .int .u32 prio, .string addr, .int .i64 port, rel, ext]

set_option maxRecDepth 100000 in
set_option maxHeartbeats 2000000 in
theorem madeHost (tcp six : Bool) {addr : ByteArray} (ha : addrText six addr) (hs : addr.size ≤ maxLen) (port comp prio tt : Int) (found : ByteArray) (h0 : 0 ≤ port) (h1 : port ≤ 65535) (hc0 : 0 ≤ comp) (hc1 : comp ≤ 65535) (ht0 : 0 ≤ tt) (ht1 : tt ≤ 3)
    (rp xp : Option Addr) (rc xc : Nat) (w : World) (p4 p6 : Addr) (hG : Glob w p4 p6) :
    Calls Tryz.prog 36 #[candV 1 (netNum tcp six) tt found comp prio addr port (.slice rp 0 rc) (.slice xp 0 xc)] w fun e w' => ∃ g : Nat, e = .returned (.iface 90 (.pointer (some ⟨g, 0, none⟩))) ∧ Below w.heap.size w w' ∧ w.heap.size ≤ g ∧
      ∃ (hi lo : Int) (p : Addr), Own six p4 p6 hi lo p ∧ Row w' g 160 (hostCells (netNum tcp six) comp port tt hi lo prio (some p) port addr found (netStr tcp six) (.slice none 0 0)) := by
  have hb := below_al (Below.refl w.heap.size w) (Nat.le_refl _) (.cells #[.int .i64 1, .int .i64 (netNum tcp six), .int .i64 tt, .string found, .int .i64 comp, .int .u32 prio, .string addr, .int .i64 port, .slice rp 0 rc, .slice xp 0 xc] 26)
  have hbx := Row.new w 26 #[.int .i64 1, .int .i64 (netNum tcp six), .int .i64 tt, .string found, .int .i64 comp, .int .u32 prio, .string addr, .int .i64 port, .slice rp 0 rc, .slice xp 0 xc]
  have hGA := hG.below hb
  simp only [candV]
  go_enter Tryz.func36, Tryz.ntmps36
  go_wp2_with fail
  generalize w.alloc (.cells #[.int .i64 1, .int .i64 (netNum tcp six), .int .i64 tt, .string found, .int .i64 comp, .int .u32 prio, .string addr, .int .i64 port, .slice rp 0 rc, .slice xp 0 xc] 26) = W at *
  refine (netText tcp six _).mono ?_
  rintro e w' ⟨rfl, rfl⟩
  have hgl := hbx.lt
  have c0 : W.cell? ⟨w.heap.size, 0, none⟩ = some (.int .i64 1) := hbx.cell 0
  have c2 : W.cell? ⟨w.heap.size, 2, none⟩ = some (.int .i64 tt) := hbx.cell 2
  have c3 : W.cell? ⟨w.heap.size, 3, none⟩ = some (.string found) := hbx.cell 3
  have c4 : W.cell? ⟨w.heap.size, 4, none⟩ = some (.int .i64 comp) := hbx.cell 4
  have c5 : W.cell? ⟨w.heap.size, 5, none⟩ = some (.int .u32 prio) := hbx.cell 5
  have c6 : W.cell? ⟨w.heap.size, 6, none⟩ = some (.string addr) := hbx.cell 6
  have c7 : W.cell? ⟨w.heap.size, 7, none⟩ = some (.int .i64 port) := hbx.cell 7
  have c8 : W.cell? ⟨w.heap.size, 8, none⟩ = some (.slice rp 0 rc) := hbx.cell 8
  have hw16 : IntKind.u16.wrap comp = comp := IntWalk.u16_in _ ⟨hc0, hc1⟩
  have e1 : decide (comp < 0) = false := by simp; omega
  have e2 : decide (comp > 65535) = false := by simp; omega
  have e3 : decide (tt < 0) = false := by simp; omega
  have e4 : decide (tt > 3) = false := by simp; omega
  go_wp2_with fail
  clear c0 c2 c3 c4 c5 c6 c7 c8
  have hB2 : Below w.heap.size w ((W.alloc (.cells #[.string ⟨#[]⟩, .int .i64 0] 59)).alloc (.cells #[.string ⟨#[]⟩, .string (netStr tcp six), .string addr, .int .i64 port, .int .u16 comp, .int .u32 prio, .string found, .int .i64 tt, .bool false] 96)) :=
    (hb.alloc (Nat.le_of_lt hgl) _).alloc (by simp only [World.size_alloc]; omega) _
  have hbx2 := (hbx.alloc (.cells #[.string ⟨#[]⟩, .int .i64 0] 59)).alloc (.cells #[.string ⟨#[]⟩, .string (netStr tcp six), .string addr, .int .i64 port, .int .u16 comp, .int .u32 prio, .string found, .int .i64 tt, .bool false] 96)
  have hcfg : Row ((W.alloc (.cells #[.string ⟨#[]⟩, .int .i64 0] 59)).alloc (.cells #[.string ⟨#[]⟩, .string (netStr tcp six), .string addr, .int .i64 port, .int .u16 comp, .int .u32 prio, .string found, .int .i64 tt, .bool false] 96)) (W.heap.size + 1) 96 #[.string ⟨#[]⟩, .string (netStr tcp six), .string addr, .int .i64 port, .int .u16 comp, .int .u32 prio, .string found, .int .i64 tt, .bool false] := by
    have h := Row.new (W.alloc (.cells #[.string ⟨#[]⟩, .int .i64 0] 59)) 96 #[.string ⟨#[]⟩, .string (netStr tcp six), .string addr, .int .i64 port, .int .u16 comp, .int .u32 prio, .string found, .int .i64 tt, .bool false]
    simpa using h
  have hG2 := hG.below hB2
  generalize (W.alloc (.cells #[.string ⟨#[]⟩, .int .i64 0] 59)).alloc (.cells #[.string ⟨#[]⟩, .string (netStr tcp six), .string addr, .int .i64 port, .int .u16 comp, .int .u32 prio, .string found, .int .i64 tt, .bool false] 96) = V at *
  clear hGA
  refine (newHost (netStr_ok tcp six) ha hs port comp prio tt found h0 h1 _ _ p4 p6 hG2 hcfg).mono ?_
  rintro e w1 ⟨rfl, hb1, hi, lo, p, ho, hr⟩
  have hgl2 := hbx2.lt
  have hbx3 := hbx2.below hb1 hgl2
  have hB3 := hB2.trans (hb1.mono (Nat.le_of_lt hgl2))
  have hle : w.heap.size ≤ V.heap.size := Nat.le_of_lt hgl2
  have HO := Lib.hid ho
  have HR := Lib.hid hr
  clear ho hr hb1 hbx2 hcfg hB2 hG2 hbx hb
  have c0 : w1.cell? ⟨w.heap.size, 0, none⟩ = some (.int .i64 1) := hbx3.cell 0
  have c2 : w1.cell? ⟨w.heap.size, 2, none⟩ = some (.int .i64 tt) := hbx3.cell 2
  have c9 : w1.cell? ⟨w.heap.size, 9, none⟩ = some (.slice xp 0 xc) := hbx3.cell 9
  go_wp2_with fail
  have e6 : decide (tt > 0) = true ∨ decide (tt > 0) = false := by cases decide (tt > 0) <;> simp
  rcases e6 with e6 | e6
  all_goals
    go_quiet (fail)
    go_wp2_with fail
    refine wp_loop_rounds 1 ?_
    rw [rounds_succ]
    go_wp2_with fail
    go_ret
    exact ⟨_, rfl, below_drewN hB3 _, hle, hi, lo, p, HO.out, HR.out.drewN _⟩
end Go.Proofs.YtmfdbcfpcifmcaaGreatDoor

namespace Go.Proofs.YtmfdbcfpcifmcaaGreatDoor
open Go.RowKit

theorem catch_idle (p : Addr) (w : World) :
    CallsD Tryz.prog 54 #[.pointer (some p)] .returning w fun e u' w' => e = .returned (.tuple #[]) ∧ u' = .returning ∧ w' = w := by
  refine callsD_of_wpS Tryz.func54 rfl fun c₀ cs hu => ?_
  apply wpS_seq
  apply wpS_region
  simp [wpOpsS, go_sem, recoverD, hu, Tryz.ntmps54, Exit.thenS]
  refine wpS_cond (t := false) (by simp [Act.eval, Array.replicate]) ?_
  simp only [Bool.false_eq_true, if_false]
  refine wpS_of_wp (wp_skip ?_)
  cases c₀
  simp_all [bodyPostS, results, Tryz.results54]

set_option maxRecDepth 100000 in
set_option maxHeartbeats 400000 in
/-- A closure that returns b, and leaves try's own cell as it was: try returns b. -/
theorem try_ok (K : Nat) (caps : Array Value) (hK : ∀ W, (callFunc K caps).run Tryz.prog W = .ok (.enter K caps) W) (Q : Bool → World → Prop) (w : World)
    (hc : Calls Tryz.prog K caps (w.alloc (.cells #[.bool false] 4)) fun e w' => ∃ b, e = .returned (.bool b) ∧ Row w' w.heap.size 4 #[.bool false] ∧ Q b w') :
    Calls Tryz.prog 34 #[.func (.func K) #[] caps] w fun e w' => ∃ (b : Bool) (w1 : World), e = .returned (.bool b) ∧ Q b w1 ∧ w' = w1.setCell ⟨w.heap.size, 0, none⟩ (.bool b) := by
  have hmf : ∀ (fn : Fn) (first cap : Array Value) (w : World), (Instr.makeFunc fn first cap).run Tryz.prog w = .ok (.func fn first cap) w := fun _ _ _ _ => rfl
  go_enter_defers Tryz.func34, Tryz.ntmps34
  go_wp2_with fail
  refine hc.mono ?_
  rintro e w1 ⟨b, rfl, hr, hq⟩
  have c0 : w1.cell? ⟨w.heap.size, 0, none⟩ = some (.bool false) := hr.cell 0
  have f0 := hr.free 0
  have hlt := hr.lt
  clear hK hc
  go_wp2_with fail
  refine leaves_cons (f := 54) (args := #[.pointer (some ⟨w.heap.size, 0, none⟩)]) (by simp) (by simp [go_sem]) ?_
  refine (catch_idle ⟨w.heap.size, 0, none⟩ _).mono ?_
  rintro e u' w'' ⟨rfl, rfl, rfl⟩
  have c1 : (w1.setCell ⟨w.heap.size, 0, none⟩ (.bool b)).cell? ⟨w.heap.size, 0, none⟩ = some (.bool b) := (hr.set 0 (.bool b)).cell 0
  refine ⟨.bool b, ?_, b, w1, rfl, hq, rfl⟩
  simp [results, Tryz.results34, go_sem, c1]
end Go.Proofs.YtmfdbcfpcifmcaaGreatDoor
